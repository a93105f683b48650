import Derived.Test.Qxb6619025aFmtPdA
import Derived.Maps.AppendAt
import Derived.Deep.OwnRows
namespace Go.Proofs.Qxb6619025aFmt
open Go.RowKit
set_option linter.unusedVariables false

/-- The first occurrences among f 0, .., f (j - 1), in their order. -/
def fo (f : Nat → ByteArray) : Nat → List ByteArray
  | 0 => []
  | j + 1 => if has f (f j) j = true then fo f j else fo f j ++ [f j]
theorem fo_len (f : Nat → ByteArray) : ∀ j, (fo f j).length ≤ j
  | 0 => by simp [fo]
  | j + 1 => by
    have := fo_len f j
    unfold fo
    split <;> simp <;> omega
theorem fo_same {f : Nat → ByteArray} {j : Nat} (h : has f (f j) j = true) : fo f (j + 1) = fo f j := by
  simp [fo, h]
theorem fo_new {f : Nat → ByteArray} {j : Nat} (h : has f (f j) j = false) : fo f (j + 1) = fo f j ++ [f j] := by
  simp [fo, h]
theorem below_drewN (B : Nat) (w : World) (q : Nat) : Below B w (w.drewN q) := ⟨rfl, rfl, rfl, Nat.le_refl _, fun _ _ => rfl⟩
theorem owns_drewN {w : World} {base : Nat} {e : TypeId} {size : Nat} {v : Value} {n : Nat} {xs : List Value} (h : w.ownsRow base e size v n xs) (q : Nat) : (w.drewN q).ownsRow base e size v n xs := h
def strV (xs : List ByteArray) : List Value := xs.map Value.string
/-- The i-th of xs. -/
def nth (xs : List ByteArray) (i : Nat) : ByteArray := xs[i]?.getD ⟨#[]⟩
theorem info9 : (Tryf.prog.info? 9).map (fun i => (i.zero, i.size, i.bytes)) = some (some (.string ⟨#[]⟩), 1, 16) := by kernel_rfl

/-- What an owned row of strings reads as. -/
theorem owns_view {w : World} {base : Nat} {v : Value} {m : Nat} {xs : List ByteArray} (h : w.ownsRow base 9 1 v m (strV xs)) :
    ∃ ao g cap, v = .slice ao xs.length cap ∧ m = xs.length ∧ xs.length ≤ 9223372036854775807 ∧ (0 < xs.length → ao = some ⟨g, 0, none⟩ ∧ base ≤ g ∧ g < w.heap.size) ∧ (∀ i, i < xs.length → w.cell? ⟨g, 0 + i, none⟩ = some (.string (nth xs i))) := by
  obtain ⟨hl, h2⟩ := h
  have hm : m = xs.length := by simp [strV] at hl; omega
  subst hm
  rcases h2 with ⟨rfl, h0⟩ | ⟨g, cap, cur, rfl, hg, hh, hcap, hmax, hsz, htk⟩
  · exact ⟨none, 0, 0, by rw [h0], rfl, by omega, fun h => by omega, fun i hi => by omega⟩
  · have hml : cap ≤ 9223372036854775807 := by simpa [maxLen] using hmax
    refine ⟨_, g, cap, rfl, rfl, by omega, fun _ => ⟨rfl, hg, (Array.getElem?_eq_some_iff.1 hh).1⟩, fun i hi => ?_⟩
    have hcur : cur.toList[i]? = some (.string (nth xs i)) := by
      have h1 : (cur.toList.take (xs.length * 1))[i]? = (strV xs)[i]? := by rw [htk]
      rw [List.getElem?_take_of_lt (by omega)] at h1
      rw [h1]
      simp [strV, nth, List.getElem?_eq_getElem hi]
    simp only [World.cell?, hh, Nat.zero_add]
    simpa using hcur

set_option maxHeartbeats 400000 in
/-- zzFirstOccurrences. -/
theorem firsts_any (ao : Option Addr) (b off n c : Nat) (ha : 0 < n → ao = some ⟨b, off, none⟩) (f : Nat → ByteArray) (w : World) (hn : n ≤ 4096)
    (hc : ∀ i, i < n → w.cell? ⟨b, off + i, none⟩ = some (.string (f i))) :
    Calls Tryf.prog 12 #[.slice ao n c] w fun e w' => ∃ v, e = .returned v ∧ w'.ownsRow w.heap.size 9 1 v (fo f n).length (strV (fo f n)) ∧ Below w.heap.size w w' := by
  obtain ⟨i0, hi, hz0, hz1, hz2⟩ := info_parts info9
  have hN : (n : Int) = ((n : Nat) : Int) := rfl
  have HC : Hid (∀ i, i < n → w.cell? ⟨b, off + i, none⟩ = some (.string (f i))) := hc
  clear hc
  go_enter Tryf.func12, Tryf.ntmps12
  go_wp2_with (first | (at_make; refine wpList_make_own _ rfl _ _ 23 rfl w.heap.size 9 i0 (.string ⟨#[]⟩) 1 Tryf.underlying23 hi hz0 hz1 .i64 .i64 _ n rfl rfl rfl (by rw [hz2]; omega) (by unfold maxLen; omega) (Nat.le_refl _) ?_; intro w0 hown0 hgrow0))
  go_loopw [3, 4] (fun v i wr => ∃ k : Nat, k ≤ n ∧ i = .int .i64 k ∧ wr.ownsRow w.heap.size 9 1 v (fo f k).length (strV (fo f k)) ∧ Below w.heap.size w wr) (fun _ i _ => n - (intOf i).toNat)
  case atStart => exact ⟨0, by omega, rfl, hown0, (Below.refl _ _).grown hgrow0 (Nat.le_refl _) (fun k h => by cases h)⟩
  case round =>
    obtain ⟨k, hk, rfl, hown, hbel⟩ := hrel
    have hsz := hbel.size
    by_cases hlt : k < n
    · obtain rfl := ha (by omega)
      clear ha
      have hcr : ∀ i, i < n → wr.cell? ⟨b, off + i, none⟩ = some (.string (f i)) := fun i hi => by rw [hbel.cell (cell_lt (HC.out i hi))]; exact HC.out i hi
      have hck := hcr k hlt
      have hkn : (k : Int) < (n : Int) := by omega
      have hfl := fo_len f k
      have HCR : Hid (∀ i, i < n → wr.cell? ⟨b, off + i, none⟩ = some (.string (f i))) := hcr
      clear hcr
      by_cases hs : has f (f k) k = true
      · go_wp2_with (go_at_call 9; refine (seen_any _ b off n c k rfl f _ hlt (by omega) HCR.out).mono ?_; rintro e w2 ⟨rfl, q, hw2⟩; replace hw2 := hw2.symm; subst hw2)
        go_roundw
        case rel => exact ⟨k + 1, by omega, by go_num, by rw [fo_same hs]; exact hown, hbel.trans (below_drewN _ _ _)⟩
        case measure => simp [intOf]; omega
      · replace hs : has f (f k) k = false := by simpa using hs
        have HO : Hid (wr.ownsRow w.heap.size 9 1 _ (fo f k).length (strV (fo f k))) := hown
        go_wp2_with (first | (go_at_call 9; refine (seen_any _ b off n c k rfl f _ hlt (by omega) HCR.out).mono ?_; rintro e w2 ⟨rfl, q, hw2⟩; replace hw2 := hw2.symm; subst hw2) | (at_builtin; refine wpList_append_own _ rfl (.tmp 18) (.tmp 23) 23 rfl w.heap.size 9 i0 (.string ⟨#[]⟩) 1 16 Tryf.underlying23 hi hz0 hz1 hz2 rfl (by decide) _ _ _ rfl ((owns_drewN HO.out q).alloc _) ⟨wr.heap.size, 0, none⟩ 1 1 [.string (f k)] rfl rfl (cell_one_new (wr.drewN q) _ _) (by intro u hu; simp at hu; subst hu; rfl) (by unfold maxLen; omega) (by omega) (by simp; omega) ?_; intro v1 w1 hown1 hgrow1 hnil1))
        go_roundw
        case rel =>
          refine ⟨k + 1, by omega, by go_num, ?_, ?_⟩
          · rw [fo_new hs]
            have e1 : strV (fo f k ++ [f k]) = strV (fo f k) ++ [.string (f k)] := by simp [strV]
            have e2 : (fo f k ++ [f k]).length = (fo f k).length + 1 := by simp
            rw [e1, e2]
            exact hown1
          · exact ((hbel.trans (below_drewN _ _ q)).alloc hsz _).grown hgrow1 (by simp; omega) (fun j hj => (HO.out.lt j hj).1)
        case measure => simp [intOf]; omega
    · obtain rfl : k = n := by omega
      go_wp2
      go_ret
      exact ⟨_, rfl, hown, hbel⟩

/-- The row in block g behind k stores. -/
def CloneAt (w : World) (g n : Nat) (f : Nat → ByteArray) (k : Nat) : Prop := ∀ i, i < n → w.cell? ⟨g, i, none⟩ = some (.string (if i < k then f i else ⟨#[]⟩)) ∧ w.frozen? ⟨g, i, none⟩ = false
theorem CloneAt.set {w : World} {g n k : Nat} {f : Nat → ByteArray} (h : CloneAt w g n f k) (hk : k < n) : CloneAt (w.setCell ⟨g, k, none⟩ (.string (f k))) g n f (k + 1) := by
  intro i hi
  obtain ⟨h1, h2⟩ := h i hi
  refine ⟨?_, by rw [World.frozen?_setCell]; exact h2⟩
  by_cases hik : i = k
  · subst hik
    rw [World.cell?_setCell_same _ _ _ h1, if_pos (by omega)]
  · rw [World.cell?_setCell_other _ _ _ _ (by simp), h1]
    by_cases h3 : i < k
    · rw [if_pos h3, if_pos (by omega)]
    · rw [if_neg h3, if_neg (by omega)]
theorem clone_start (w : World) (n : Nat) (f : Nat → ByteArray) : CloneAt (w.alloc (.cells (madeCells #[.string ⟨#[]⟩] n) 9)) w.heap.size n f 0 := by
  intro i hi
  refine ⟨?_, World.frozen?_alloc_new w _ _ i⟩
  rw [World.cell?_alloc_new, if_neg (by omega)]
  simp [madeCells, hi, Nat.mod_one]

/-- zzCloneStrings. -/
theorem clone_any (ao : Option Addr) (b off n c : Nat) (ha : 0 < n → ao = some ⟨b, off, none⟩) (f : Nat → ByteArray) (w : World) (hn : n ≤ 8192)
    (hc : ∀ i, i < n → w.cell? ⟨b, off + i, none⟩ = some (.string (f i))) :
    Calls Tryf.prog 15 #[.slice ao n c] w fun e w' => e = .returned (.slice (some ⟨w.heap.size, 0, none⟩) n n) ∧ (∀ i, i < n → w'.cell? ⟨w.heap.size, 0 + i, none⟩ = some (.string (f i))) ∧ w.heap.size < w'.heap.size ∧ Below w.heap.size w w' := by
  have hmk := Go.run_make_row' (P := Tryf.prog) 23 9 (.string ⟨#[]⟩) 16 Tryf.underlying23 info9 rfl .i64 .i64 n (by omega) (by omega)
  have HC : Hid (∀ i, i < n → w.cell? ⟨b, off + i, none⟩ = some (.string (f i))) := hc
  clear hc
  go_enter Tryf.func15, Tryf.ntmps15
  go_wp2
  go_loopw [4] (fun i wr => ∃ k : Nat, k ≤ n ∧ i = .int .i64 k ∧ CloneAt wr w.heap.size n f k ∧ w.heap.size < wr.heap.size ∧ Below w.heap.size w wr) (fun i _ => n - (intOf i).toNat)
  case atStart => exact ⟨0, by omega, rfl, clone_start w n f, by simp, (Below.refl _ _).alloc (Nat.le_refl _) _⟩
  case round =>
    obtain ⟨k, hk, rfl, hcl, hsz, hbel⟩ := hrel
    by_cases hlt : k < n
    · obtain rfl := ha (by omega)
      clear ha
      have hck : wr.cell? ⟨b, off + k, none⟩ = some (.string (f k)) := by rw [hbel.cell (cell_lt (HC.out k hlt))]; exact HC.out k hlt
      obtain ⟨hd, hf⟩ := hcl k hlt
      have hkn : (k : Int) < (n : Int) := by omega
      have HD : Hid (CloneAt wr w.heap.size n f k) := hcl
      clear hcl
      rw [if_neg (by omega)] at hd
      go_wp2
      go_roundw
      case rel => exact ⟨k + 1, by omega, by go_num, HD.out.set hlt, by simpa [World.setCell] using hsz, hbel.setCell (by simp) _⟩
      case measure => simp [intOf]; omega
    · obtain rfl : k = n := by omega
      go_wp2
      go_ret
      exact ⟨rfl, fun i hi => by rw [Nat.zero_add, (hcl i hi).1, if_pos hi], hsz, hbel⟩
end Go.Proofs.Qxb6619025aFmt
