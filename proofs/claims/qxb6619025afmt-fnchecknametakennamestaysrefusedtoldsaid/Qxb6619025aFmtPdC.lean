import Derived.Test.Qxb6619025aFmtPdB
namespace Go.Proofs.Qxb6619025aFmt
open Go.RowKit
set_option linter.unusedVariables false

/-- The List lies in block LB: its key and items are empty; its names are the slice sv, a row of the call's own that holds xs. -/
structure LAt (w : World) (LB : Nat) (noun pre : ByteArray) (sv : Value) (xs : List ByteArray) : Prop where
  blk : w.heap[LB]? = some (.cells #[.slice none 0 0, .string ⟨#[]⟩, .slice none 0 0, .string noun, .string pre, sv] 42 (0, 0))
  own : w.ownsRow (LB + 1) 9 1 sv xs.length (strV xs)
theorem LAt.lt {w : World} {LB : Nat} {noun pre : ByteArray} {sv : Value} {xs : List ByteArray} (h : LAt w LB noun pre sv xs) : LB < w.heap.size := (Array.getElem?_eq_some_iff.1 h.blk).1
theorem LAt.c5 {w : World} {LB : Nat} {noun pre : ByteArray} {sv : Value} {xs : List ByteArray} (h : LAt w LB noun pre sv xs) : w.cell? ⟨LB, 5, none⟩ = some sv := by simp [World.cell?, h.blk]
theorem LAt.f5 {w : World} {LB : Nat} {noun pre : ByteArray} {sv : Value} {xs : List ByteArray} (h : LAt w LB noun pre sv xs) : w.frozen? ⟨LB, 5, none⟩ = false := by simp [World.frozen?, h.blk]
/-- What was there stands: so the List does. -/
theorem LAt.keep {w w' : World} {LB : Nat} {noun pre : ByteArray} {sv : Value} {xs : List ByteArray} (h : LAt w LB noun pre sv xs) (hb : Below w.heap.size w w') : LAt w' LB noun pre sv xs := by
  refine ⟨by rw [hb.block LB h.lt]; exact h.blk, ?_⟩
  obtain ⟨h1, h2⟩ := h.own
  refine ⟨h1, ?_⟩
  rcases h2 with h2 | ⟨g, cap, cur, e1, e2, e3, e4⟩
  · exact .inl h2
  · exact .inr ⟨g, cap, cur, e1, e2, by rw [hb.block g (Array.getElem?_eq_some_iff.1 e3).1]; exact e3, e4⟩

theorem heap_new (w : World) (o : Obj) : (w.alloc o).heap[w.heap.size]? = some o := by
  show (w.heap.push o)[w.heap.size]? = some o
  simp
/-- ZZnewList. -/
theorem new_any (noun pre : ByteArray) (w : World) :
    Calls Tryf.prog 7 #[.string noun, .string pre] w fun e w' => e = .returned (.pointer (some ⟨w.heap.size, 0, none⟩)) ∧ LAt w' w.heap.size noun pre (.slice none 0 0) [] ∧ Below w.heap.size w w' := by
  go_enter Tryf.func7, Tryf.ntmps7
  go_wp2
  go_ret
  exact ⟨rfl, ⟨heap_new w _, rfl, .inl ⟨rfl, rfl⟩⟩, (Below.refl _ _).alloc (Nat.le_refl _) _⟩
/-- ZZlistNames. -/
theorem names_any (LB : Nat) (noun pre : ByteArray) (sv : Value) (xs : List ByteArray) (w : World) (h : LAt w LB noun pre sv xs) :
    Calls Tryf.prog 11 #[.pointer (some ⟨LB, 0, none⟩)] w fun e w' => e = .returned sv ∧ w' = w := by
  have h5 := h.c5
  obtain ⟨ao, g, cap, rfl, -⟩ := owns_view h.own
  clear h
  go_enter Tryf.func11, Tryf.ntmps11
  go_wp2
  go_ret
  exact ⟨rfl, rfl⟩

theorem own_slice {w : World} {base : Nat} {e : TypeId} {v : Value} {m : Nat} {xs : List Value} (h : w.ownsRow base e 1 v (m + 1) xs) : ∃ g cap, v = .slice (some ⟨g, 0, none⟩) (m + 1) cap := by
  rcases h.2 with ⟨_, h0⟩ | ⟨g, cap, cur, rfl, _⟩
  · omega
  · exact ⟨g, cap, rfl⟩
/-- An append to the List's names leaves the List's own block alone. -/
theorem far_block {w w1 : World} {LB : Nat} {noun pre : ByteArray} {sv : Value} {xs : List ByteArray} {o : Obj} (h : LAt w LB noun pre sv xs) (hg : (w.alloc o).grownBy w1 sv.ownBlock) :
    w1.heap[LB]? = some (.cells #[.slice none 0 0, .string ⟨#[]⟩, .slice none 0 0, .string noun, .string pre, sv] 42 (0, 0)) := by
  have hlt := h.lt
  rw [hg.block LB (by simp; omega) (fun e => by have := (h.own.lt LB e.symm).1; omega), Below.heap_alloc _ _ _ hlt]
  exact h.blk

theorem LAt.taken {w w1 : World} {LB : Nat} {noun pre x : ByteArray} {sv v : Value} {xs : List ByteArray} (h : LAt w LB noun pre sv xs)
    (hb : w1.heap[LB]? = some (.cells #[.slice none 0 0, .string ⟨#[]⟩, .slice none 0 0, .string noun, .string pre, sv] 42 (0, 0))) (ho : w1.ownsRow (LB + 1) 9 1 v (xs.length + 1) (strV xs ++ [.string x])) :
    LAt (w1.setCell ⟨LB, 5, none⟩ v) LB noun pre v (xs ++ [x]) := by
  refine ⟨?_, ?_⟩
  · simp [World.setCell, Array.getElem?_modify, hb]
  · have e1 : strV (xs ++ [x]) = strV xs ++ [.string x] := by simp [strV]
    have e2 : (xs ++ [x]).length = xs.length + 1 := by simp
    rw [e1, e2]
    exact ownsRow_setCell_below ho (by simp) _

/-- CheckName at a name that is not taken. -/
theorem check_new (LB : Nat) (noun pre : ByteArray) (sv : Value) (xs : List ByteArray) (n : Int) (x : ByteArray) (w : World) (h : LAt w LB noun pre sv xs) (hl : xs.length ≤ 8192) (hx : has (nth xs) x xs.length = false) :
    Calls Tryf.prog 8 #[.pointer (some ⟨LB, 0, none⟩), .int .i64 n, .string x] w fun e w' => e = .returned .nilIface ∧ (∃ sv', LAt w' LB noun pre sv' (xs ++ [x])) ∧ Below LB w w' := by
  obtain ⟨i0, hi, hz0, hz1, hz2⟩ := info_parts info9
  have h5 := h.c5
  have HL : Hid (LAt w LB noun pre sv xs) := h
  have hlt := h.lt
  obtain ⟨ao, g, cap, rfl, hm, hmx, hao, hcs⟩ := owns_view h.own
  have HA : Hid (0 < xs.length → ao = some ⟨g, 0, none⟩) := fun h0 => (hao h0).1
  have HC : Hid (∀ i, i < xs.length → w.cell? ⟨g, 0 + i, none⟩ = some (.string (nth xs i))) := hcs
  clear h hm hao hcs
  go_enter Tryf.func8, Tryf.ntmps8
  go_wp2_with (first | (go_at_call 16; refine (among_any ao g 0 xs.length cap HA.out _ x _ hmx HC.out).mono ?_; rintro e w2 ⟨rfl, hw2⟩; replace hw2 := hw2.symm; subst hw2) | (at_builtin; refine wpList_append_own _ rfl (.tmp 34) (.tmp 36) 23 rfl (LB + 1) 9 i0 (.string ⟨#[]⟩) 1 16 Tryf.underlying23 hi hz0 hz1 hz2 rfl (by decide) (.slice ao xs.length cap) _ _ rfl (HL.out.own.alloc _) ⟨w.heap.size, 0, none⟩ 1 1 [.string x] rfl rfl (cell_one_new w _ _) (by intro u hu; simp at hu; subst hu; rfl) (by unfold maxLen; omega) (by omega) (by simp; omega) ?_; intro v1 w1 hown1 hgrow1 hnil1; clear hnil1; have hbk := far_block HL.out hgrow1; obtain ⟨g1, cap1, hv1⟩ := own_slice hown1; rw [hv1]; rw [hv1] at hown1; clear hv1; have h51 : w1.cell? ⟨LB, 5, none⟩ = some (.slice ao xs.length cap) := (by simp [World.cell?, hbk]); have f51 : w1.frozen? ⟨LB, 5, none⟩ = false := (by simp [World.frozen?, hbk])))
  go_ret
  exact ⟨rfl, ⟨_, HL.out.taken hbk hown1⟩, ((((Below.refl LB w).alloc (by omega) _).grown hgrow1 (by simp; omega) (fun k e => by have := (HL.out.own.lt k e).1; omega))).setCell (by simp) _⟩
end Go.Proofs.Qxb6619025aFmt
