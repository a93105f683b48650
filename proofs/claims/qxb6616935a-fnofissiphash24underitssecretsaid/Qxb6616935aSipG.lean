import Derived.Test.Qxb6616935aSipF
import Derived.Deep.OwnRows
import Derived.Laws.IdiomCopy
namespace Go.Proofs.Qxb6616935a
open Go.RowKit
set_option linter.unusedVariables false

theorem info5 : (Try.prog.info? 5).map (fun i => (i.zero, i.size, i.bytes)) = some (some (.int .u8 0), 1, 1) := by kernel_rfl
theorem size5 : (Try.prog.info? 5).map (·.size) = some 1 := by kernel_rfl

theorem add_pl (b off i : Nat) : (⟨b, off, none⟩ : Addr).add i = ⟨b, off + i, none⟩ := by unfold Addr.add; split <;> simp_all
theorem below_setCells (B b : Nat) (hb : B ≤ b) : ∀ (vs : List Value) (o : Nat) (w0 w : World), Below B w0 w → Below B w0 (w.setCells b o vs)
  | [], _, _, _, h => h
  | v :: r, o, w0, w, h => below_setCells B b hb r (o + 1) w0 _ (h.setCell (p := ⟨b, o, none⟩) hb v)
theorem size_setCells (b : Nat) : ∀ (vs : List Value) (o : Nat) (w : World), (w.setCells b o vs).heap.size = w.heap.size
  | [], _, _ => rfl
  | v :: r, o, w => by
    rw [World.setCells, size_setCells b r]
    simp [World.setCell]
theorem made_cell (w : World) (z : Value) (L i : Nat) (h : i < L) : (w.alloc (.cells (madeCells #[z] L) 5)).cell? ⟨w.heap.size, i, none⟩ = some z := by
  rw [World.cell?_alloc_new]
  simp [madeCells, h, Nat.mod_one]
theorem made_frozen (w : World) (cs : Array Value) (t : TypeId) (i : Nat) : (w.alloc (.cells cs t)).frozen? ⟨w.heap.size, i, none⟩ = false := by
  exact World.frozen?_alloc_new w cs t i

/-- 'copy' into a row that has just been made. -/
theorem copy_new (W : World) (D : Nat) (hD : W.heap.size = D) (L n c g o : Nat) (ao : Option Addr) (ha : 0 < n → ao = some ⟨g, o, none⟩) (f : Nat → Int) (hnL : n ≤ L) (hc : ∀ i, i < n → W.cell? ⟨g, o + i, none⟩ = some (.int .u8 (f i))) :
    ∃ W3, (∀ ty, (Builtin.copy_ #[23, 23] ty #[.slice (some ⟨D, 0, none⟩) L L, .slice ao n c]).run Try.prog (W.alloc (.cells (madeCells #[.int .u8 0] L) 5)) = .ok (goInt n) W3) ∧
      W3.heap.size = D + 1 ∧ Below D W W3 ∧ (∀ i, i < L → W3.cell? ⟨D, i, none⟩ = some (.int .u8 (if i < n then f i else 0))) ∧ (∀ i, W3.frozen? ⟨D, i, none⟩ = false) := by
  subst hD
  have hbel : Below W.heap.size W (W.alloc (.cells (madeCells #[.int .u8 0] L) 5)) := (Below.refl _ _).alloc (Nat.le_refl _) _
  by_cases h0 : n = 0
  · subst h0
    refine ⟨_, fun ty => run_copy_none _ 23 23 ty 5 _ _ _ _ _ _ Try.underlying23 size5 (by simp), by simp, hbel, fun i hi => ?_, fun i => made_frozen _ _ _ _⟩
    rw [made_cell _ _ _ _ hi]; simp
  · obtain rfl := ha (by omega)
    have hlen : ((List.range n).map (fun i => Value.int .u8 (f i))).length = n := by simp
    have hin : ∀ j, j < ((List.range n).map (fun i => Value.int .u8 (f i))).length → ((W.alloc (.cells (madeCells #[.int .u8 0] L) 5)).cell? ⟨W.heap.size, 0 + j, none⟩).isSome = true := fun j hj => by
      rw [hlen] at hj
      rw [Nat.zero_add, made_cell _ _ _ _ (by omega)]; rfl
    have hrun := fun ty => run_copy_cells (P := Try.prog) (W.alloc (.cells (madeCells #[.int .u8 0] L) 5)) 23 23 ty 5 W.heap.size 0 L L ⟨g, o, none⟩ n c ((List.range n).map (fun i => Value.int .u8 (f i))) Try.underlying23 size5
      (by rw [hlen]; show n = min n L; omega)
      (fun j v hj => by
        simp only [List.getElem?_map, Option.map_eq_some_iff] at hj
        obtain ⟨k, hk, rfl⟩ := hj
        obtain ⟨hk1, hk2⟩ := List.getElem?_eq_some_iff.1 hk
        simp at hk1 hk2
        subst hk2
        rw [add_pl]
        exact cell_old (a := ⟨g, o + j, none⟩) _ (hc j hk1))
      hin (fun j _ => made_frozen _ _ _ _)
      (fun v hv => by
        obtain ⟨z, _, rfl⟩ := List.mem_map.1 hv
        rfl)
    rw [hlen] at hrun
    refine ⟨_, hrun, by rw [size_setCells]; simp, below_setCells _ _ (Nat.le_refl _) _ _ _ _ hbel, fun i hi => ?_, fun i => by rw [World.frozen?_setCells]; exact made_frozen _ _ _ _⟩
    by_cases hin2 : i < n
    · have h := World.cell?_setCells_in W.heap.size _ 0 _ hin i (by rw [hlen]; exact hin2)
      rw [Nat.zero_add] at h
      rw [h]
      simp [hin2]
    · rw [World.cell?_setCells_out _ _ _ _ _ (fun _ _ => by right; rw [hlen]; simp; omega), made_cell _ _ _ _ hi]
      simp [hin2]

end Go.Proofs.Qxb6616935a
