import Derived.Test.Qxb6619025aFmtPdJ
namespace Go.Proofs.Qxb6619025aFmt
open Go.RowKit
set_option linter.unusedVariables false

/-- Of the blocks that were there the List's and its names' row alone may have turned. -/
def Far (w : World) (LB : Nat) (sv : Value) (w' : World) : Prop := ∀ k, k < w.heap.size → k ≠ LB → some k ≠ sv.ownBlock → w'.heap[k]? = w.heap[k]?
theorem owns_keep {w w' : World} {base : Nat} {e : TypeId} {size : Nat} {v : Value} {n : Nat} {xs : List Value} (h : w.ownsRow base e size v n xs) (hk : ∀ g, v.ownBlock = some g → w'.heap[g]? = w.heap[g]?) : w'.ownsRow base e size v n xs := by
  obtain ⟨h1, h2⟩ := h
  refine ⟨h1, ?_⟩
  rcases h2 with h2 | ⟨g, cap, cur, e1, e2, e3, e4⟩
  · exact .inl h2
  · exact .inr ⟨g, cap, cur, e1, e2, by rw [hk g (by rw [e1]; rfl)]; exact e3, e4⟩
theorem owns_below {w w' : World} {base : Nat} {e : TypeId} {size : Nat} {v : Value} {n : Nat} {xs : List Value} (h : w.ownsRow base e size v n xs) (hb : Below w.heap.size w w') : w'.ownsRow base e size v n xs :=
  owns_keep h fun g hg => hb.block g (h.lt g hg).2

/-- CheckName at a name that is not taken: the List's block and its names' row alone have turned. -/
theorem check_new2 (LB : Nat) (noun pre : ByteArray) (sv : Value) (xs : List ByteArray) (n : Int) (x : ByteArray) (w : World) (h : LAt w LB noun pre sv xs) (hl : xs.length ≤ 8192) (hx : has (nth xs) x xs.length = false) :
    Calls Tryf.prog 8 #[.pointer (some ⟨LB, 0, none⟩), .int .i64 n, .string x] w fun e w' => e = .returned .nilIface ∧ (∃ sv', LAt w' LB noun pre sv' (xs ++ [x])) ∧ Below LB w w' ∧ Far w LB sv w' := by
  obtain ⟨i0, hi, hz0, hz1, hz2⟩ := info_parts info9
  have h5 := h.c5
  have HL : Hid (LAt w LB noun pre sv xs) := h
  have hlt := h.lt
  obtain ⟨ao, g, cap, rfl, hm, hmx, hao, hcs⟩ := owns_view h.own
  have HA : Hid (0 < xs.length → ao = some ⟨g, 0, none⟩) := fun h0 => (hao h0).1
  have HC : Hid (∀ i, i < xs.length → w.cell? ⟨g, 0 + i, none⟩ = some (.string (nth xs i))) := hcs
  clear h hm hao hcs
  go_enter Tryf.func8, Tryf.ntmps8
  go_wp2_with (first | (go_at_call 16; refine (among_any ao g 0 xs.length cap HA.out _ x _ hmx HC.out).mono ?_; rintro e w2 ⟨rfl, hw2⟩; replace hw2 := hw2.symm; subst hw2) | (at_builtin; refine wpList_append_own _ rfl (.tmp 34) (.tmp 36) 23 rfl (LB + 1) 9 i0 (.string ⟨#[]⟩) 1 16 Tryf.underlying23 hi hz0 hz1 hz2 rfl (by decide) (.slice ao xs.length cap) _ _ rfl (HL.out.own.alloc _) ⟨w.heap.size, 0, none⟩ 1 1 [.string x] rfl rfl (cell_one_new w _ _) (by intro u hu; simp at hu; subst hu; rfl) (by unfold maxLen; omega) (by omega) (by simp; omega) ?_; intro v1 w1 hown1 hgrow1 hnil1; clear hnil1; have hbk := far_block HL.out hgrow1; obtain ⟨g1, cap1, hv1⟩ := own_slice hown1; rw [hv1]; rw [hv1] at hown1; clear hv1; have h51 : w1.cell? ⟨LB, 5, none⟩ = some (.slice ao xs.length cap) := (by simp [World.cell?, hbk]); have f51 : w1.frozen? ⟨LB, 5, none⟩ = false := (by simp [World.frozen?, hbk])))
  go_ret
  exact ⟨rfl, ⟨_, HL.out.taken hbk hown1⟩, ((((Below.refl LB w).alloc (by omega) _).grown hgrow1 (by simp; omega) (fun k e => by have := (HL.out.own.lt k e).1; omega))).setCell (by simp) _, fun k hk h1 h2 => by rw [Below.heap_setCell _ _ _ _ h1, hgrow1.block k (by simp; omega) h2, Below.heap_alloc _ _ _ hk]⟩
end Go.Proofs.Qxb6619025aFmt
