/- The call returns true at every text: one that holds a letter from A to Z is no keyword, and 'if' is one; conditions: none beyond the reach that the row's own form gives. -/
import Derived.Test.YtcamdmkaahgihaaPFnKeywordNonex1
namespace Go.Proofs.Ytcamdmkaahgihaa.Pure
open Go.RowKit Go.Proofs.Ytcamdmkaahgihaa.PFnKeywordNone Go.Proofs.YtcamdmkaahgihaaW.PrintWords Go.Proofs.YtcamdmkaahgihaaW.PrintLast

/-- 'if' is a keyword. -/
theorem kn_if : impl_IsKeyword.f (⟨#[105, 102]⟩ : ByteArray) = some true := by decide +kernel

theorem kn_step {s l : List UInt8} {x : Option Bool} (hl : l.all (fun c => decide (c.toNat < 65 ∨ 90 < c.toNat)) = true)
    (h : x = some false ∨ s.all (fun c => decide (c.toNat < 65 ∨ 90 < c.toNat)) = true) :
    (if s = l then (some true) else x) = some false ∨ s.all (fun c => decide (c.toNat < 65 ∨ 90 < c.toNat)) = true := by
  by_cases e : s = l
  · right; rw [e]; exact hl
  · rw [if_neg e]; exact h

/-- A text is no keyword, or none of its bytes is a great letter. -/
theorem kn_small0 (s : ByteArray) : syntax_IsKeyword.f s = some false ∨ s.toList.all (fun c => decide (c.toNat < 65 ∨ 90 < c.toNat)) = true := by
  unfold syntax_IsKeyword.f
  repeat (refine kn_step (by decide +kernel) ?_)
  exact Or.inl rfl
theorem kn_small (s : ByteArray) : impl_IsKeyword.f s = some false ∨ s.toList.all (fun c => decide (c.toNat < 65 ∨ 90 < c.toNat)) = true := by
  rcases kn_small0 s with h | h
  · left; unfold impl_IsKeyword.f; rw [h]; rfl
  · exact Or.inr h

/-- The byte at a place is among the text's bytes. -/
theorem kn_bt (s : ByteArray) (i : Int) (h0 : 0 ≤ i) (h1 : i < (s.size : Int)) : ∃ c ∈ s.toList, bt s i = (c.toNat : Int) := by
  have hi : i.toNat < s.size := by omega
  refine ⟨s[i.toNat]'hi, ?_, ?_⟩
  · rw [ByteArray.toList_eq]; exact Array.getElem_mem_toList hi
  · unfold bt; rw [dif_pos hi]

theorem kn_wrap {i : Int} {n : Nat} (h0 : 0 ≤ i) (h : i < (n : Int)) (hn : n ≤ 140737488351232) : wrap64 (i + 1) = i + 1 := by
  unfold wrap64
  omega

theorem kn_loop (s : ByteArray) (hn : s.size ≤ 140737488351232) (d : Nat) : ∀ (k : Nat) (i : Int), 0 ≤ i → i ≤ s.size → (s.size : Int) - i = d → 2 * d < k →
    laws_FnKeywordNone.l0 k s i = some true := by
  induction d with
  | zero =>
    intro k i h0 h1 hd hk
    obtain ⟨k, rfl⟩ : ∃ m, k = m + 1 := ⟨k - 1, by omega⟩
    simp only [laws_FnKeywordNone.l0]
    rw [if_neg (by omega), kn_if]
    rfl
  | succ d ih =>
    intro k i h0 h1 hd hk
    obtain ⟨k, rfl⟩ : ∃ m, k = m + 1 + 1 := ⟨k - 2, by omega⟩
    have hlt : i < (s.size : Int) := by omega
    have hnext : laws_FnKeywordNone.l0 k s (wrap64 (i + 1)) = some true := by
      rw [kn_wrap h0 hlt hn]
      exact ih k (i + 1) (by omega) (by omega) (by omega) (by omega)
    have hj0 : laws_FnKeywordNone.j1 (k + 1) s i false = some true := by
      simp only [laws_FnKeywordNone.j1]
      rw [if_neg (by decide)]
      exact hnext
    simp only [laws_FnKeywordNone.l0]
    rw [if_pos hlt, if_pos h0]
    by_cases hA : bt s i ≥ 65
    · rw [if_pos hA]
      by_cases hZ : bt s i ≤ 90
      · rw [decide_eq_true hZ]
        rcases kn_small s with hk | hk
        · simp only [laws_FnKeywordNone.j1]
          rw [if_pos trivial, hk, kn_if]
          rfl
        · exfalso
          obtain ⟨c, hc, e⟩ := kn_bt s i h0 hlt
          have := of_decide_eq_true (List.all_eq_true.mp hk c hc)
          omega
      · rw [decide_eq_false hZ]
        exact hj0
    · rw [if_neg hA]
      exact hj0

theorem FnKeywordNone : laws_FnKeywordNone.Pure := by
  intro s hn
  refine ⟨2 * s.size + 1, ?_⟩
  unfold laws_FnKeywordNone.f
  by_cases hs : (s.size : Int) > 2147483647
  · rw [if_pos hs]
  · rw [if_neg hs]
    exact kn_loop s hn s.size _ 0 (by omega) (by omega) (by omega) (by omega)

end Go.Proofs.Ytcamdmkaahgihaa.Pure
