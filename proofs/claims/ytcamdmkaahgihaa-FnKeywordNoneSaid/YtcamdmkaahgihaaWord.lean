/- The contracts of the functions that tell of keywords: which texts are keywords, as a plain law over bytes, and that syntax.IsKeyword and impl.IsKeyword answer by it; conditions: none. -/
import Derived.Test.YtcamdmkaahgihaaRows
import Derived.WalkKit
import Derived.WalkSpells
import Derived.Lib.Hide
namespace Go.Proofs.Ytcamdmkaahgihaa
open Go.RowKit

/-- The list of syntax.IsKeyword. -/
def kwList : List (List UInt8) :=
  [[33], [91, 91], [93, 93], [99, 97, 115, 101], [99, 111, 112, 114, 111, 99], [100, 111], [100, 111, 110, 101], [101, 108, 115, 101],
   [101, 115, 97, 99], [102, 105], [102, 111, 114], [102, 117, 110, 99, 116, 105, 111, 110], [105, 102], [105, 110], [115, 101, 108, 101, 99, 116],
   [116, 104, 101, 110], [116, 105, 109, 101], [117, 110, 116, 105, 108], [119, 104, 105, 108, 101], [123], [125]]
/-- Is this text a keyword? -/
def kwB (l : List UInt8) : Bool := kwList.contains l

theorem isKeyword (s : ByteArray) (w : World) : Calls Try.prog 15 #[.string s] w fun e w' => e = .returned (.bool (kwB s.toList)) ∧ w = w' := by
  by_cases hk : kwB s.toList = true
  · rw [hk]
    have hm : s.toList ∈ kwList := by unfold kwB at hk; simpa using hk
    clear hk
    simp only [kwList, List.mem_cons, List.not_mem_nil, or_false] at hm
    rcases hm with h | h | h | h | h | h | h | h | h | h | h | h | h | h | h | h | h | h | h | h | h
    all_goals
      go_enter Try.func15, Try.ntmps15
      go_wp2
      go_ret
      exact ⟨rfl, rfl⟩
  · have hm : ¬ s.toList ∈ kwList := by intro h; apply hk; unfold kwB; simpa using h
    replace hk : kwB s.toList = false := by simpa using hk
    rw [hk]
    clear hk
    simp only [kwList, List.mem_cons, List.not_mem_nil, or_false, not_or] at hm
    obtain ⟨h1, h2, h3, h4, h5, h6, h7, h8, h9, h10, h11, h12, h13, h14, h15, h16, h17, h18, h19, h20, h21⟩ := hm
    replace h1 := beq_eq_false_iff_ne.mpr h1
    replace h2 := beq_eq_false_iff_ne.mpr h2
    replace h3 := beq_eq_false_iff_ne.mpr h3
    replace h4 := beq_eq_false_iff_ne.mpr h4
    replace h5 := beq_eq_false_iff_ne.mpr h5
    replace h6 := beq_eq_false_iff_ne.mpr h6
    replace h7 := beq_eq_false_iff_ne.mpr h7
    replace h8 := beq_eq_false_iff_ne.mpr h8
    replace h9 := beq_eq_false_iff_ne.mpr h9
    replace h10 := beq_eq_false_iff_ne.mpr h10
    replace h11 := beq_eq_false_iff_ne.mpr h11
    replace h12 := beq_eq_false_iff_ne.mpr h12
    replace h13 := beq_eq_false_iff_ne.mpr h13
    replace h14 := beq_eq_false_iff_ne.mpr h14
    replace h15 := beq_eq_false_iff_ne.mpr h15
    replace h16 := beq_eq_false_iff_ne.mpr h16
    replace h17 := beq_eq_false_iff_ne.mpr h17
    replace h18 := beq_eq_false_iff_ne.mpr h18
    replace h19 := beq_eq_false_iff_ne.mpr h19
    replace h20 := beq_eq_false_iff_ne.mpr h20
    replace h21 := beq_eq_false_iff_ne.mpr h21
    go_enter Try.func15, Try.ntmps15
    go_wp2
    go_ret
    exact ⟨rfl, rfl⟩

theorem implIsKeyword (s : ByteArray) (w : World) : Calls Try.prog 11 #[.string s] w fun e w' => e = .returned (.bool (kwB s.toList)) ∧ w = w' := by
  go_enter Try.func11, Try.ntmps11
  go_wp2_with (first | (go_at_call 15; refine (isKeyword _ _).mono ?_; rintro e w' ⟨rfl, rfl⟩))
  go_ret
  exact ⟨rfl, rfl⟩

/-- 'if' is a keyword. -/
theorem kwB_if : kwB (⟨#[105, 102]⟩ : ByteArray).toList = true := by decide +kernel

/-- No keyword holds a great letter. -/
theorem kwList_small : ∀ x ∈ kwList, ∀ d ∈ x, d.toNat < 65 ∨ 90 < d.toNat := by
  intro x hx d hd
  have h : kwList.all (fun x => x.all fun d => decide (d.toNat < 65 ∨ 90 < d.toNat)) = true := by decide +kernel
  exact of_decide_eq_true (List.all_eq_true.mp (List.all_eq_true.mp h x hx) d hd)
theorem kwB_great {s : ByteArray} {i : Nat} (h : i < s.size) (h1 : 65 ≤ (s[i]'h).toNat) (h2 : (s[i]'h).toNat ≤ 90) : kwB s.toList = false := by
  cases hb : kwB s.toList with
  | false => rfl
  | true =>
    exfalso
    have hm : s.toList ∈ kwList := by unfold kwB at hb; simpa using hb
    have hd : (s[i]'h) ∈ s.toList := by rw [ByteArray.toList_eq]; exact Array.getElem_mem_toList h
    have := kwList_small _ hm _ hd
    omega

end Go.Proofs.Ytcamdmkaahgihaa
