/- The call returns true at every whole number: each of the six further reserved words of bash is a keyword; conditions: none. -/
import Derived.Test.YtcamdmkaahgihaaRows
import Derived.Test.YtcamdmkaahgihaaWord
import Derived.WalkKit
import Derived.WalkSpells
import Derived.ProofKit
import Derived.OpenShut
import Derived.ShutString
import Derived.ChangeOld
import Derived.Below
namespace Go.Proofs.Ytcamdmkaahgihaa.keywordBash
open Go.ChangeShapes Go.WideShapes Go.ChangeAt Go.RowKit

/-- The words of the law, in its order. -/
def kwBs : List ByteArray := [⟨#[91, 91]⟩, ⟨#[93, 93]⟩, ⟨#[102, 117, 110, 99, 116, 105, 111, 110]⟩, ⟨#[115, 101, 108, 101, 99, 116]⟩, ⟨#[116, 105, 109, 101]⟩, ⟨#[99, 111, 112, 114, 111, 99]⟩]
def kwAt (k : Nat) : ByteArray := kwBs.getD k ByteArray.empty

theorem kwAt_true {k : Nat} (h : k < 6) : kwB (kwAt k).toList = true := by
  have : k = 0 ∨ k = 1 ∨ k = 2 ∨ k = 3 ∨ k = 4 ∨ k = 5 := by omega
  rcases this with rfl | rfl | rfl | rfl | rfl | rfl <;> decide +kernel

theorem kwAt_cell (w : World) (t : TypeId) {k : Nat} (h : k < 6) :
    (w.alloc (Obj.cells #[Value.string ⟨#[91, 91]⟩, Value.string ⟨#[93, 93]⟩, Value.string ⟨#[102, 117, 110, 99, 116, 105, 111, 110]⟩,
      Value.string ⟨#[115, 101, 108, 101, 99, 116]⟩, Value.string ⟨#[116, 105, 109, 101]⟩, Value.string ⟨#[99, 111, 112, 114, 111, 99]⟩] t)).cell? ⟨w.heap.size, k, none⟩ = some (.string (kwAt k)) := by
  have : k = 0 ∨ k = 1 ∨ k = 2 ∨ k = 3 ∨ k = 4 ∨ k = 5 := by omega
  rcases this with rfl | rfl | rfl | rfl | rfl | rfl <;> simp [kwAt, kwBs]

def Post (w : World) (e : Ending) (w' : World) : Prop := e = .returned (.bool true) ∧ Below w.heap.size w w'

set_option maxRecDepth 100000 in
theorem walkInside (k : Nat) (w : World) (hk : k < 6) : Calls Try.prog 6 #[.int .i64 k] w (Post w) := by
  have hT := kwAt_true hk
  have hcell := kwAt_cell w 9 hk
  have hk0 : (0 : Int) ≤ (k : Int) := Int.natCast_nonneg _
  have hk1 : (k : Int) < 6 := by omega
  go_enter Try.func6, Try.ntmps6
  go_wp2_with (first | (go_at_call 11; refine (implIsKeyword _ _).mono ?_; rintro e w' ⟨rfl, rfl⟩))
  go_ret
  exact ⟨rfl, (Below.refl _ _).alloc (Nat.le_refl _) _⟩

set_option maxRecDepth 100000 in
theorem walk (n : Int) (w : World) : Calls Try.prog 6 #[.int .i64 n] w (Post w) := by
  by_cases h0 : n < 0
  · go_enter Try.func6, Try.ntmps6
    go_wp2
    go_ret
    exact ⟨rfl, (Below.refl _ _).alloc (Nat.le_refl _) _⟩
  · by_cases h1 : 6 ≤ n
    · go_enter Try.func6, Try.ntmps6
      go_wp2
      go_ret
      exact ⟨rfl, (Below.refl _ _).alloc (Nat.le_refl _) _⟩
    · obtain ⟨k, rfl⟩ : ∃ k : Nat, n = (k : Int) := ⟨n.toNat, by omega⟩
      exact walkInside k w (by omega)

theorem own : ownKnob Try.prog.godebug = none := by kernel_rfl
set_option maxRecDepth 100000 in
theorem lifted (os : Os) (started : os.Started) (H : Type) (enc : TypeId × Value → H) :
    ReturnsInHanded {} Try.checked os 6 .any (Rows.fnKeywordBashSpec.pre6 enc Try.prog Try.f6 Rows.fnKeywordBashRow.domain false) (Rows.fnKeywordBashSpec.post enc Try.prog Try.f6 false true false false) := by
  refine returnsInHanded_of_change (C := Try.checked) own started (by kernel_rfl) Try.func6
    (ChangeSpec.witness6 (enc := enc) (C := Try.checked) false ⟨#[], #[.int .i64 0], []⟩ 8 (by kernel_rfl) (by kernel_rfl) (by kernel_rfl) (by kernel_rfl)) ?_
  intro W base args ds gs before hval0 hW _ _
  have hval : ∀ (j : Nat) t v, Try.f6.params[j]? = some t → args[j]? = some v → Value.okWide Try.prog W .any base t v := hval0
  have hW' := hW
  obtain ⟨p, q, hA0, hV, rfl, _, _⟩ := hW
  have hA : DataW.TrodAll enc Try.prog W 0 (fun _ => true) true Try.f6.params.toList args.toList ds p := hA0
  rw [Try.params6] at hA hval
  obtain ⟨v0, vs0, d0, ds0, p0, q0, hargs, rfl, rfl, h0, r0⟩ := trodAll_cons hA
  obtain ⟨rfl, rfl, rfl⟩ := trodAll_nil r0
  obtain rfl : args = #[v0] := by cases args; simp_all
  obtain ⟨rfl, rfl⟩ := trodVars_none hV
  obtain ⟨x, rfl, rfl, rfl, y0⟩ := open_int Try.underlying3 (hval 0 3 v0 rfl rfl) h0
  clear hA0 hval0
  refine (walk x W).mono fun e W' ⟨he, bel⟩ => ?_
  subst he
  exact ⟨_, rfl, _, _, _, [], _, [], hW', trodAll_mk1 (shut_bool Try.underlying4 _), (trodAll_cons_mk (shut_int Try.underlying3 y0) trodAll_mk0), rfl, bel.frame _, fun h => by cases h⟩

theorem proved : Rows.FnKeywordBashSaid :=
  OpenClaim.holds_of_wide 6 Try.f6 rfl rfl rfl rfl rfl rfl rfl ⟨rfl, rfl, rfl, rfl, rfl⟩ rfl rfl rfl rfl rfl (by kernel_rfl) Try.func6 (by kernel_rfl)
    (of_decide_eq_true (by kernel_rfl)) (by unfold Func.isWrapper; first | (rw [if_pos (by decide +kernel)]; kernel_rfl) | (rw [if_neg (by decide +kernel)]; exact ⟨rfl, rfl⟩))
    (fun os started H enc _ => lifted os started H enc)

end Go.Proofs.Ytcamdmkaahgihaa.keywordBash
namespace Go.Proofs.Ytcamdmkaahgihaa
theorem fnKeywordBash_holds : Rows.FnKeywordBashSaid := keywordBash.proved
end Go.Proofs.Ytcamdmkaahgihaa
