/- The call returns true at any two texts: where both are valid names, the one behind the other is one, too, and 'a' is a valid name; conditions: none. -/
import Derived.Test.YtcamdmkaahgihaaRows
import Derived.Test.YtcamdmkaahgihaaName
import Derived.WalkKit
import Derived.WalkSpells
import Derived.ProofKit
import Derived.OpenShut
import Derived.ShutString
import Derived.ChangeOld
import Derived.Below
namespace Go.Proofs.Ytcamdmkaahgihaa.nameJoin
open Go.ChangeShapes Go.WideShapes Go.ChangeAt Go.RowKit
open Go.ChangeMaps (open_string shut_string)

theorem walk (a b : ByteArray) (w : World) :
    Calls Try.prog 4 #[.string a, .string b] w fun e w' => e = .returned (.bool true) ∧ Below w.heap.size w w' := by
  have hb0 := Below.refl w.heap.size w
  have ha := nameB_a
  by_cases hs : (a.size : Int) > 2147483647
  · go_enter Try.func4, Try.ntmps4
    go_wp2
    go_ret
    exact ⟨rfl, hb0⟩
  · by_cases ht : (b.size : Int) > 2147483647
    · go_enter Try.func4, Try.ntmps4
      go_wp2
      go_ret
      exact ⟨rfl, hb0⟩
    · have hs' : a.size ≤ 2147483647 := by omega
      have ht' : b.size ≤ 2147483647 := by omega
      by_cases h1 : nameB a = true
      · by_cases h2 : nameB b = true
        · have h3 := nameB_join h1 h2
          go_enter Try.func4, Try.ntmps4
          go_wp2_with (first
          | (go_at_call 9; refine (implValidName _ _).mono ?_; rintro e w' ⟨rfl, hb⟩; have hb0 := hb0.trans (hb.mono hb0.size)))
          go_ret
          exact ⟨rfl, hb0⟩
        · replace h2 : nameB b = false := by simpa using h2
          go_enter Try.func4, Try.ntmps4
          go_wp2_with (first
          | (go_at_call 9; refine (implValidName _ _).mono ?_; rintro e w' ⟨rfl, hb⟩; have hb0 := hb0.trans (hb.mono hb0.size)))
          go_ret
          exact ⟨rfl, hb0⟩
      · replace h1 : nameB a = false := by simpa using h1
        go_enter Try.func4, Try.ntmps4
        go_wp2_with (first
          | (go_at_call 9; refine (implValidName _ _).mono ?_; rintro e w' ⟨rfl, hb⟩; have hb0 := hb0.trans (hb.mono hb0.size)))
        go_ret
        exact ⟨rfl, hb0⟩

theorem own : ownKnob Try.prog.godebug = none := by kernel_rfl
set_option maxRecDepth 100000 in
theorem lifted (os : Os) (started : os.Started) (H : Type) (enc : TypeId × Value → H) :
    ReturnsInHanded {} Try.checked os 4 .any (Rows.fnNameJoinSpec.pre6 enc Try.prog Try.f4 Rows.fnNameJoinRow.domain false) (Rows.fnNameJoinSpec.post enc Try.prog Try.f4 false true false false) := by
  refine returnsInHanded_of_change (C := Try.checked) own started (by kernel_rfl) Try.func4
    (ChangeSpec.witness6 (enc := enc) (C := Try.checked) false ⟨#[], #[.string ByteArray.empty, .string ByteArray.empty], []⟩ 8 (by kernel_rfl) (by kernel_rfl) (by kernel_rfl) (by kernel_rfl)) ?_
  intro W base args ds gs before hval0 hW _ _
  have hval : ∀ (j : Nat) t v, Try.f4.params[j]? = some t → args[j]? = some v → Value.okWide Try.prog W .any base t v := hval0
  have hW' := hW
  obtain ⟨p, q, hA0, hV, rfl, _, _⟩ := hW
  have hA : DataW.TrodAll enc Try.prog W 0 (fun _ => true) true Try.f4.params.toList args.toList ds p := hA0
  rw [Try.params4] at hA hval
  obtain ⟨v0, vs0, d0, ds0, p0, q0, hargs, rfl, rfl, h0, r0⟩ := trodAll_cons hA
  obtain ⟨v1, vs1, d1, ds1, p1, q1, hargs1, rfl, rfl, h1, r1⟩ := trodAll_cons r0
  obtain ⟨rfl, rfl, rfl⟩ := trodAll_nil r1
  obtain rfl : args = #[v0, v1] := by cases args; simp_all
  obtain ⟨rfl, rfl⟩ := trodVars_none hV
  obtain ⟨a, rfl, rfl, rfl, y0⟩ := open_string Try.underlying9 (hval 0 9 v0 rfl rfl) h0
  obtain ⟨b, rfl, rfl, rfl, y1⟩ := open_string Try.underlying9 (hval 1 9 v1 rfl rfl) h1
  clear hA0 hval0
  refine (walk a b W).mono fun e W' ⟨he, bel⟩ => ?_
  subst he
  exact ⟨_, rfl, _, _, _, [], _, [], hW', trodAll_mk1 (shut_bool Try.underlying4 _), (trodAll_cons_mk (shut_string Try.underlying9 y0) (trodAll_cons_mk (shut_string Try.underlying9 y1) trodAll_mk0)), rfl, bel.frame _, fun h => by cases h⟩

theorem proved : Rows.FnNameJoinSaid :=
  OpenClaim.holds_of_wide 4 Try.f4 rfl rfl rfl rfl rfl rfl rfl ⟨rfl, rfl, rfl, rfl, rfl⟩ rfl rfl rfl rfl rfl (by kernel_rfl) Try.func4 (by kernel_rfl)
    (of_decide_eq_true (by kernel_rfl)) (by unfold Func.isWrapper; first | (rw [if_pos (by decide +kernel)]; kernel_rfl) | (rw [if_neg (by decide +kernel)]; exact ⟨rfl, rfl⟩))
    (fun os started H enc _ => lifted os started H enc)

end Go.Proofs.Ytcamdmkaahgihaa.nameJoin
namespace Go.Proofs.Ytcamdmkaahgihaa
theorem fnNameJoin_holds : Rows.FnNameJoinSaid := nameJoin.proved
end Go.Proofs.Ytcamdmkaahgihaa
