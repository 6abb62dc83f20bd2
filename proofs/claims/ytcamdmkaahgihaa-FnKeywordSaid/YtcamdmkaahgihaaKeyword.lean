/- The call returns true at every whole number and byte: each of the fifteen reserved words of POSIX is a keyword, and with a digit behind it it is none; conditions: none. -/
import Derived.Test.YtcamdmkaahgihaaRows
import Derived.Test.YtcamdmkaahgihaaWord
import Derived.WalkKit
import Derived.WalkSpells
import Derived.ProofKit
import Derived.OpenShut
import Derived.ShutString
import Derived.ChangeOld
import Derived.Below
import Derived.Deep.RegionWith
import Derived.Laws.BytesArg
import Derived.Laws.Concat
namespace Go.Proofs.Ytcamdmkaahgihaa.keyword
open Go.ChangeShapes Go.WideShapes Go.ChangeAt Go.RowKit

/-- The words of the law, in its order. -/
def kwAs : List ByteArray :=
  [⟨#[33]⟩, ⟨#[123]⟩, ⟨#[125]⟩, ⟨#[99, 97, 115, 101]⟩, ⟨#[100, 111]⟩, ⟨#[100, 111, 110, 101]⟩, ⟨#[101, 108, 115, 101]⟩, ⟨#[101, 115, 97, 99]⟩,
   ⟨#[102, 105]⟩, ⟨#[102, 111, 114]⟩, ⟨#[105, 102]⟩, ⟨#[105, 110]⟩, ⟨#[116, 104, 101, 110]⟩, ⟨#[117, 110, 116, 105, 108]⟩, ⟨#[119, 104, 105, 108, 101]⟩]
def kwA (k : Nat) : ByteArray := kwAs.getD k ByteArray.empty

theorem kwA_true {k : Nat} (h : k < 15) : kwB (kwA k).toList = true := by
  have : k = 0 ∨ k = 1 ∨ k = 2 ∨ k = 3 ∨ k = 4 ∨ k = 5 ∨ k = 6 ∨ k = 7 ∨ k = 8 ∨ k = 9 ∨ k = 10 ∨ k = 11 ∨ k = 12 ∨ k = 13 ∨ k = 14 := by omega
  rcases this with rfl | rfl | rfl | rfl | rfl | rfl | rfl | rfl | rfl | rfl | rfl | rfl | rfl | rfl | rfl <;> decide +kernel

theorem kwA_cell (w : World) (t : TypeId) {k : Nat} (h : k < 15) :
    (w.alloc (Obj.cells #[Value.string ⟨#[33]⟩, Value.string ⟨#[123]⟩, Value.string ⟨#[125]⟩, Value.string ⟨#[99, 97, 115, 101]⟩, Value.string ⟨#[100, 111]⟩,
      Value.string ⟨#[100, 111, 110, 101]⟩, Value.string ⟨#[101, 108, 115, 101]⟩, Value.string ⟨#[101, 115, 97, 99]⟩, Value.string ⟨#[102, 105]⟩,
      Value.string ⟨#[102, 111, 114]⟩, Value.string ⟨#[105, 102]⟩, Value.string ⟨#[105, 110]⟩, Value.string ⟨#[116, 104, 101, 110]⟩,
      Value.string ⟨#[117, 110, 116, 105, 108]⟩, Value.string ⟨#[119, 104, 105, 108, 101]⟩] t)).cell? ⟨w.heap.size, k, none⟩ = some (.string (kwA k)) := by
  have : k = 0 ∨ k = 1 ∨ k = 2 ∨ k = 3 ∨ k = 4 ∨ k = 5 ∨ k = 6 ∨ k = 7 ∨ k = 8 ∨ k = 9 ∨ k = 10 ∨ k = 11 ∨ k = 12 ∨ k = 13 ∨ k = 14 := by omega
  rcases this with rfl | rfl | rfl | rfl | rfl | rfl | rfl | rfl | rfl | rfl | rfl | rfl | rfl | rfl | rfl <;> simp [kwA, kwAs]

/-- The text of one byte. -/
def one (c : Int) : ByteArray := strOfNums [c]

theorem one_size (c : Int) : (one c).size = 1 := rfl
theorem one_toList (c : Int) : (one c).toList = [UInt8.ofNat c.toNat] := by rw [ByteArray.toList_eq]; rfl

theorem kwList_last : ∀ x ∈ kwList, ∀ d : UInt8, x.getLast? = some d → d.toNat < 48 ∨ 57 < d.toNat := by
  intro x hx d hd
  have h : kwList.all (fun x => (x.getLast?.map fun d => decide (d.toNat < 48 ∨ 57 < d.toNat)).getD true) = true := by decide +kernel
  have := List.all_eq_true.mp h x hx
  rw [hd] at this
  exact of_decide_eq_true this

theorem kw_digit (s : ByteArray) (c : Int) (h2 : 48 ≤ c) (h3 : c ≤ 57) : kwB (s ++ one c).toList = false := by
  rw [ByteArray.toList_eq, ByteArray.data_append, Array.toList_append, ← ByteArray.toList_eq (one c), one_toList]
  cases hb : kwB (s.data.toList ++ [UInt8.ofNat c.toNat]) with
  | false => rfl
  | true =>
    exfalso
    have hm : s.data.toList ++ [UInt8.ofNat c.toNat] ∈ kwList := by unfold kwB at hb; simpa using hb
    have := kwList_last _ hm (UInt8.ofNat c.toNat) (by simp)
    have e : (UInt8.ofNat c.toNat).toNat = c.toNat := by simp; omega
    rw [e] at this
    omega

theorem kwA_size {k : Nat} (h : k < 15) : (kwA k).size ≤ 5 := by
  have : k = 0 ∨ k = 1 ∨ k = 2 ∨ k = 3 ∨ k = 4 ∨ k = 5 ∨ k = 6 ∨ k = 7 ∨ k = 8 ∨ k = 9 ∨ k = 10 ∨ k = 11 ∨ k = 12 ∨ k = 13 ∨ k = 14 := by omega
  rcases this with rfl | rfl | rfl | rfl | rfl | rfl | rfl | rfl | rfl | rfl | rfl | rfl | rfl | rfl | rfl <;> decide +kernel

theorem conv_one (W : World) (c : Int) :
    (convert 25 9 (.slice (some ⟨W.heap.size, 0, none⟩) 1 1)).run Try.prog (W.alloc (Obj.cells #[Value.int .u8 c] 5)).drew = .ok (.string (one c)) (W.alloc (Obj.cells #[Value.int .u8 c] 5)).drew := by
  refine run_convert_bytes_arg _ 25 5 Try.underlying25 Try.underlying5 W.heap.size 0 1 1 [c] rfl (fun i hi => ?_) 9 Try.underlying9
  have : i = 0 := by omega
  subst this
  simp

theorem below_drew {B : Nat} {a w : World} (h : Below B a w) : Below B a w.drew := h.trans ⟨rfl, rfl, rfl, Nat.le_refl _, fun _ _ => rfl⟩

def Post (w : World) (e : Ending) (w' : World) : Prop := e = .returned (.bool true) ∧ Below w.heap.size w w'

set_option maxRecDepth 100000 in
set_option maxHeartbeats 1000000 in
theorem walkOutside (n c : Int) (w : World) (h : n < 0 ∨ 15 ≤ n ∨ c < 48 ∨ 57 < c) : Calls Try.prog 5 #[.int .i64 n, .int .u8 c] w (Post w) := by
  by_cases h0 : n < 0
  · clear h
    go_enter Try.func5, Try.ntmps5
    go_wp2
    go_ret
    exact ⟨rfl, (Below.refl _ _).alloc (Nat.le_refl _) _⟩
  · by_cases h1 : 15 ≤ n
    · clear h
      go_enter Try.func5, Try.ntmps5
      go_wp2
      go_ret
      exact ⟨rfl, (Below.refl _ _).alloc (Nat.le_refl _) _⟩
    · by_cases h2 : c < 48
      · clear h
        go_enter Try.func5, Try.ntmps5
        go_wp2
        go_ret
        exact ⟨rfl, (Below.refl _ _).alloc (Nat.le_refl _) _⟩
      · have h3 : 57 < c := by omega
        clear h
        go_enter Try.func5, Try.ntmps5
        go_wp2
        go_ret
        exact ⟨rfl, (Below.refl _ _).alloc (Nat.le_refl _) _⟩

set_option maxRecDepth 100000 in
set_option maxHeartbeats 1000000 in
theorem walkInside (k : Nat) (c : Int) (w : World) (hk : k < 15) (h2 : 48 ≤ c) (h3 : c ≤ 57) : Calls Try.prog 5 #[.int .i64 k, .int .u8 c] w (Post w) := by
  have hT := kwA_true hk
  have hF := kw_digit (kwA k) c h2 h3
  have hsz : (kwA k).size + (one c).size ≤ 9223372036854775807 := by have := kwA_size hk; rw [one_size]; omega
  have hcell := fun t => kwA_cell w t hk
  have hk0 : (0 : Int) ≤ (k : Int) := Int.natCast_nonneg _
  have hk1 : (k : Int) < 15 := by omega
  go_enter Try.func5, Try.ntmps5
  go_wp2
  have hc1 := hcell 9
  clear hcell
  generalize hW : w.alloc _ = W at hc1 ⊢
  have hlt := World.block_lt_of_cell? W _ hc1
  have hBW : Below w.heap.size w W := by rw [← hW]; exact (Below.refl _ _).alloc (Nat.le_refl _) _
  clear hW
  have hcv := conv_one W c
  go_region_with (first | (go_at_call 11; refine (implIsKeyword _ _).mono ?_; rintro e w' ⟨rfl, rfl⟩))
  all_goals go_wp2
  all_goals go_ret
  all_goals exact ⟨rfl, below_drew (hBW.alloc hBW.size _)⟩

theorem walk (n c : Int) (w : World) : Calls Try.prog 5 #[.int .i64 n, .int .u8 c] w (Post w) := by
  by_cases h : n < 0 ∨ 15 ≤ n ∨ c < 48 ∨ 57 < c
  · exact walkOutside n c w h
  · obtain ⟨k, rfl⟩ : ∃ k : Nat, n = (k : Int) := ⟨n.toNat, by omega⟩
    exact walkInside k c w (by omega) (by omega) (by omega)

theorem own : ownKnob Try.prog.godebug = none := by kernel_rfl
set_option maxRecDepth 100000 in
theorem lifted (os : Os) (started : os.Started) (H : Type) (enc : TypeId × Value → H) :
    ReturnsInHanded {} Try.checked os 5 .any (Rows.fnKeywordSpec.pre6 enc Try.prog Try.f5 Rows.fnKeywordRow.domain false) (Rows.fnKeywordSpec.post enc Try.prog Try.f5 false true false false) := by
  refine returnsInHanded_of_change (C := Try.checked) own started (by kernel_rfl) Try.func5
    (ChangeSpec.witness6 (enc := enc) (C := Try.checked) false ⟨#[], #[.int .i64 0, .int .u8 0], []⟩ 8 (by kernel_rfl) (by kernel_rfl) (by kernel_rfl) (by kernel_rfl)) ?_
  intro W base args ds gs before hval0 hW _ _
  have hval : ∀ (j : Nat) t v, Try.f5.params[j]? = some t → args[j]? = some v → Value.okWide Try.prog W .any base t v := hval0
  have hW' := hW
  obtain ⟨p, q, hA0, hV, rfl, _, _⟩ := hW
  have hA : DataW.TrodAll enc Try.prog W 0 (fun _ => true) true Try.f5.params.toList args.toList ds p := hA0
  rw [Try.params5] at hA hval
  obtain ⟨v0, vs0, d0, ds0, p0, q0, hargs, rfl, rfl, h0, r0⟩ := trodAll_cons hA
  obtain ⟨v1, vs1, d1, ds1, p1, q1, hargs1, rfl, rfl, h1, r1⟩ := trodAll_cons r0
  obtain ⟨rfl, rfl, rfl⟩ := trodAll_nil r1
  obtain rfl : args = #[v0, v1] := by cases args; simp_all
  obtain ⟨rfl, rfl⟩ := trodVars_none hV
  obtain ⟨n, rfl, rfl, rfl, y0⟩ := open_int Try.underlying3 (hval 0 3 v0 rfl rfl) h0
  obtain ⟨c, rfl, rfl, rfl, y1⟩ := open_int Try.underlying5 (hval 1 5 v1 rfl rfl) h1
  clear hA0 hval0
  refine (walk n c W).mono fun e W' ⟨he, bel⟩ => ?_
  subst he
  exact ⟨_, rfl, _, _, _, [], _, [], hW', trodAll_mk1 (shut_bool Try.underlying4 _), (trodAll_cons_mk (shut_int Try.underlying3 y0) (trodAll_cons_mk (shut_int Try.underlying5 y1) trodAll_mk0)), rfl, bel.frame _, fun h => by cases h⟩

theorem proved : Rows.FnKeywordSaid :=
  OpenClaim.holds_of_wide 5 Try.f5 rfl rfl rfl rfl rfl rfl rfl ⟨rfl, rfl, rfl, rfl, rfl⟩ rfl rfl rfl rfl rfl (by kernel_rfl) Try.func5 (by kernel_rfl)
    (of_decide_eq_true (by kernel_rfl)) (by unfold Func.isWrapper; first | (rw [if_pos (by decide +kernel)]; kernel_rfl) | (rw [if_neg (by decide +kernel)]; exact ⟨rfl, rfl⟩))
    (fun os started H enc _ => lifted os started H enc)

end Go.Proofs.Ytcamdmkaahgihaa.keyword
namespace Go.Proofs.Ytcamdmkaahgihaa
theorem fnKeyword_holds : Rows.FnKeywordSaid := keyword.proved
end Go.Proofs.Ytcamdmkaahgihaa
