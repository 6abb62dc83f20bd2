/- The contracts of the functions that tell of names: what a valid name is, as a plain law over bytes, and that syntax.ValidName, impl.ValidName, spec.Ascii and spec.Name answer by it; conditions: those that stand ahead of each theorem. -/
import Derived.Test.YtcamdmkaahgihaaRows
import Derived.WalkKit
import Derived.WalkSpells
import Derived.Laws.RangeAny
import Derived.Lib.Hide
import Derived.BigQuiet
import Derived.Deep.QuietTactic
namespace Go.Proofs.Ytcamdmkaahgihaa
open Go.RowKit

/-- A letter, by its number. -/
def isLet (n : Int) : Bool := decide ((97 ≤ n ∧ n ≤ 122) ∨ (65 ≤ n ∧ n ≤ 90))
/-- A digit, by its number. -/
def isDig (n : Int) : Bool := decide (48 ≤ n ∧ n ≤ 57)

theorem isLet_true {n : Int} (h : isLet n = true) : (97 ≤ n ∧ n ≤ 122) ∨ (65 ≤ n ∧ n ≤ 90) := of_decide_eq_true h
theorem isLet_false {n : Int} (h : isLet n = false) : ¬ ((97 ≤ n ∧ n ≤ 122) ∨ (65 ≤ n ∧ n ≤ 90)) := of_decide_eq_false h
theorem isDig_true {n : Int} (h : isDig n = true) : 48 ≤ n ∧ n ≤ 57 := of_decide_eq_true h
theorem isDig_false {n : Int} (h : isDig n = false) : ¬ (48 ≤ n ∧ n ≤ 57) := of_decide_eq_false h

theorem letter_rune (c : Int) (w : World) : Calls Try.prog 16 #[.int .i32 c] w fun e w' => e = .returned (.bool (isLet c)) ∧ w = w' := by
  by_cases h1 : 97 ≤ c
  all_goals by_cases h2 : c ≤ 122
  all_goals by_cases h3 : 65 ≤ c
  all_goals by_cases h4 : c ≤ 90
  all_goals first
    | (exfalso; omega)
    | (have e : isLet c = true := decide_eq_true (by omega)
       rw [e]
       clear e
       go_enter Try.func16, Try.ntmps16
       go_wp2
       go_ret
       exact ⟨rfl, rfl⟩)
    | (have e : isLet c = false := decide_eq_false (by omega)
       rw [e]
       clear e
       go_enter Try.func16, Try.ntmps16
       go_wp2
       go_ret
       exact ⟨rfl, rfl⟩)

theorem digit_rune (c : Int) (w : World) : Calls Try.prog 17 #[.int .i32 c] w fun e w' => e = .returned (.bool (isDig c)) ∧ w = w' := by
  by_cases h1 : 48 ≤ c
  all_goals by_cases h2 : c ≤ 57
  all_goals first
    | (exfalso; omega)
    | (have e : isDig c = true := decide_eq_true (by omega)
       rw [e]
       clear e
       go_enter Try.func17, Try.ntmps17
       go_wp2
       go_ret
       exact ⟨rfl, rfl⟩)
    | (have e : isDig c = false := decide_eq_false (by omega)
       rw [e]
       clear e
       go_enter Try.func17, Try.ntmps17
       go_wp2
       go_ret
       exact ⟨rfl, rfl⟩)

theorem letter_byte (c : Int) (w : World) : Calls Try.prog 13 #[.int .u8 c] w fun e w' => e = .returned (.bool (isLet c)) ∧ w = w' := by
  by_cases h1 : 97 ≤ c
  all_goals by_cases h2 : c ≤ 122
  all_goals by_cases h3 : 65 ≤ c
  all_goals by_cases h4 : c ≤ 90
  all_goals first
    | (exfalso; omega)
    | (have e : isLet c = true := decide_eq_true (by omega)
       rw [e]
       clear e
       go_enter Try.func13, Try.ntmps13
       go_wp2
       go_ret
       exact ⟨rfl, rfl⟩)
    | (have e : isLet c = false := decide_eq_false (by omega)
       rw [e]
       clear e
       go_enter Try.func13, Try.ntmps13
       go_wp2
       go_ret
       exact ⟨rfl, rfl⟩)

theorem digit_byte (c : Int) (w : World) : Calls Try.prog 14 #[.int .u8 c] w fun e w' => e = .returned (.bool (isDig c)) ∧ w = w' := by
  by_cases h1 : 48 ≤ c
  all_goals by_cases h2 : c ≤ 57
  all_goals first
    | (exfalso; omega)
    | (have e : isDig c = true := decide_eq_true (by omega)
       rw [e]
       clear e
       go_enter Try.func14, Try.ntmps14
       go_wp2
       go_ret
       exact ⟨rfl, rfl⟩)
    | (have e : isDig c = false := decide_eq_false (by omega)
       rw [e]
       clear e
       go_enter Try.func14, Try.ntmps14
       go_wp2
       go_ret
       exact ⟨rfl, rfl⟩)

/-- A byte that may stand at a place of a name. -/
def okAt (i : Nat) (n : Int) : Bool := isLet n || decide (n = 95) || (decide (0 < i) && isDig n)
/-- A text that is a name. -/
def IsName (s : ByteArray) : Prop := 0 < s.size ∧ ∀ (i : Nat) (h : i < s.size), okAt i ((s[i]'h).toNat : Int) = true
/-- The answer. -/
noncomputable def nameB (s : ByteArray) : Bool := by classical exact decide (IsName s)
theorem nameB_true {s : ByteArray} (h : IsName s) : nameB s = true := by unfold nameB; simp [h]
theorem nameB_false {s : ByteArray} (h : ¬ IsName s) : nameB s = false := by unfold nameB; simp [h]
theorem nameB_of {s : ByteArray} (h : nameB s = true) : IsName s := by unfold nameB at h; simpa using h

theorem okAt_bad (i : Nat) {n : Int} (h1 : isLet n = false) (h2 : n ≠ 95) (h3 : isDig n = false) : okAt i n = false := by
  unfold okAt; rw [h1, h3, decide_eq_false h2]; simp
theorem okAt_first {n : Int} (h1 : isLet n = false) (h2 : n ≠ 95) : okAt 0 n = false := by
  unfold okAt; rw [h1, decide_eq_false h2]; simp
theorem okAt_let (i : Nat) {n : Int} (h1 : isLet n = true) : okAt i n = true := by
  unfold okAt; rw [h1]; simp
theorem okAt_line (i : Nat) {n : Int} (h : n = 95) : okAt i n = true := by
  unfold okAt; rw [decide_eq_true h]; simp
theorem okAt_dig {i : Nat} {n : Int} (h : 0 < i) (h1 : isDig n = true) : okAt i n = true := by
  unfold okAt; rw [h1, decide_eq_true h]; simp
theorem okAt_high (i : Nat) {n : Int} (h : 128 ≤ n) : okAt i n = false := by
  have a : isLet n = false := decide_eq_false (by omega)
  have b : isDig n = false := decide_eq_false (by omega)
  exact okAt_bad i a (by omega) b

/-- A text whose bytes ahead of a place may stand there. -/
def OkTo (s : ByteArray) (p : Nat) : Prop := ∀ (i : Nat) (h : i < s.size), i < p → okAt i ((s[i]'h).toNat : Int) = true
theorem okTo_zero (s : ByteArray) : OkTo s 0 := fun i _ h => by omega
theorem okTo_succ {s : ByteArray} {p : Nat} (h : OkTo s p) (hp : p < s.size) (ho : okAt p ((s[p]'hp).toNat : Int) = true) : OkTo s (p + 1) := by
  intro i hi hlt
  by_cases e : i = p
  · subst e; exact ho
  · exact h i hi (by omega)
theorem isName_of {s : ByteArray} {p : Nat} (h : OkTo s p) (h0 : 0 < s.size) (hp : ¬ p < s.size) : nameB s = true :=
  nameB_true ⟨h0, fun i hi => h i hi (by omega)⟩
theorem notName_of {s : ByteArray} {p : Nat} (hp : p < s.size) (ho : okAt p ((s[p]'hp).toNat : Int) = false) : nameB s = false :=
  nameB_false fun h => by have := h.2 p hp; rw [ho] at this; cases this
theorem notName_empty {s : ByteArray} (h : s.toList = []) : nameB s = false :=
  nameB_false fun hn => by
    have : s.size = 0 := by
      rw [ByteArray.toList_eq] at h
      have := congrArg List.length h
      simpa using this
    have := hn.1
    omega
theorem size_pos_of {s : ByteArray} (h : ¬ s.toList = []) : 0 < s.size := by
  rcases Nat.eq_zero_or_pos s.size with e | e
  · exfalso; apply h; rw [ByteArray.toList_eq]; apply List.eq_nil_of_length_eq_zero; simpa using e
  · exact e

set_option maxRecDepth 100000 in
theorem validName (s : ByteArray) (w : World) :
    Calls Try.prog 12 #[.string s] w fun e w' => e = .returned (.bool (nameB s)) ∧ Below w.heap.size w w' := by
  by_cases hs : s.toList = []
  · have hn := Lib.hid (notName_empty hs)
    rw [hn.out]
    clear hn
    go_enter Try.func12, Try.ntmps12
    go_wp2
    go_ret
    exact ⟨rfl, Below.refl _ _⟩
  · have hs0 := size_pos_of hs
    have hs1 : (s.toList == []) = false := by simpa using hs
    obtain ⟨b, hb⟩ : ∃ b, nameB s = b := ⟨_, rfl⟩
    have HB := Lib.hid hb
    rw [hb]
    clear hb
    go_enter Try.func12, Try.ntmps12
    go_wp2
    go_loopw [] (fun w' => ∃ pos : Nat, w' = w.iter s pos ∧ Hid (OkTo s pos)) (fun w' => s.size - w'.iterPos w.heap.size)
    case atStart => exact ⟨0, rfl, Lib.hid (okTo_zero s)⟩
    case round =>
      obtain ⟨pos, rfl, HK⟩ := hrel
      by_cases hp : pos < s.size
      · by_cases ha : (s[pos]'hp).toNat < 128
        · have hnx : ∀ ty, (Instr.next (.pointer (some ⟨w.heap.size, 0, none⟩)) true ty).run Try.prog (w.iter s pos) = _ := fun ty => run_next_ascii w s pos ty hp ha
          obtain ⟨c, hc⟩ : ∃ c : Int, c = ((s[pos]'hp).toNat : Int) := ⟨_, rfl⟩
          rw [← hc] at hnx
          have HC := Lib.hid hc
          clear hc ha
          by_cases h1 : isLet c = true
          · have HO := Lib.hid (okTo_succ HK.out hp (by rw [← HC.out]; exact okAt_let pos h1))
            go_wp2_with (first
              | (go_at_call 16; refine (letter_rune _ _).mono ?_; rintro e w' ⟨rfl, rfl⟩)
              | (go_at_call 17; refine (digit_rune _ _).mono ?_; rintro e w' ⟨rfl, rfl⟩))
            go_roundw
            case rel => exact ⟨pos + 1, rfl, HO⟩
            case measure =>
              simp
              omega
          · replace h1 : isLet c = false := by simpa using h1
            by_cases h2 : c = 95
            · have HO := Lib.hid (okTo_succ HK.out hp (by rw [← HC.out]; exact okAt_line pos h2))
              have h2b : (c == 95) = true := by simpa using h2
              clear h2
              go_wp2_with (first
                | (go_at_call 16; refine (letter_rune _ _).mono ?_; rintro e w' ⟨rfl, rfl⟩)
                | (go_at_call 17; refine (digit_rune _ _).mono ?_; rintro e w' ⟨rfl, rfl⟩))
              go_roundw
              case rel => exact ⟨pos + 1, rfl, HO⟩
              case measure =>
                simp
                omega
            · have h2b : (c == 95) = false := by simpa using h2
              by_cases h3 : isDig c = true
              · rcases Nat.eq_zero_or_pos pos with h0 | h0
                · subst h0
                  have HF := Lib.hid (HB.out.symm.trans (notName_of hp (by rw [← HC.out]; exact okAt_first h1 h2)))
                  clear h2
                  go_wp2_with (first
                    | (go_at_call 16; refine (letter_rune _ _).mono ?_; rintro e w' ⟨rfl, rfl⟩)
                    | (go_at_call 17; refine (digit_rune _ _).mono ?_; rintro e w' ⟨rfl, rfl⟩))
                  go_ret
                  exact ⟨congrArg (fun x => Ending.returned (.bool x)) HF.out.symm, (Below.refl _ _).alloc (Nat.le_refl _) _⟩
                · have HO := Lib.hid (okTo_succ HK.out hp (by rw [← HC.out]; exact okAt_dig h0 h3))
                  clear h2
                  go_wp2_with (first
                    | (go_at_call 16; refine (letter_rune _ _).mono ?_; rintro e w' ⟨rfl, rfl⟩)
                    | (go_at_call 17; refine (digit_rune _ _).mono ?_; rintro e w' ⟨rfl, rfl⟩))
                  go_roundw
                  case rel => exact ⟨pos + 1, rfl, HO⟩
                  case measure =>
                    simp
                    omega
              · replace h3 : isDig c = false := by simpa using h3
                have HF := Lib.hid (HB.out.symm.trans (notName_of hp (by rw [← HC.out]; exact okAt_bad pos h1 h2 h3)))
                clear h2
                by_cases h0 : 0 < pos
                all_goals
                  go_wp2_with (first
                  | (go_at_call 16; refine (letter_rune _ _).mono ?_; rintro e w' ⟨rfl, rfl⟩)
                  | (go_at_call 17; refine (digit_rune _ _).mono ?_; rintro e w' ⟨rfl, rfl⟩))
                  go_ret
                  exact ⟨congrArg (fun x => Ending.returned (.bool x)) HF.out.symm, (Below.refl _ _).alloc (Nat.le_refl _) _⟩
        · have hd := (decode_high s pos hp (by omega)).1
          have hnx : ∀ ty, (Instr.next (.pointer (some ⟨w.heap.size, 0, none⟩)) true ty).run Try.prog (w.iter s pos) = _ := fun ty => run_next_any w s pos ty hp
          have HF := Lib.hid (HB.out.symm.trans (notName_of hp (okAt_high pos (by omega))))
          obtain ⟨q, hq⟩ : ∃ q : Nat, q = pos + (Utf8.decode s pos).2 := ⟨_, rfl⟩
          obtain ⟨c, hc⟩ : ∃ c : Int, c = ((Utf8.decode s pos).1 : Int) := ⟨_, rfl⟩
          rw [← hq, ← hc] at hnx
          have h1 : isLet c = false := decide_eq_false (by omega)
          have h2 : (c == 95) = false := by simp; omega
          have h3 : isDig c = false := decide_eq_false (by omega)
          clear hq hc hd ha
          by_cases h0 : 0 < pos
          all_goals
            go_wp2_with (first
              | (go_at_call 16; refine (letter_rune _ _).mono ?_; rintro e w' ⟨rfl, rfl⟩)
              | (go_at_call 17; refine (digit_rune _ _).mono ?_; rintro e w' ⟨rfl, rfl⟩))
            go_ret
            exact ⟨congrArg (fun x => Ending.returned (.bool x)) HF.out.symm, (Below.refl _ _).alloc (Nat.le_refl _) _⟩
      · have hnx : ∀ ty, (Instr.next (.pointer (some ⟨w.heap.size, 0, none⟩)) true ty).run Try.prog (w.iter s pos) = _ := fun ty => run_next_end w s pos ty hp
        have HF := Lib.hid (HB.out.symm.trans (isName_of HK.out hs0 hp))
        go_wp2
        go_ret
        exact ⟨congrArg (fun x => Ending.returned (.bool x)) HF.out.symm, (Below.refl _ _).alloc (Nat.le_refl _) _⟩

theorem implValidName (s : ByteArray) (w : World) :
    Calls Try.prog 9 #[.string s] w fun e w' => e = .returned (.bool (nameB s)) ∧ Below w.heap.size w w' := by
  go_enter Try.func9, Try.ntmps9
  go_wp2_with (first | (go_at_call 12; refine (validName _ _).mono ?_; rintro e w' ⟨rfl, hb⟩))
  go_ret
  exact ⟨rfl, hb⟩

/-- A text of bytes below 128. -/
def IsAscii (s : ByteArray) : Prop := ∀ (i : Nat) (h : i < s.size), (s[i]'h).toNat ≤ 127
noncomputable def asciiB (s : ByteArray) : Bool := by classical exact decide (IsAscii s)
theorem asciiB_true {s : ByteArray} (h : IsAscii s) : asciiB s = true := by unfold asciiB; simp [h]
theorem asciiB_false {s : ByteArray} (h : ¬ IsAscii s) : asciiB s = false := by unfold asciiB; simp [h]
def AsciiTo (s : ByteArray) (p : Nat) : Prop := ∀ (i : Nat) (h : i < s.size), i < p → (s[i]'h).toNat ≤ 127
theorem asciiTo_zero (s : ByteArray) : AsciiTo s 0 := fun i _ h => by omega
theorem asciiTo_succ {s : ByteArray} {p : Nat} (h : AsciiTo s p) (hp : p < s.size) (ho : (s[p]'hp).toNat ≤ 127) : AsciiTo s (p + 1) := by
  intro i hi hlt
  by_cases e : i = p
  · subst e; exact ho
  · exact h i hi (by omega)
theorem isAscii_of {s : ByteArray} {p : Nat} (h : AsciiTo s p) (hp : ¬ p < s.size) : asciiB s = true :=
  asciiB_true fun i hi => h i hi (by omega)
theorem notAscii_of {s : ByteArray} {p : Nat} (hp : p < s.size) (ho : 127 < (s[p]'hp).toNat) : asciiB s = false :=
  asciiB_false fun h => by have := h p hp; omega

theorem specAscii (s : ByteArray) (hs : s.size ≤ 2147483647) (w : World) :
    Calls Try.prog 8 #[.string s] w fun e w' => e = .returned (.bool (asciiB s)) ∧ w = w' := by
  obtain ⟨b, hb⟩ : ∃ b, asciiB s = b := ⟨_, rfl⟩
  have HB := Lib.hid hb
  rw [hb]
  clear hb
  go_enter Try.func8, Try.ntmps8
  go_wp2
  go_loop [3] (fun i => ∃ k : Nat, k ≤ s.size ∧ i = .int .i64 k ∧ Hid (AsciiTo s k)) (fun i => s.size - (intOf i).toNat)
  case atStart => exact ⟨0, Nat.zero_le _, rfl, Lib.hid (asciiTo_zero s)⟩
  case round =>
    obtain ⟨k, hk, rfl, HK⟩ := hrel
    by_cases hlt : k < s.size
    · by_cases ha : (s[k]'hlt).toNat ≤ 127
      · have HO := Lib.hid (asciiTo_succ HK.out hlt ha)
        have hc : ((s[k]'hlt).toNat : Int) ≤ 127 := by omega
        clear ha
        go_wp2
        go_round
        case rel => exact ⟨k + 1, by omega, by go_num, HO⟩
        case measure => simp [intOf]; omega
      · have HF := Lib.hid (HB.out.symm.trans (notAscii_of hlt (by omega)))
        have hc : (127 : Int) < ((s[k]'hlt).toNat : Int) := by omega
        clear ha
        go_wp2
        go_ret
        exact ⟨congrArg (fun x => Ending.returned (.bool x)) HF.out.symm, rfl⟩
    · have HF := Lib.hid (HB.out.symm.trans (isAscii_of HK.out hlt))
      go_wp2
      go_ret
      exact ⟨congrArg (fun x => Ending.returned (.bool x)) HF.out.symm, rfl⟩

theorem toList_pos {s : ByteArray} (h : 0 < s.size) : (!s.toList.isEmpty) = true := by
  have e : s.toList.length = s.size := by rw [ByteArray.toList_eq, Array.length_toList]; rfl
  cases hl : s.toList with
  | nil => rw [hl] at e; simp at e; omega
  | cons a l => rfl
theorem toList_zero {s : ByteArray} (h : ¬ 0 < s.size) : s.toList = [] := by
  have e : s.toList.length = s.size := by rw [ByteArray.toList_eq, Array.length_toList]; rfl
  exact List.eq_nil_of_length_eq_zero (by omega)

theorem specName (s : ByteArray) (hs : s.size ≤ 2147483647) (w : World) :
    Calls Try.prog 10 #[.string s] w fun e w' => e = .returned (.bool (nameB s)) ∧ w = w' := by
  obtain ⟨b, hb⟩ : ∃ b, nameB s = b := ⟨_, rfl⟩
  have HB := Lib.hid hb
  rw [hb]
  clear hb
  go_enter Try.func10, Try.ntmps10
  go_wp2
  go_loop [3] (fun i => ∃ k : Nat, k ≤ s.size ∧ i = .int .i64 k ∧ Hid (OkTo s k)) (fun i => s.size - (intOf i).toNat)
  case atStart => exact ⟨0, Nat.zero_le _, rfl, Lib.hid (okTo_zero s)⟩
  case round =>
    obtain ⟨k, hk, rfl, HK⟩ := hrel
    by_cases hlt : k < s.size
    · by_cases h2 : ((s[k]'hlt).toNat : Int) = 95
      · have HO := Lib.hid (okTo_succ HK.out hlt (okAt_line k h2))
        have h2b : (((s[k]'hlt).toNat : Int) != 95) = false := by simpa using h2
        clear h2
        go_wp2_with (first
                | (go_at_call 13; refine (letter_byte _ _).mono ?_; rintro e w' ⟨rfl, rfl⟩)
                | (go_at_call 14; refine (digit_byte _ _).mono ?_; rintro e w' ⟨rfl, rfl⟩))
        go_round
        case rel => exact ⟨k + 1, by omega, by go_num, HO⟩
        case measure => simp [intOf]; omega
      · have h2b : (((s[k]'hlt).toNat : Int) != 95) = true := by simpa using h2
        by_cases h1 : isLet ((s[k]'hlt).toNat : Int) = true
        · have HO := Lib.hid (okTo_succ HK.out hlt (okAt_let k h1))
          clear h2
          go_wp2_with (first
                | (go_at_call 13; refine (letter_byte _ _).mono ?_; rintro e w' ⟨rfl, rfl⟩)
                | (go_at_call 14; refine (digit_byte _ _).mono ?_; rintro e w' ⟨rfl, rfl⟩))
          go_round
          case rel => exact ⟨k + 1, by omega, by go_num, HO⟩
          case measure => simp [intOf]; omega
        · replace h1 : isLet ((s[k]'hlt).toNat : Int) = false := by simpa using h1
          by_cases h3 : isDig ((s[k]'hlt).toNat : Int) = true
          · rcases Nat.eq_zero_or_pos k with h0 | h0
            · subst h0
              have HF := Lib.hid (HB.out.symm.trans (notName_of hlt (okAt_first h1 h2)))
              clear h2
              go_wp2_with (first
                | (go_at_call 13; refine (letter_byte _ _).mono ?_; rintro e w' ⟨rfl, rfl⟩)
                | (go_at_call 14; refine (digit_byte _ _).mono ?_; rintro e w' ⟨rfl, rfl⟩))
              go_ret
              exact ⟨congrArg (fun x => Ending.returned (.bool x)) HF.out.symm, rfl⟩
            · have HO := Lib.hid (okTo_succ HK.out hlt (okAt_dig h0 h3))
              have h0b : ((k : Int) == 0) = false := by simp; omega
              clear h2
              go_wp2_with (first
                | (go_at_call 13; refine (letter_byte _ _).mono ?_; rintro e w' ⟨rfl, rfl⟩)
                | (go_at_call 14; refine (digit_byte _ _).mono ?_; rintro e w' ⟨rfl, rfl⟩))
              go_round
              case rel => exact ⟨k + 1, by omega, by go_num, HO⟩
              case measure => simp [intOf]; omega
          · replace h3 : isDig ((s[k]'hlt).toNat : Int) = false := by simpa using h3
            have HF := Lib.hid (HB.out.symm.trans (notName_of hlt (okAt_bad k h1 h2 h3)))
            clear h2
            rcases Nat.eq_zero_or_pos k with h0 | h0
            · subst h0
              go_wp2_with (first
                | (go_at_call 13; refine (letter_byte _ _).mono ?_; rintro e w' ⟨rfl, rfl⟩)
                | (go_at_call 14; refine (digit_byte _ _).mono ?_; rintro e w' ⟨rfl, rfl⟩))
              go_ret
              exact ⟨congrArg (fun x => Ending.returned (.bool x)) HF.out.symm, rfl⟩
            · have h0b : ((k : Int) == 0) = false := by simp; omega
              go_wp2_with (first
                | (go_at_call 13; refine (letter_byte _ _).mono ?_; rintro e w' ⟨rfl, rfl⟩)
                | (go_at_call 14; refine (digit_byte _ _).mono ?_; rintro e w' ⟨rfl, rfl⟩))
              go_ret
              exact ⟨congrArg (fun x => Ending.returned (.bool x)) HF.out.symm, rfl⟩
    · by_cases hs0 : 0 < s.size
      · have HF := Lib.hid (HB.out.symm.trans (isName_of HK.out hs0 hlt))
        have he := Lib.hid (toList_pos hs0)
        go_wp2
        go_ret
        exact ⟨congrArg (fun x => Ending.returned (.bool x)) (he.out.trans HF.out.symm), rfl⟩
      · have he : Hid ((!s.toList.isEmpty) = false) := Lib.hid (by rw [toList_zero hs0]; rfl)
        have HF := Lib.hid (HB.out.symm.trans (notName_empty (toList_zero hs0)))
        go_wp2
        go_ret
        exact ⟨congrArg (fun x => Ending.returned (.bool x)) (he.out.trans HF.out.symm), rfl⟩

/-- 'a' is a name. -/
theorem nameB_a : nameB ⟨#[97]⟩ = true := by
  refine nameB_true ⟨by decide, fun i hi => ?_⟩
  have e : i = 0 := by have : i < 1 := hi; omega
  subst e
  exact (by decide : okAt 0 97 = true)

/-- Two names one behind the other are one. -/
theorem nameB_join {a b : ByteArray} (ha : nameB a = true) (hb : nameB b = true) : nameB (a ++ b) = true := by
  have A := nameB_of ha
  have B := nameB_of hb
  refine nameB_true ⟨by rw [ByteArray.size_append]; have := A.1; omega, fun i hi => ?_⟩
  rw [ByteArray.size_append] at hi
  by_cases h : i < a.size
  · rw [ByteArray.getElem_append_left h]
    exact A.2 i h
  · rw [ByteArray.getElem_append_right (by omega)]
    have := B.2 (i - a.size) (by omega)
    have hi0 : 0 < i := by have := A.1; omega
    unfold okAt at this ⊢
    rw [decide_eq_true hi0]
    rcases Bool.or_eq_true_iff.mp this with h1 | h1
    · rw [h1]; rfl
    · rw [(Bool.and_eq_true_iff.mp h1).2]; simp

end Go.Proofs.Ytcamdmkaahgihaa
