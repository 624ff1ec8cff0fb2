/-
  The small callees of the law of seat b6614357a, each by a contract.
-/
import Derived.Test.Qxb6614357aRows
import Derived.Test.Qxb6614357aPlain
import Derived.WalkKit
import Derived.ProofKit
import Derived.WalkSpells
import Derived.WalkLawsBesides
import Derived.Outline
import Derived.Lib.Strings
import Derived.Lib.IndexBytes
import Derived.Deep.QuietTactic
import Derived.BigQuiet
namespace Go.Proofs.Qxb6614357a.Leaves
open Go.RowKit Go.Proofs.Qxb6614357a
set_option linter.unusedVariables false

theorem hide {p : Prop} (h : p) : Hid p := h
theorem unhide {p : Prop} (h : Hid p) : p := h.out
theorem ret_bool {a b : Bool} (h : a = b) : Ending.returned (.bool a) = .returned (.bool b) := by rw [h]
theorem ret_int {k : IntKind} {a b : Int} (h : a = b) : Ending.returned (.int k a) = .returned (.int k b) := by rw [h]
theorem ret_str {a b : ByteArray} (h : a = b) : Ending.returned (.string a) = .returned (.string b) := by rw [h]

/-- the bytes of a string -/
abbrev lst (s : ByteArray) : List UInt8 := s.data.toList
theorem size_lst (s : ByteArray) : s.size = (lst s).length := Lib.size_eq s

theorem cut_lst (r : ByteArray) (a : Nat) : lst (r.extract a r.size) = (lst r).drop a := Lib.extract_to_end r a
theorem cut_size (r : ByteArray) (a : Nat) : (r.extract a r.size).size = r.size - a := by
  have h := cut_lst r a
  rw [size_lst (r.extract a r.size), h, List.length_drop, ← size_lst]
theorem pre_lst (r : ByteArray) (k : Nat) : lst (r.extract 0 k) = (lst r).take k := by
  rw [lst, Lib.extract_data]; simp
theorem pre_size (r : ByteArray) (k : Nat) (h : k ≤ r.size) : (r.extract 0 k).size = k := by
  rw [size_lst, pre_lst, List.length_take, ← size_lst]; omega
theorem digs_take (l : List UInt8) : l.take (Plain.digs l).length = Plain.digs l := by
  have h : (Plain.digs l ++ Plain.rest l).take (Plain.digs l).length = Plain.digs l := List.take_left
  rw [Plain.digs_rest] at h
  exact h
theorem digs_le (l : List UInt8) : (Plain.digs l).length ≤ l.length := by have := Plain.digs_len l; omega

theorem take_one (l : List UInt8) (c : UInt8) (h : 1 ≤ l.length) : (l.take 1 == [c]) = Plain.headIs l c := by
  cases l with
  | nil => simp at h
  | cons a t => simp [Plain.headIs_cons]

set_option maxHeartbeats 400000 in
theorem has_any (r : ByteArray) (c : UInt8) (w : World) (hr : r.size ≤ maxLen) :
    Calls Try.prog 13 #[.string r, .string ⟨#[c]⟩] w fun e w' => e = .returned (.bool (Plain.headIs (lst r) c)) ∧ w' = w := by
  unfold maxLen at hr
  by_cases h : 1 ≤ r.size
  · have h' : (1 : Int) ≤ (r.size : Int) := by omega
    go_enter Try.func13, Try.ntmps13
    go_wp2
    go_ret
    refine ⟨ret_bool ?_, rfl⟩
    rw [← take_one (lst r) c (by rw [← size_lst]; exact h), Lib.extract_toList]
    simp
  · have h' : (r.size : Int) < 1 := by omega
    go_enter Try.func13, Try.ntmps13
    go_wp2
    go_ret
    refine ⟨ret_bool ?_, rfl⟩
    have hl : lst r = [] := List.eq_nil_of_length_eq_zero (by rw [← size_lst]; omega)
    rw [hl]; rfl

theorem has17 (r : ByteArray) (c : UInt8) (w : World) (hr : r.size ≤ maxLen) :
    Calls Try.prog 17 #[.string r, .string ⟨#[c]⟩] w fun e w' => e = .returned (.bool (Plain.headIs (lst r) c)) ∧ w' = w := by
  unfold maxLen at hr
  by_cases h : 1 ≤ r.size
  · have h' : (1 : Int) ≤ (r.size : Int) := by omega
    go_enter Try.func17, Try.ntmps17
    go_wp2
    go_ret
    refine ⟨ret_bool ?_, rfl⟩
    rw [← take_one (lst r) c (by rw [← size_lst]; exact h), Lib.extract_toList]
    simp
  · have h' : (r.size : Int) < 1 := by omega
    go_enter Try.func17, Try.ntmps17
    go_wp2
    go_ret
    refine ⟨ret_bool ?_, rfl⟩
    have hl : lst r = [] := List.eq_nil_of_length_eq_zero (by rw [← size_lst]; omega)
    rw [hl]; rfl

set_option maxHeartbeats 400000 in
theorem trim_any (r : ByteArray) (c : UInt8) (w : World) (hr : r.size ≤ maxLen) :
    Calls Try.prog 14 #[.string r, .string ⟨#[c]⟩] w fun e w' => (∃ r', e = .returned (.string r') ∧ r'.size ≤ r.size ∧ lst r' = if Plain.headIs (lst r) c then (lst r).tail else lst r) ∧ w' = w := by
  have hr' := hr
  unfold maxLen at hr'
  cases hb : Plain.headIs (lst r) c with
  | false =>
    have H := hide hb
    clear hb
    go_enter Try.func14, Try.ntmps14
    go_wp2_with (first | (go_at_call 17; refine (has17 r c _ hr).mono ?_; rintro e w' ⟨rfl, rfl⟩; rw [unhide H]) | go_in)
    go_ret
    exact ⟨⟨r, rfl, Nat.le_refl _, by simp⟩, rfl⟩
  | true =>
    have h1 : 1 ≤ r.size := by
      rw [size_lst]
      cases h : lst r with
      | nil => rw [h] at hb; cases hb
      | cons a t => simp
    have h' : (1 : Int) ≤ (r.size : Int) := by omega
    have H := hide hb
    clear hb
    go_enter Try.func14, Try.ntmps14
    go_wp2_with (first | (go_at_call 17; refine (has17 r c _ hr).mono ?_; rintro e w' ⟨rfl, rfl⟩; rw [unhide H]) | go_in)
    go_ret
    refine ⟨⟨_, rfl, ?_, ?_⟩, rfl⟩
    · rw [cut_size]; omega
    · rw [cut_lst]; simp

theorem drop_cons (r : ByteArray) (k : Nat) (h : k < r.size) : (lst r).drop k = r[k] :: (lst r).drop (k + 1) := by
  have h' : k < (lst r).length := by rw [← size_lst]; exact h
  rw [List.drop_eq_getElem_cons h']; rfl

theorem isD_int (c : UInt8) : (48 ≤ (c.toNat : Int) ∧ (c.toNat : Int) ≤ 57) ↔ Plain.isD c = true := by
  unfold Plain.isD
  simp only [Bool.and_eq_true, decide_eq_true_eq]
  omega

set_option maxHeartbeats 1000000 in
theorem leading_any (r : ByteArray) (w : World) (hr : r.size ≤ maxLen) :
    Calls Try.prog 15 #[.string r] w fun e w' => e = .returned (.string (r.extract 0 (Plain.digs (lst r)).length)) ∧ w' = w := by
  unfold maxLen at hr
  go_enter Try.func15, Try.ntmps15
  go_wp2
  go_loop [3] (fun i => ∃ k : Nat, k ≤ r.size ∧ i = .int .i64 k ∧ Hid (k + (Plain.digs ((lst r).drop k)).length = (Plain.digs (lst r)).length)) (fun i => r.size - (intOf i).toNat)
  case atStart => exact ⟨0, Nat.zero_le _, rfl, hide (by simp)⟩
  case round =>
    obtain ⟨k, hk, rfl, H⟩ := hrel
    by_cases hlt : k < r.size
    · by_cases hd : Plain.isD r[k] = true
      · obtain ⟨d1, d2⟩ := (isD_int r[k]).2 hd
        have H2 : Hid (k + 1 + (Plain.digs ((lst r).drop (k + 1))).length = (Plain.digs (lst r)).length) := by
          have e := unhide H
          rw [drop_cons r k hlt, Plain.digs_cons_yes _ _ hd, List.length_cons] at e
          exact hide (by omega)
        clear H hd
        go_wp2
        go_round
        case rel => exact ⟨k + 1, by omega, by go_num, H2⟩
        case measure => simp [intOf]; omega
      · have H2 : Hid (k = (Plain.digs (lst r)).length) := by
          have e := unhide H
          rw [drop_cons r k hlt, Plain.digs_cons_no _ _ (by simpa using hd)] at e
          exact hide (by simpa using e)
        have hd' : ¬ (48 ≤ (r[k].toNat : Int) ∧ (r[k].toNat : Int) ≤ 57) := fun h => hd ((isD_int r[k]).1 h)
        clear H hd
        by_cases d1 : 48 ≤ (r[k].toNat : Int)
        · have d2 : 57 < (r[k].toNat : Int) := by omega
          clear hd'
          go_wp2
          go_ret
          exact ⟨ret_str (by rw [← unhide H2]), rfl⟩
        · clear hd'
          go_wp2
          go_ret
          exact ⟨ret_str (by rw [← unhide H2]), rfl⟩
    · have H2 : Hid (k = (Plain.digs (lst r)).length) := by
        have e := unhide H
        rw [List.drop_of_length_le (by rw [← size_lst]; omega)] at e
        exact hide (by simpa [Plain.digs] using e)
      clear H
      go_wp2
      go_ret
      exact ⟨ret_str (by rw [← unhide H2]), rfl⟩

theorem bytes_any (r : ByteArray) (w : World) (hr : r.size ≤ maxLen) :
    Calls Try.prog 4 #[.string r] w fun e w' => e = .returned (.bool (decide (r.size ≤ 1048576))) ∧ w' = w := by
  unfold maxLen at hr
  by_cases h : r.size ≤ 1048576
  · have h' : (r.size : Int) ≤ 1048576 := by omega
    rw [decide_eq_true h]
    go_enter Try.func4, Try.ntmps4
    go_wp2
    go_ret
    exact ⟨rfl, rfl⟩
  · have h' : (1048576 : Int) < (r.size : Int) := by omega
    rw [decide_eq_false h]
    go_enter Try.func4, Try.ntmps4
    go_wp2
    go_ret
    exact ⟨rfl, rfl⟩

theorem isE_int (c : UInt8) : Plain.isE c = (((c.toNat : Int) == 101) || ((c.toNat : Int) == 69)) := by
  unfold Plain.isE
  have h (d : UInt8) : (c == d) = ((c.toNat : Int) == (d.toNat : Int)) := by
    rw [Bool.eq_iff_iff, beq_iff_eq, beq_iff_eq]
    constructor
    · rintro rfl; rfl
    · intro h; exact UInt8.toNat_inj.1 (by omega)
  rw [h 101, h 69]; rfl

set_option maxHeartbeats 1000000 in
theorem mant_any (r : ByteArray) (w : World) (hr : r.size ≤ 1048576) :
    Calls Try.prog 9 #[.string r] w fun e w' => e = .returned (.int .i64 (Plain.mant (lst r))) ∧ w' = w := by
  have hr' : (r.size : Int) ≤ 1048576 := by omega
  go_enter Try.func9, Try.ntmps9
  go_wp2
  go_loop [3, 4] (fun c i => ∃ k m : Nat, k ≤ r.size ∧ m ≤ k ∧ i = .int .i64 k ∧ c = .int .i64 m ∧ Hid (m + Plain.mant ((lst r).drop k) = Plain.mant (lst r))) (fun _ i => r.size - (intOf i).toNat)
  case atStart => exact ⟨0, 0, Nat.zero_le _, Nat.le_refl _, rfl, rfl, hide (by simp)⟩
  case round =>
    obtain ⟨k, m, hk, hm, rfl, rfl, H⟩ := hrel
    by_cases hlt : k < r.size
    · have hlt' : (k : Int) < (r.size : Int) := by omega
      by_cases hE : Plain.isE r[k] = true
      · have H2 : Hid (m = Plain.mant (lst r)) := by
          have e := unhide H
          rw [drop_cons r k hlt] at e
          simp only [Plain.mant, hE, if_true] at e
          exact hide (by omega)
        rw [isE_int, Bool.or_eq_true] at hE
        clear H
        by_cases q1 : ((r[k].toNat : Int) == 101) = true
        · clear hE
          go_wp2
          go_ret
          exact ⟨ret_int (by rw [← unhide H2]), rfl⟩
        · have q1' : ((r[k].toNat : Int) == 101) = false := by simpa using q1
          have q2 : ((r[k].toNat : Int) == 69) = true := by rcases hE with h | h; exact absurd h q1; exact h
          clear hE q1
          go_wp2
          go_ret
          exact ⟨ret_int (by rw [← unhide H2]), rfl⟩
      · have hE' : Plain.isE r[k] = false := by simpa using hE
        clear hE
        have hE2 := hE'
        rw [isE_int, Bool.or_eq_false_iff] at hE2
        obtain ⟨q1, q2⟩ := hE2
        by_cases hd : Plain.isD r[k] = true
        · obtain ⟨d1, d2⟩ := (isD_int r[k]).2 hd
          have H2 : Hid (m + 1 + Plain.mant ((lst r).drop (k + 1)) = Plain.mant (lst r)) := by
            have e := unhide H
            rw [drop_cons r k hlt] at e
            simp only [Plain.mant, hE', hd, if_true, Bool.false_eq_true, if_false] at e
            exact hide (by omega)
          clear H hd hE'
          go_wp2
          go_round
          case rel => exact ⟨k + 1, m + 1, by omega, by omega, by go_num, by go_num, H2⟩
          case measure => simp [intOf]; omega
        · have hd2 : Plain.isD r[k] = false := by simpa using hd
          have H2 : Hid (m + Plain.mant ((lst r).drop (k + 1)) = Plain.mant (lst r)) := by
            have e := unhide H
            rw [drop_cons r k hlt, Plain.mant_skip _ _ hE' hd2] at e
            exact hide e
          have hd' : ¬ (48 ≤ (r[k].toNat : Int) ∧ (r[k].toNat : Int) ≤ 57) := fun h => hd ((isD_int r[k]).1 h)
          clear H hd hE' hd2
          by_cases d1 : 48 ≤ (r[k].toNat : Int)
          · have d2 : 57 < (r[k].toNat : Int) := by omega
            clear hd'
            go_wp2
            go_round
            case rel => exact ⟨k + 1, m, by omega, by omega, by go_num, rfl, H2⟩
            case measure => simp [intOf]; omega
          · clear hd'
            go_wp2
            go_round
            case rel => exact ⟨k + 1, m, by omega, by omega, by go_num, rfl, H2⟩
            case measure => simp [intOf]; omega
    · have H2 : Hid (m = Plain.mant (lst r)) := by
        have e := unhide H
        rw [List.drop_of_length_le (by rw [← size_lst]; omega)] at e
        exact hide (by simpa [Plain.mant] using e)
      clear H
      go_wp2
      go_ret
      exact ⟨ret_int (by rw [← unhide H2]), rfl⟩

/-- the literal's struct, as far as its two strings go -/
structure Lit2 (w : World) (b : Nat) (W R : ByteArray) : Prop where
  c1 : w.cell? ⟨b, 1, none⟩ = some (.string W)
  c2 : w.cell? ⟨b, 2, none⟩ = some (.string R)
  s1 : W.size ≤ 1048576
  s2 : R.size ≤ 1048576

theorem digits_any (b : Nat) (W R : ByteArray) (w : World) (h : Lit2 w b W R) :
    Calls Try.prog 12 #[.pointer (some ⟨b, 0, none⟩)] w fun e w' => e = .returned (.int .i64 ((W.size : Int) + (R.size : Int))) ∧ ∃ nq, w' = w.drewN nq := by
  obtain ⟨c1, c2, s1, s2⟩ := h
  go_enter Try.func12, Try.ntmps12
  go_wp2
  go_quiet (fail)
  go_wp2
  go_ret
  exact ⟨rfl, _, rfl⟩
theorem zzdigits_any (b : Nat) (W R : ByteArray) (w : World) (h : Lit2 w b W R) :
    Calls Try.prog 8 #[.pointer (some ⟨b, 0, none⟩)] w fun e w' => e = .returned (.int .i64 ((W.size : Int) + (R.size : Int))) ∧ ∃ nq, w' = w.drewN nq := by
  go_enter Try.func8, Try.ntmps8
  go_wp2_with fail
  refine (digits_any b W R _ h).mono ?_
  rintro e w' ⟨rfl, nq, rfl⟩
  go_wp2_with fail
  go_ret
  exact ⟨rfl, _, rfl⟩
end Go.Proofs.Qxb6614357a.Leaves
