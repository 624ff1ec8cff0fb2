/-
  isJSONNumber by a contract. (Seat b6614357a.)
-/
import Derived.Test.Qxb6614357aLeaves
import Derived.Deep.DeepCutAuto
namespace Go.Proofs.Qxb6614357a.Leaves
open Go.RowKit Go.Proofs.Qxb6614357a
set_option linter.unusedVariables false

/-- what is left of s from place i on -/
structure At (s : ByteArray) (i : Nat) (R : List UInt8) : Prop where
  le : i ≤ s.size
  eq : (lst s).drop i = R

theorem At.nil {s : ByteArray} {i : Nat} (h : At s i []) : i = s.size := by
  have := congrArg List.length h.eq
  rw [List.length_drop, ← size_lst] at this
  have := h.le
  simp at *
  omega
theorem At.lt {s : ByteArray} {i : Nat} {c : UInt8} {t : List UInt8} (h : At s i (c :: t)) : i < s.size := by
  have := congrArg List.length h.eq
  rw [List.length_drop, ← size_lst] at this
  simp at this
  omega
theorem At.byte {s : ByteArray} {i : Nat} {c : UInt8} {t : List UInt8} (h : At s i (c :: t)) : s[i]'h.lt = c := by
  have e := h.eq
  rw [drop_cons s i h.lt] at e
  injection e
theorem At.next {s : ByteArray} {i : Nat} {c : UInt8} {t : List UInt8} (h : At s i (c :: t)) : At s (i + 1) t := by
  have e := h.eq
  rw [drop_cons s i h.lt] at e
  injection e with e1 e2
  exact ⟨h.lt, e2⟩
theorem byte_eq (c d : UInt8) : ((c.toNat : Int) == (d.toNat : Int)) = (c == d) := by
  rw [Bool.eq_iff_iff, beq_iff_eq, beq_iff_eq]
  constructor
  · intro h; exact UInt8.toNat_inj.1 (by omega)
  · rintro rfl; rfl
theorem At.test {s : ByteArray} {i : Nat} {c : UInt8} {t : List UInt8} (h : At s i (c :: t)) (hlt : i < s.size) (d : UInt8) : (((s[i]'hlt).toNat : Int) == (d.toNat : Int)) = (c == d) := by
  rw [show s[i]'hlt = c from h.byte, byte_eq]


/-- how 'i < n && s[i] == d' comes out -/
theorem At.cases {s : ByteArray} {i : Nat} {R : List UInt8} (h : At s i R) (d : UInt8) :
    (¬ (i : Int) < (s.size : Int) ∧ Plain.headIs R d = false) ∨ (∃ hlt : i < s.size, (i : Int) < (s.size : Int) ∧ (((s[i]'hlt).toNat : Int) == (d.toNat : Int)) = Plain.headIs R d) := by
  cases R with
  | nil => exact .inl ⟨by have := h.nil; omega, rfl⟩
  | cons c t => exact .inr ⟨h.lt, by have := h.lt; omega, by rw [h.test h.lt d, Plain.headIs_cons]⟩
/-- .. of two bytes -/
theorem At.cases2 {s : ByteArray} {i : Nat} {R : List UInt8} (h : At s i R) (d e : UInt8) :
    (¬ (i : Int) < (s.size : Int) ∧ Plain.headIs R d = false ∧ Plain.headIs R e = false) ∨ (∃ hlt : i < s.size, (i : Int) < (s.size : Int) ∧ (((s[i]'hlt).toNat : Int) == (d.toNat : Int)) = Plain.headIs R d ∧ (((s[i]'hlt).toNat : Int) == (e.toNat : Int)) = Plain.headIs R e) := by
  cases R with
  | nil => exact .inl ⟨by have := h.nil; omega, rfl, rfl⟩
  | cons c t => exact .inr ⟨h.lt, by have := h.lt; omega, by rw [h.test h.lt d, Plain.headIs_cons], by rw [h.test h.lt e, Plain.headIs_cons]⟩
theorem At.tail {s : ByteArray} {i : Nat} {R : List UInt8} {d : UInt8} (h : At s i R) (hd : Plain.headIs R d = true) : i < s.size ∧ At s (i + 1) R.tail := by
  cases R with
  | nil => cases hd
  | cons c t => exact ⟨h.lt, h.next⟩
/-- how 'i < n && isDigit(s[i])' comes out: a digit, or the run of digits has ended -/
theorem At.run {s : ByteArray} {i : Nat} {R : List UInt8} (h : At s i R) :
    (¬ (i : Int) < (s.size : Int) ∧ Plain.rest R = R ∧ Plain.digs R = []) ∨
    (∃ hlt : i < s.size, (i : Int) < (s.size : Int) ∧ 48 ≤ ((s[i]'hlt).toNat : Int) ∧ ((s[i]'hlt).toNat : Int) ≤ 57 ∧ At s (i + 1) R.tail ∧ Plain.rest R = Plain.rest R.tail ∧ (Plain.digs R).length = (Plain.digs R.tail).length + 1) ∨
    (∃ hlt : i < s.size, (i : Int) < (s.size : Int) ∧ ((s[i]'hlt).toNat : Int) < 48 ∧ Plain.rest R = R ∧ Plain.digs R = []) ∨
    (∃ hlt : i < s.size, (i : Int) < (s.size : Int) ∧ 48 ≤ ((s[i]'hlt).toNat : Int) ∧ 57 < ((s[i]'hlt).toNat : Int) ∧ Plain.rest R = R ∧ Plain.digs R = []) := by
  cases R with
  | nil => exact .inl ⟨by have := h.nil; omega, rfl, rfl⟩
  | cons c t =>
    have hlt := h.lt
    have hb : s[i]'hlt = c := h.byte
    have hi : (i : Int) < (s.size : Int) := by omega
    by_cases hd : Plain.isD c = true
    · have := (isD_int c).2 hd
      exact .inr (.inl ⟨hlt, hi, by rw [hb]; exact this.1, by rw [hb]; exact this.2, h.next, Plain.rest_cons_yes c t hd, by rw [Plain.digs_cons_yes c t hd]; rfl⟩)
    · have hd' : Plain.isD c = false := by simpa using hd
      have hn : ¬ (48 ≤ (c.toNat : Int) ∧ (c.toNat : Int) ≤ 57) := fun h => hd ((isD_int c).1 h)
      by_cases h48 : 48 ≤ (c.toNat : Int)
      · exact .inr (.inr (.inr ⟨hlt, hi, by rw [hb]; exact h48, by rw [hb]; omega, Plain.rest_cons_no c t hd', Plain.digs_cons_no c t hd'⟩))
      · exact .inr (.inr (.inl ⟨hlt, hi, by rw [hb]; omega, Plain.rest_cons_no c t hd', Plain.digs_cons_no c t hd'⟩))

/-- a sign stands first -/
def sg (t : List UInt8) : Bool := Plain.headIs t 43 || Plain.headIs t 45

theorem sg_yes {t : List UInt8} (h : sg t = true) : Plain.afterSign2 t = t.tail := by
  unfold sg at h
  rw [Bool.or_eq_true] at h
  unfold Plain.afterSign2
  split
  · rfl
  · rcases h with h | h
    · rw [h]; rfl
    · rename_i h2; exact absurd h h2
theorem sg_no {t : List UInt8} (h : sg t = false) : Plain.afterSign2 t = t := by
  unfold sg at h
  rw [Bool.or_eq_false_iff] at h
  unfold Plain.afterSign2
  rw [h.1, h.2]; rfl
theorem sg_tail {s : ByteArray} {i : Nat} {t : List UInt8} (h : At s i t) (hb : sg t = true) : i < s.size ∧ At s (i + 1) t.tail := by
  unfold sg at hb
  rw [Bool.or_eq_true] at hb
  rcases hb with hb | hb
  · exact h.tail hb
  · exact h.tail hb

set_option maxRecDepth 100000 in
set_option maxHeartbeats 8000000 in
theorem json_any (s : ByteArray) (w : World) (hs : s.size ≤ 1048576) :
    Calls Try.prog 7 #[.string s] w fun e w' => e = .returned (.bool (Plain.J (lst s))) ∧ w' = w := by
  have hs' : (s.size : Int) ≤ 1048576 := by omega
  have hat0 : At s 0 (lst s) := ⟨Nat.zero_le _, rfl⟩
  go_enter Try.func7, Try.ntmps7
  go_upto_region 3 with fail
  go_cut [17] (fun t wc => t = .bool (Plain.headIs (lst s) 45) ∧ w = wc)
  case first =>
    rcases hat0.cases 45 with ⟨t1, t2⟩ | ⟨t0, t1, t2⟩
    · have H := hide t2
      have t1' : ¬ (0 : Int) < (s.size : Int) := t1
      clear t2 hat0 t1
      go_wp2_with fail
      go_meet
      case rel => exact ⟨by rw [unhide H], rfl⟩
    · have t1' : (0 : Int) < (s.size : Int) := t1
      have t2' : ((s[0].toNat : Int) == 45) = Plain.headIs (lst s) 45 := t2
      clear t2 t1 hat0
      go_wp2_with fail
      go_meet
      case rel => exact ⟨rfl, rfl⟩
  case rest =>
    obtain ⟨rfl, rfl⟩ := hcut
    go_upto_if 17 with fail
    go_cut [3] (fun i wc => ∃ p, i = .int .i64 (p : Nat) ∧ At s p (Plain.afterSign (lst s)) ∧ w = wc)
    case first =>
      cases hb : Plain.headIs (lst s) 45 with
      | true =>
        have H : Hid (At s 1 (Plain.afterSign (lst s))) := by
          refine hide ?_
          rw [Plain.afterSign, hb]
          exact (hat0.tail hb).2
        clear hb hat0
        go_wp2_with fail
        go_meet
        case rel => exact ⟨1, rfl, unhide H, rfl⟩
      | false =>
        have H : Hid (At s 0 (Plain.afterSign (lst s))) := by
          refine hide ?_
          rw [Plain.afterSign, hb]
          exact hat0
        clear hb hat0
        go_wp2_with fail
        go_meet
        case rel => exact ⟨0, rfl, unhide H, rfl⟩
    case rest =>
      clear hat0
      obtain ⟨p, rfl, hat, rfl⟩ := hcut
      have hple := hat.le
      cases hR : Plain.afterSign (lst s) with
      | nil =>
        rw [hR] at hat
        have hz : ¬ (p : Int) < (s.size : Int) := by have := hat.nil; omega
        have H := hide (Plain.J_none (lst s) hR)
        clear hR hat
        go_wp2_with fail
        go_ret
        exact ⟨ret_bool (unhide H).symm, rfl⟩
      | cons c t =>
        have HR := hide hR
        rw [hR] at hat
        clear hR
        have hlt := hat.lt
        have hlt' : (p : Int) < (s.size : Int) := by omega
        go_upto_if 26 with fail
        go_cut [3] (fun i wc => ∃ q R, i = .int .i64 (q : Nat) ∧ At s q R ∧ Hid (Plain.J (lst s) = Plain.fracOk R) ∧ w = wc)
        case first =>
          have hb : s[p]'hlt = c := hat.byte
          by_cases hc48 : c = 48
          · subst hc48
            have t1 : ((s[p].toNat : Int) == 48) = true := by rw [hb]; rfl
            have H : Hid (At s (p + 1) t ∧ Plain.J (lst s) = Plain.fracOk t) := hide ⟨hat.next, Plain.J_zero _ _ (unhide HR)⟩
            clear hb hat HR
            go_wp2_with fail
            go_meet
            case rel => exact ⟨p + 1, t, by go_num, (unhide H).1, hide (unhide H).2, rfl⟩
          · have t1 : ((s[p].toNat : Int) == 48) = false := by
              rw [hb]
              exact (byte_eq c 48).trans (beq_eq_false_iff_ne.2 hc48)
            by_cases hd : Plain.isD c = true
            · have hdi := (isD_int c).2 hd
              have t2 : 49 ≤ (s[p].toNat : Int) := by
                rw [hb]
                have : (c.toNat : Int) ≠ 48 := fun h => hc48 (UInt8.toNat_inj.1 (by show c.toNat = 48; omega))
                omega
              have t3 : (s[p].toNat : Int) ≤ 57 := by rw [hb]; omega
              have H : Hid (Plain.J (lst s) = Plain.fracOk (Plain.rest (c :: t))) := by
                have e := Plain.J_digit _ _ _ (unhide HR) hd hc48
                rw [unhide HR] at e
                exact hide e
              clear hb hdi hd hc48 HR
              go_wp2_with fail
              go_loop [3] (fun v => ∃ q R, v = .int .i64 (q : Nat) ∧ At s q R ∧ Hid (Plain.rest R = Plain.rest (c :: t) ∧ q + (Plain.digs R).length = p + (Plain.digs (c :: t)).length)) (fun v => s.size - (intOf v).toNat)
              case atStart => exact ⟨_, _, by first | rfl | go_num, by assumption, hide ⟨rfl, rfl⟩⟩
              case round =>
                obtain ⟨q, R, rfl, hq, HR⟩ := hrel
                have hqle := hq.le
                rcases hq.run with ⟨t1, t2, t3⟩ | ⟨t0, t1, t2, t3, t4, t5, t6⟩ | ⟨t0, t1, t2, t3, t4⟩ | ⟨t0, t1, t2, t3, t4, t5⟩
                · have HE : Hid (At s q (Plain.rest (c :: t)) ∧ q = p + (Plain.digs (c :: t)).length) := by
                    obtain ⟨e1, e2⟩ := unhide HR
                    rw [t3] at e2
                    rw [t2] at e1
                    exact hide ⟨by rw [← e1]; exact hq, by simpa using e2⟩
                  clear HR t2 t3 hq
                  go_wp2
                  go_meet
                  case rel => exact ⟨q, _, rfl, (unhide HE).1, H, rfl⟩
                · have HN : Hid (At s (q + 1) R.tail ∧ Plain.rest R.tail = Plain.rest (c :: t) ∧ q + 1 + (Plain.digs R.tail).length = p + (Plain.digs (c :: t)).length) := by
                    obtain ⟨e1, e2⟩ := unhide HR
                    exact hide ⟨t4, by rw [← t5]; exact e1, by omega⟩
                  clear HR t4 t5 t6 hq
                  go_wp2
                  go_round
                  case rel => exact ⟨q + 1, R.tail, by go_num, (unhide HN).1, hide (unhide HN).2⟩
                  case measure => simp [intOf]; omega
                · have HE : Hid (At s q (Plain.rest (c :: t)) ∧ q = p + (Plain.digs (c :: t)).length) := by
                    obtain ⟨e1, e2⟩ := unhide HR
                    rw [t4] at e2
                    rw [t3] at e1
                    exact hide ⟨by rw [← e1]; exact hq, by simpa using e2⟩
                  clear HR t3 t4 hq
                  go_wp2
                  go_meet
                  case rel => exact ⟨q, _, rfl, (unhide HE).1, H, rfl⟩
                · have HE : Hid (At s q (Plain.rest (c :: t)) ∧ q = p + (Plain.digs (c :: t)).length) := by
                    obtain ⟨e1, e2⟩ := unhide HR
                    rw [t5] at e2
                    rw [t4] at e1
                    exact hide ⟨by rw [← e1]; exact hq, by simpa using e2⟩
                  clear HR t4 t5 hq
                  go_wp2
                  go_meet
                  case rel => exact ⟨q, _, rfl, (unhide HE).1, H, rfl⟩
            · have hd' : Plain.isD c = false := by simpa using hd
              have H := hide (Plain.J_other _ _ _ (unhide HR) hd')
              have hn : ¬ (48 ≤ (c.toNat : Int) ∧ (c.toNat : Int) ≤ 57) := fun h => hd ((isD_int c).1 h)
              by_cases h48 : 49 ≤ (c.toNat : Int)
              · have t2 : 49 ≤ (s[p].toNat : Int) := by rw [hb]; exact h48
                have t3 : 57 < (s[p].toNat : Int) := by rw [hb]; omega
                clear hb hd' hd hn h48 hc48 HR hat
                go_wp2_with fail
                go_ret
                exact ⟨ret_bool (unhide H).symm, rfl⟩
              · have t2 : (s[p].toNat : Int) < 49 := by rw [hb]; omega
                clear hb hd' hd hn h48 hc48 HR hat
                go_wp2_with fail
                go_ret
                exact ⟨ret_bool (unhide H).symm, rfl⟩
        case rest =>
          clear hat HR hlt hlt' hple
          obtain ⟨p, R0, rfl, hat, HJ, rfl⟩ := hcut
          have hple := hat.le
          go_upto_region 13 with fail
          go_cut [58] (fun t wc => t = .bool (Plain.headIs R0 46) ∧ w = wc)
          case first =>
            rcases hat.cases 46 with ⟨t1, t2⟩ | ⟨t0, t1, t2⟩
            · have H := hide t2
              clear t2 hat
              go_wp2_with fail
              go_meet
              case rel => exact ⟨by rw [unhide H], rfl⟩
            · have t2' : ((s[p].toNat : Int) == 46) = Plain.headIs R0 46 := t2
              clear t2 hat
              go_wp2_with fail
              go_meet
              case rel => exact ⟨rfl, rfl⟩
          case rest =>
            obtain ⟨rfl, rfl⟩ := hcut
            go_upto_if 58 with fail
            go_cut [3] (fun i wc => ∃ q R, i = .int .i64 (q : Nat) ∧ At s q R ∧ Hid (Plain.J (lst s) = Plain.tailOk R) ∧ w = wc)
            case first =>
              cases hb : Plain.headIs R0 46 with
              | false =>
                have H : Hid (Plain.J (lst s) = Plain.tailOk R0) := by
                  have e := unhide HJ
                  rw [Plain.fracOk, hb] at e
                  exact hide e
                clear hb HJ
                go_wp2_with fail
                go_meet
                case rel => exact ⟨p, R0, rfl, hat, H, rfl⟩
              | true =>
                have H : Hid (Plain.J (lst s) = (!(Plain.digs R0.tail).isEmpty && Plain.tailOk (Plain.rest R0.tail))) := by
                  have e := unhide HJ
                  rw [Plain.fracOk, hb] at e
                  exact hide e
                obtain ⟨hlt, hnx⟩ := hat.tail hb
                clear hb HJ hat
                go_wp2_with fail
                go_loop [3] (fun v => ∃ q R, v = .int .i64 (q : Nat) ∧ At s q R ∧ Hid (Plain.rest R = Plain.rest R0.tail ∧ q + (Plain.digs R).length = (p + 1) + (Plain.digs R0.tail).length)) (fun v => s.size - (intOf v).toNat)
                case atStart => exact ⟨_, _, by first | rfl | go_num, by assumption, hide ⟨rfl, rfl⟩⟩
                case round =>
                  obtain ⟨q, R, rfl, hq, HR⟩ := hrel
                  have hqle := hq.le
                  rcases hq.run with ⟨t1, t2, t3⟩ | ⟨t0, t1, t2, t3, t4, t5, t6⟩ | ⟨t0, t1, t2, t3, t4⟩ | ⟨t0, t1, t2, t3, t4, t5⟩
                  · have HE : Hid (At s q (Plain.rest R0.tail) ∧ q = (p + 1) + (Plain.digs R0.tail).length) := by
                      obtain ⟨e1, e2⟩ := unhide HR
                      rw [t3] at e2
                      rw [t2] at e1
                      exact hide ⟨by rw [← e1]; exact hq, by simpa using e2⟩
                    clear HR t2 t3 hq
                    by_cases hz : (Plain.digs R0.tail).length = 0
                    · have hqe : ((q : Int) == (p : Int) + 1) = true := beq_iff_eq.2 (by have := (unhide HE).2; omega)
                      have H3 : Hid (Plain.J (lst s) = false) := by
                        have e := unhide H
                        rw [List.eq_nil_of_length_eq_zero hz] at e
                        exact hide e
                      clear hz H HE
                      go_wp2
                      go_ret
                      exact ⟨ret_bool (unhide H3).symm, rfl⟩
                    · have hqe : ((q : Int) == (p : Int) + 1) = false := beq_eq_false_iff_ne.2 (by have := (unhide HE).2; omega)
                      have H3 : Hid (At s q (Plain.rest R0.tail) ∧ Plain.J (lst s) = Plain.tailOk (Plain.rest R0.tail)) := by
                        have e := unhide H
                        have hne : (Plain.digs R0.tail).isEmpty = false := by
                          cases hdd : Plain.digs R0.tail with
                          | nil => rw [hdd] at hz; simp at hz
                          | cons _ _ => rfl
                        rw [hne] at e
                        exact hide ⟨(unhide HE).1, e⟩
                      clear hz H HE
                      go_wp2
                      go_meet
                      case rel => exact ⟨q, _, rfl, (unhide H3).1, hide (unhide H3).2, rfl⟩
                  · have HN : Hid (At s (q + 1) R.tail ∧ Plain.rest R.tail = Plain.rest R0.tail ∧ q + 1 + (Plain.digs R.tail).length = (p + 1) + (Plain.digs R0.tail).length) := by
                      obtain ⟨e1, e2⟩ := unhide HR
                      exact hide ⟨t4, by rw [← t5]; exact e1, by omega⟩
                    clear HR t4 t5 t6 hq
                    go_wp2
                    go_round
                    case rel => exact ⟨q + 1, R.tail, by go_num, (unhide HN).1, hide (unhide HN).2⟩
                    case measure => simp [intOf]; omega
                  · have HE : Hid (At s q (Plain.rest R0.tail) ∧ q = (p + 1) + (Plain.digs R0.tail).length) := by
                      obtain ⟨e1, e2⟩ := unhide HR
                      rw [t4] at e2
                      rw [t3] at e1
                      exact hide ⟨by rw [← e1]; exact hq, by simpa using e2⟩
                    clear HR t3 t4 hq
                    by_cases hz : (Plain.digs R0.tail).length = 0
                    · have hqe : ((q : Int) == (p : Int) + 1) = true := beq_iff_eq.2 (by have := (unhide HE).2; omega)
                      have H3 : Hid (Plain.J (lst s) = false) := by
                        have e := unhide H
                        rw [List.eq_nil_of_length_eq_zero hz] at e
                        exact hide e
                      clear hz H HE
                      go_wp2
                      go_ret
                      exact ⟨ret_bool (unhide H3).symm, rfl⟩
                    · have hqe : ((q : Int) == (p : Int) + 1) = false := beq_eq_false_iff_ne.2 (by have := (unhide HE).2; omega)
                      have H3 : Hid (At s q (Plain.rest R0.tail) ∧ Plain.J (lst s) = Plain.tailOk (Plain.rest R0.tail)) := by
                        have e := unhide H
                        have hne : (Plain.digs R0.tail).isEmpty = false := by
                          cases hdd : Plain.digs R0.tail with
                          | nil => rw [hdd] at hz; simp at hz
                          | cons _ _ => rfl
                        rw [hne] at e
                        exact hide ⟨(unhide HE).1, e⟩
                      clear hz H HE
                      go_wp2
                      go_meet
                      case rel => exact ⟨q, _, rfl, (unhide H3).1, hide (unhide H3).2, rfl⟩
                  · have HE : Hid (At s q (Plain.rest R0.tail) ∧ q = (p + 1) + (Plain.digs R0.tail).length) := by
                      obtain ⟨e1, e2⟩ := unhide HR
                      rw [t5] at e2
                      rw [t4] at e1
                      exact hide ⟨by rw [← e1]; exact hq, by simpa using e2⟩
                    clear HR t4 t5 hq
                    by_cases hz : (Plain.digs R0.tail).length = 0
                    · have hqe : ((q : Int) == (p : Int) + 1) = true := beq_iff_eq.2 (by have := (unhide HE).2; omega)
                      have H3 : Hid (Plain.J (lst s) = false) := by
                        have e := unhide H
                        rw [List.eq_nil_of_length_eq_zero hz] at e
                        exact hide e
                      clear hz H HE
                      go_wp2
                      go_ret
                      exact ⟨ret_bool (unhide H3).symm, rfl⟩
                    · have hqe : ((q : Int) == (p : Int) + 1) = false := beq_eq_false_iff_ne.2 (by have := (unhide HE).2; omega)
                      have H3 : Hid (At s q (Plain.rest R0.tail) ∧ Plain.J (lst s) = Plain.tailOk (Plain.rest R0.tail)) := by
                        have e := unhide H
                        have hne : (Plain.digs R0.tail).isEmpty = false := by
                          cases hdd : Plain.digs R0.tail with
                          | nil => rw [hdd] at hz; simp at hz
                          | cons _ _ => rfl
                        rw [hne] at e
                        exact hide ⟨(unhide HE).1, e⟩
                      clear hz H HE
                      go_wp2
                      go_meet
                      case rel => exact ⟨q, _, rfl, (unhide H3).1, hide (unhide H3).2, rfl⟩
            case rest =>
              clear hat HJ hple
              obtain ⟨p, R0, rfl, hat, HJ, rfl⟩ := hcut
              have hple := hat.le
              cases hR : R0 with
              | nil =>
                rw [hR] at hat HJ
                have hz : ¬ (p : Int) < (s.size : Int) := by have := hat.nil; omega
                have hpe : ((p : Int) == (s.size : Int)) = true := beq_iff_eq.2 (by have := hat.nil; omega)
                clear hR hat
                go_wp2_with fail
                go_ret
                exact ⟨ret_bool (by rw [unhide HJ]; rfl), rfl⟩
              | cons c t =>
                rw [hR] at hat HJ
                have hlt := hat.lt
                have hlt' : (p : Int) < (s.size : Int) := by omega
                have hpe : ((p : Int) == (s.size : Int)) = false := beq_eq_false_iff_ne.2 (by omega)
                have b1 : ((s[p].toNat : Int) == 101) = (c == 101) := hat.test hlt 101
                have b2 : ((s[p].toNat : Int) == 69) = (c == 69) := hat.test hlt 69
                clear hR
                by_cases hE : Plain.isE c = true
                · -- an exponent mark
                  have HX : Hid (Plain.J (lst s) = Plain.expOk t) := by
                    have e := unhide HJ
                    have hE2 : (c == 101 || c == 69) = true := hE
                    rw [Plain.tailOk, hE2] at e
                    exact hide e
                  have hnx := hat.next
                  clear HJ hat
                  go_upto_region 20 with fail
                  go_cut [90] (fun t wc => t = .bool true ∧ w = wc)
                  case first =>
                    cases e1 : (c == 101) with
                    | true =>
                      rw [e1] at b1
                      clear e1 b2 hE
                      go_wp2
                      go_meet
                      case rel => exact ⟨rfl, rfl⟩
                    | false =>
                      have e2 : (c == 69) = true := by
                        have hE2 : (c == 101 || c == 69) = true := hE
                        rw [e1] at hE2
                        exact hE2
                      rw [e1] at b1
                      rw [e2] at b2
                      clear e1 e2 hE
                      go_wp2
                      go_meet
                      case rel => exact ⟨rfl, rfl⟩
                  case rest =>
                    clear b1 b2 hE hpe
                    obtain ⟨rfl, rfl⟩ := hcut
                    have hpl := hnx.le
                    go_upto_region 22 with fail
                    go_cut [107] (fun u wc => u = .bool (sg t) ∧ w = wc)
                    case first =>
                      rcases hnx.cases2 43 45 with ⟨t1, t2, t3⟩ | ⟨t0, t1, t2, t3⟩
                      · have H := hide (And.intro t2 t3)
                        have t1' : ¬ (p : Int) + 1 < (s.size : Int) := by omega
                        clear t1 t2 t3 hnx
                        go_wp2
                        go_meet
                        case rel => exact ⟨by rw [sg, (unhide H).1, (unhide H).2]; rfl, rfl⟩
                      · have t1' : (p : Int) + 1 < (s.size : Int) := by omega
                        have t2' : ((s[p + 1].toNat : Int) == 43) = Plain.headIs t 43 := t2
                        have t3' : ((s[p + 1].toNat : Int) == 45) = Plain.headIs t 45 := t3
                        clear t1 t2 t3 hnx
                        cases h43 : Plain.headIs t 43 with
                        | true =>
                          rw [h43] at t2'
                          have H := hide h43
                          clear h43 t3'
                          go_wp2
                          go_meet
                          case rel => exact ⟨by rw [sg, unhide H]; rfl, rfl⟩
                        | false =>
                          rw [h43] at t2'
                          have H := hide h43
                          clear h43
                          go_wp2
                          go_meet
                          case rel => exact ⟨by rw [sg, unhide H]; rfl, rfl⟩
                    case rest =>
                      obtain ⟨rfl, rfl⟩ := hcut
                      go_upto_if 107 with fail
                      go_cut [3] (fun i wc => ∃ q, i = .int .i64 (q : Nat) ∧ At s q (Plain.afterSign2 t) ∧ w = wc)
                      case first =>
                        cases hb : sg t with
                        | true =>
                          have H : Hid (At s (p + 1 + 1) (Plain.afterSign2 t)) := by
                            refine hide ?_
                            rw [sg_yes hb]
                            exact (sg_tail hnx hb).2
                          have hb2 := (sg_tail hnx hb).1
                          clear hb hnx
                          go_wp2
                          go_meet
                          case rel => exact ⟨p + 1 + 1, by go_num, unhide H, rfl⟩
                        | false =>
                          have H : Hid (At s (p + 1) (Plain.afterSign2 t)) := by
                            refine hide ?_
                            rw [sg_no hb]
                            exact hnx
                          clear hb hnx
                          go_wp2
                          go_meet
                          case rel => exact ⟨p + 1, by go_num, unhide H, rfl⟩
                      case rest =>
                        clear hnx hple hlt hlt' hpl
                        obtain ⟨p, rfl, hat, rfl⟩ := hcut
                        have hple := hat.le
                        have H : Hid (Plain.J (lst s) = (!(Plain.digs (Plain.afterSign2 t)).isEmpty && (Plain.rest (Plain.afterSign2 t)).isEmpty)) := HX
                        clear HX
                        generalize Plain.afterSign2 t = R0 at *
                        go_wp2_with fail
                        go_loop [3] (fun v => ∃ q R, v = .int .i64 (q : Nat) ∧ At s q R ∧ Hid (Plain.rest R = Plain.rest R0 ∧ q + (Plain.digs R).length = p + (Plain.digs R0).length)) (fun v => s.size - (intOf v).toNat)
                        case atStart => exact ⟨_, _, by first | rfl | go_num, by assumption, hide ⟨rfl, rfl⟩⟩
                        case round =>
                          obtain ⟨q, R, rfl, hq, HR⟩ := hrel
                          have hqle := hq.le
                          rcases hq.run with ⟨t1, t2, t3⟩ | ⟨t0, t1, t2, t3, t4, t5, t6⟩ | ⟨t0, t1, t2, t3, t4⟩ | ⟨t0, t1, t2, t3, t4, t5⟩
                          · have HE : Hid (At s q (Plain.rest R0) ∧ q = p + (Plain.digs R0).length) := by
                              obtain ⟨e1, e2⟩ := unhide HR
                              rw [t3] at e2
                              rw [t2] at e1
                              exact hide ⟨by rw [← e1]; exact hq, by simpa using e2⟩
                            clear HR t2 t3 hq
                            by_cases hz : (Plain.digs R0).length = 0
                            · have hqe : ((q : Int) == (p : Int)) = true := beq_iff_eq.2 (by have := (unhide HE).2; omega)
                              have H3 : Hid (Plain.J (lst s) = false) := by
                                have e := unhide H
                                rw [List.eq_nil_of_length_eq_zero hz] at e
                                exact hide e
                              clear hz H HE
                              go_wp2
                              go_ret
                              exact ⟨ret_bool (unhide H3).symm, rfl⟩
                            · have hqe : ((q : Int) == (p : Int)) = false := beq_eq_false_iff_ne.2 (by have := (unhide HE).2; omega)
                              have H3 : Hid (Plain.J (lst s) = ((q : Int) == (s.size : Int))) := by
                                have e := unhide H
                                have hne : (Plain.digs R0).isEmpty = false := by
                                  cases hdd : Plain.digs R0 with
                                  | nil => rw [hdd] at hz; simp at hz
                                  | cons _ _ => rfl
                                rw [hne] at e
                                refine hide (e.trans ?_)
                                have hq2 := (unhide HE).1
                                cases hrr : Plain.rest R0 with
                                | nil =>
                                  rw [hrr] at hq2
                                  have := hq2.nil
                                  rw [beq_iff_eq.2 (show (q : Int) = (s.size : Int) by omega)]; rfl
                                | cons a b =>
                                  rw [hrr] at hq2
                                  have := hq2.lt
                                  rw [beq_eq_false_iff_ne.2 (show (q : Int) ≠ (s.size : Int) by omega)]; rfl
                              clear hz H HE
                              go_wp2
                              go_ret
                              exact ⟨ret_bool (unhide H3).symm, rfl⟩
                          · have HN : Hid (At s (q + 1) R.tail ∧ Plain.rest R.tail = Plain.rest R0 ∧ q + 1 + (Plain.digs R.tail).length = p + (Plain.digs R0).length) := by
                              obtain ⟨e1, e2⟩ := unhide HR
                              exact hide ⟨t4, by rw [← t5]; exact e1, by omega⟩
                            clear HR t4 t5 t6 hq
                            go_wp2
                            go_round
                            case rel => exact ⟨q + 1, R.tail, by go_num, (unhide HN).1, hide (unhide HN).2⟩
                            case measure => simp [intOf]; omega
                          · have HE : Hid (At s q (Plain.rest R0) ∧ q = p + (Plain.digs R0).length) := by
                              obtain ⟨e1, e2⟩ := unhide HR
                              rw [t4] at e2
                              rw [t3] at e1
                              exact hide ⟨by rw [← e1]; exact hq, by simpa using e2⟩
                            clear HR t3 t4 hq
                            by_cases hz : (Plain.digs R0).length = 0
                            · have hqe : ((q : Int) == (p : Int)) = true := beq_iff_eq.2 (by have := (unhide HE).2; omega)
                              have H3 : Hid (Plain.J (lst s) = false) := by
                                have e := unhide H
                                rw [List.eq_nil_of_length_eq_zero hz] at e
                                exact hide e
                              clear hz H HE
                              go_wp2
                              go_ret
                              exact ⟨ret_bool (unhide H3).symm, rfl⟩
                            · have hqe : ((q : Int) == (p : Int)) = false := beq_eq_false_iff_ne.2 (by have := (unhide HE).2; omega)
                              have H3 : Hid (Plain.J (lst s) = ((q : Int) == (s.size : Int))) := by
                                have e := unhide H
                                have hne : (Plain.digs R0).isEmpty = false := by
                                  cases hdd : Plain.digs R0 with
                                  | nil => rw [hdd] at hz; simp at hz
                                  | cons _ _ => rfl
                                rw [hne] at e
                                refine hide (e.trans ?_)
                                have hq2 := (unhide HE).1
                                cases hrr : Plain.rest R0 with
                                | nil =>
                                  rw [hrr] at hq2
                                  have := hq2.nil
                                  rw [beq_iff_eq.2 (show (q : Int) = (s.size : Int) by omega)]; rfl
                                | cons a b =>
                                  rw [hrr] at hq2
                                  have := hq2.lt
                                  rw [beq_eq_false_iff_ne.2 (show (q : Int) ≠ (s.size : Int) by omega)]; rfl
                              clear hz H HE
                              go_wp2
                              go_ret
                              exact ⟨ret_bool (unhide H3).symm, rfl⟩
                          · have HE : Hid (At s q (Plain.rest R0) ∧ q = p + (Plain.digs R0).length) := by
                              obtain ⟨e1, e2⟩ := unhide HR
                              rw [t5] at e2
                              rw [t4] at e1
                              exact hide ⟨by rw [← e1]; exact hq, by simpa using e2⟩
                            clear HR t4 t5 hq
                            by_cases hz : (Plain.digs R0).length = 0
                            · have hqe : ((q : Int) == (p : Int)) = true := beq_iff_eq.2 (by have := (unhide HE).2; omega)
                              have H3 : Hid (Plain.J (lst s) = false) := by
                                have e := unhide H
                                rw [List.eq_nil_of_length_eq_zero hz] at e
                                exact hide e
                              clear hz H HE
                              go_wp2
                              go_ret
                              exact ⟨ret_bool (unhide H3).symm, rfl⟩
                            · have hqe : ((q : Int) == (p : Int)) = false := beq_eq_false_iff_ne.2 (by have := (unhide HE).2; omega)
                              have H3 : Hid (Plain.J (lst s) = ((q : Int) == (s.size : Int))) := by
                                have e := unhide H
                                have hne : (Plain.digs R0).isEmpty = false := by
                                  cases hdd : Plain.digs R0 with
                                  | nil => rw [hdd] at hz; simp at hz
                                  | cons _ _ => rfl
                                rw [hne] at e
                                refine hide (e.trans ?_)
                                have hq2 := (unhide HE).1
                                cases hrr : Plain.rest R0 with
                                | nil =>
                                  rw [hrr] at hq2
                                  have := hq2.nil
                                  rw [beq_iff_eq.2 (show (q : Int) = (s.size : Int) by omega)]; rfl
                                | cons a b =>
                                  rw [hrr] at hq2
                                  have := hq2.lt
                                  rw [beq_eq_false_iff_ne.2 (show (q : Int) ≠ (s.size : Int) by omega)]; rfl
                              clear hz H HE
                              go_wp2
                              go_ret
                              exact ⟨ret_bool (unhide H3).symm, rfl⟩
                · have hE' : Plain.isE c = false := by simpa using hE
                  obtain ⟨e1, e2⟩ := Bool.or_eq_false_iff.1 hE'
                  rw [e1] at b1
                  rw [e2] at b2
                  have H : Hid (Plain.J (lst s) = false) := by
                    have e := unhide HJ
                    rw [Plain.tailOk, e1, e2] at e
                    exact hide e
                  clear hE hE' e1 e2 hat HJ
                  go_wp2
                  go_ret
                  exact ⟨ret_bool (by rw [unhide H]), rfl⟩
end Go.Proofs.Qxb6614357a.Leaves
