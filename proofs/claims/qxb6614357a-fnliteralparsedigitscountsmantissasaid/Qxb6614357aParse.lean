/-
  (*numberLiteral).parse by a contract. (Seat b6614357a.)
-/
import Derived.Test.Qxb6614357aDigit
import Derived.Deep.DeepCutAuto
import Derived.Deep.CutBlock
import Derived.Deep.LoopGhost
import Derived.Deep.OwnRows
import Derived.Deep.RegionHeld3
namespace Go.Proofs.Qxb6614357a.Leaves
open Go.RowKit Go.Deep Go.Proofs.Qxb6614357a
set_option linter.unusedVariables false

/-- the literal's six cells -/
def lv (n : Bool) (W R : ByteArray) (x f p : Int) : Nat → Value
  | 0 => .bool n | 1 => .string W | 2 => .string R | 3 => .int .i64 x | 4 => .int .i64 f | _ => .int .i64 p

section
variable {wc : World} {b : Nat} {n : Bool} {W R : ByteArray} {x f p : Int}
theorem lv_set0 (h : wc.rowIs b 29 6 (lv n W R x f p)) (v : Bool) : (wc.setCell ⟨b, 0, none⟩ (.bool v)).rowIs b 29 6 (lv v W R x f p) :=
  (h.set 0 _).congr (fun j hj => by rcases j with _ | _ | _ | _ | _ | _ | j <;> first | rfl | omega)
theorem lv_set1 (h : wc.rowIs b 29 6 (lv n W R x f p)) (v : ByteArray) : (wc.setCell ⟨b, 1, none⟩ (.string v)).rowIs b 29 6 (lv n v R x f p) :=
  (h.set 1 _).congr (fun j hj => by rcases j with _ | _ | _ | _ | _ | _ | j <;> first | rfl | omega)
theorem lv_set2 (h : wc.rowIs b 29 6 (lv n W R x f p)) (v : ByteArray) : (wc.setCell ⟨b, 2, none⟩ (.string v)).rowIs b 29 6 (lv n W v x f p) :=
  (h.set 2 _).congr (fun j hj => by rcases j with _ | _ | _ | _ | _ | _ | j <;> first | rfl | omega)
theorem lv_set3 (h : wc.rowIs b 29 6 (lv n W R x f p)) (v : Int) : (wc.setCell ⟨b, 3, none⟩ (.int .i64 v)).rowIs b 29 6 (lv n W R v f p) :=
  (h.set 3 _).congr (fun j hj => by rcases j with _ | _ | _ | _ | _ | _ | j <;> first | rfl | omega)
theorem lv_set4 (h : wc.rowIs b 29 6 (lv n W R x f p)) (v : Int) : (wc.setCell ⟨b, 4, none⟩ (.int .i64 v)).rowIs b 29 6 (lv n W R x v p) :=
  (h.set 4 _).congr (fun j hj => by rcases j with _ | _ | _ | _ | _ | _ | j <;> first | rfl | omega)
theorem lv_set5 (h : wc.rowIs b 29 6 (lv n W R x f p)) (v : Int) : (wc.setCell ⟨b, 5, none⟩ (.int .i64 v)).rowIs b 29 6 (lv n W R x f v) :=
  (h.set 5 _).congr (fun j hj => by rcases j with _ | _ | _ | _ | _ | _ | j <;> first | rfl | omega)
end

/-- the literal in a world of its own make -/
structure PW (w wc : World) (b : Nat) (W R : ByteArray) (x f : Int) : Prop where
  row : ∃ n p, wc.rowIs b 29 6 (lv n W R x f p)
  bel : Below b w wc

section
variable {w wc : World} {b : Nat} {W R : ByteArray} {x f : Int}
theorem PW.lt (h : PW w wc b W R x f) : b < wc.heap.size := by obtain ⟨n, p, hr⟩ := h.row; exact hr.lt
theorem PW.c0 (h : PW w wc b W R x f) : ∃ n, wc.cell? ⟨b, 0, none⟩ = some (.bool n) := by obtain ⟨n, p, hr⟩ := h.row; exact ⟨n, hr.cell (i := 0) (by omega)⟩
theorem PW.c1 (h : PW w wc b W R x f) : wc.cell? ⟨b, 1, none⟩ = some (.string W) := by obtain ⟨n, p, hr⟩ := h.row; exact hr.cell (i := 1) (by omega)
theorem PW.c2 (h : PW w wc b W R x f) : wc.cell? ⟨b, 2, none⟩ = some (.string R) := by obtain ⟨n, p, hr⟩ := h.row; exact hr.cell (i := 2) (by omega)
theorem PW.c3 (h : PW w wc b W R x f) : wc.cell? ⟨b, 3, none⟩ = some (.int .i64 x) := by obtain ⟨n, p, hr⟩ := h.row; exact hr.cell (i := 3) (by omega)
theorem PW.c4 (h : PW w wc b W R x f) : wc.cell? ⟨b, 4, none⟩ = some (.int .i64 f) := by obtain ⟨n, p, hr⟩ := h.row; exact hr.cell (i := 4) (by omega)
theorem PW.c5 (h : PW w wc b W R x f) : ∃ p, wc.cell? ⟨b, 5, none⟩ = some (.int .i64 p) := by obtain ⟨n, p, hr⟩ := h.row; exact ⟨p, hr.cell (i := 5) (by omega)⟩
theorem PW.fz (h : PW w wc b W R x f) (j : Nat) : wc.frozen? ⟨b, j, none⟩ = false := by obtain ⟨n, p, hr⟩ := h.row; exact hr.frozen j
theorem PW.set0 (h : PW w wc b W R x f) (v : Bool) : PW w (wc.setCell ⟨b, 0, none⟩ (.bool v)) b W R x f := by
  obtain ⟨⟨n, p, hr⟩, hb⟩ := h; exact ⟨⟨_, _, lv_set0 hr v⟩, hb.setCell (Nat.le_refl _) _⟩
theorem PW.set1 (h : PW w wc b W R x f) (v : ByteArray) : PW w (wc.setCell ⟨b, 1, none⟩ (.string v)) b v R x f := by
  obtain ⟨⟨n, p, hr⟩, hb⟩ := h; exact ⟨⟨_, _, lv_set1 hr v⟩, hb.setCell (Nat.le_refl _) _⟩
theorem PW.set2 (h : PW w wc b W R x f) (v : ByteArray) : PW w (wc.setCell ⟨b, 2, none⟩ (.string v)) b W v x f := by
  obtain ⟨⟨n, p, hr⟩, hb⟩ := h; exact ⟨⟨_, _, lv_set2 hr v⟩, hb.setCell (Nat.le_refl _) _⟩
theorem PW.set3 (h : PW w wc b W R x f) (v : Int) : PW w (wc.setCell ⟨b, 3, none⟩ (.int .i64 v)) b W R v f := by
  obtain ⟨⟨n, p, hr⟩, hb⟩ := h; exact ⟨⟨_, _, lv_set3 hr v⟩, hb.setCell (Nat.le_refl _) _⟩
theorem PW.set4 (h : PW w wc b W R x f) (v : Int) : PW w (wc.setCell ⟨b, 4, none⟩ (.int .i64 v)) b W R x v := by
  obtain ⟨⟨n, p, hr⟩, hb⟩ := h; exact ⟨⟨_, _, lv_set4 hr v⟩, hb.setCell (Nat.le_refl _) _⟩
theorem PW.set5 (h : PW w wc b W R x f) (v : Int) : PW w (wc.setCell ⟨b, 5, none⟩ (.int .i64 v)) b W R x f := by
  obtain ⟨⟨n, p, hr⟩, hb⟩ := h; exact ⟨⟨_, _, lv_set5 hr v⟩, hb.setCell (Nat.le_refl _) _⟩
theorem PW.drewN (h : PW w wc b W R x f) (q : Nat) : PW w (wc.drewN q) b W R x f := by
  obtain ⟨⟨n, p, hr⟩, hb⟩ := h; exact ⟨⟨n, p, hr⟩, below_drewN hb q⟩
theorem PW.lit2 (h : PW w wc b W R x f) (s1 : W.size ≤ 1048576) (s2 : R.size ≤ 1048576) : Lit2 wc b W R := ⟨h.c1, h.c2, s1, s2⟩
end

/-- the literal as it stands behind a parse that says yes -/
def Good (w w' : World) (b : Nat) (l : List UInt8) : Prop := ∃ W R x f, PW w w' b W R x f ∧ W.size + R.size = Plain.count l ∧ W.size ≤ 1048576 ∧ R.size ≤ 1048576

theorem headIs_byte (W : ByteArray) (h : 0 < W.size) (d : UInt8) : (((W[0]'h).toNat : Int) == (d.toNat : Int)) = Plain.headIs (lst W) d := by
  have e : lst W = W[0]'h :: (lst W).drop 1 := by simpa using drop_cons W 0 h
  rw [e, Plain.headIs_cons]
  rw [Bool.eq_iff_iff, beq_iff_eq, beq_iff_eq]
  constructor
  · intro h; exact UInt8.toNat_inj.1 (by omega)
  · intro h; rw [h]
theorem empty_list (W : ByteArray) (h : W.size = 0) : W.toList = [] := by
  rw [Lib.toList_data]
  exact List.eq_nil_of_length_eq_zero (by rw [← size_lst]; exact h)
theorem some_list (W : ByteArray) (h : 0 < W.size) : W.toList.isEmpty = false := by
  rw [Lib.toList_data]
  cases hl : lst W with
  | nil => rw [size_lst, hl] at h; simp at h
  | cons a t => rw [show W.data.toList = a :: t from hl]; rfl
theorem isEmpty_size (W : ByteArray) : (lst W).isEmpty = decide (W.size = 0) := by
  rw [size_lst]
  cases lst W <;> simp
theorem ne_nil (W : ByteArray) (h : 0 < W.size) : ¬ W.toList = [] := by
  intro e
  have := some_list W h
  rw [e] at this
  cases this

theorem far5 (w : World) (b j : Nat) (v : Value) (h : j ≠ 5) : (w.setCell ⟨b, 5, none⟩ v).cell? ⟨b, j, none⟩ = w.cell? ⟨b, j, none⟩ := by
  have hne : (⟨b, 5, none⟩ : Addr) ≠ ⟨b, j, none⟩ := by
    intro e
    injection e with e1 e2 e3
    exact h e2.symm
  rw [World.cell?_setCell_other]
  exact hne
theorem PW.allocDrew {w wc : World} {b : Nat} {W R : ByteArray} {x f : Int} (h : PW w wc b W R x f) (o : Obj) : PW w (wc.alloc o).drew b W R x f := by
  have hlt := h.lt
  obtain ⟨⟨n, p, hr⟩, hb⟩ := h
  exact ⟨⟨n, p, (hr.alloc o).drew⟩, (hb.alloc (Nat.le_of_lt hlt) o).drew⟩
theorem PW.drew {w wc : World} {b : Nat} {W R : ByteArray} {x f : Int} (h : PW w wc b W R x f) : PW w wc.drew b W R x f := by
  obtain ⟨⟨n, p, hr⟩, hb⟩ := h
  exact ⟨⟨n, p, hr.drew⟩, hb.drew⟩
theorem Lit2.drewN {w : World} {b : Nat} {W R : ByteArray} (h : Lit2 w b W R) (n : Nat) : Lit2 (w.drewN n) b W R := ⟨h.c1, h.c2, h.s1, h.s2⟩
theorem bytes_cell (D : ByteArray) (wc : World) (cap : Nat) (fr : Nat × Nat) (j : Nat) (hj : j < D.size) :
    ∃ c : Int, 0 ≤ c ∧ c ≤ 255 ∧ (wc.alloc (.cells (bytesRow D cap) 5 fr)).drew.cell? ⟨wc.heap.size, j, none⟩ = some (.int .u8 c) := by
  have hj' : j < D.data.size := hj
  refine ⟨(D.data[j].toNat : Int), by omega, by have := D.data[j].toNat_lt; omega, ?_⟩
  show (wc.alloc (.cells (bytesRow D cap) 5 fr)).cell? ⟨wc.heap.size, j, none⟩ = _
  rw [World.cell?_alloc_mark]
  unfold bytesRow
  rw [Array.getElem?_append_left (by simpa using hj'), Array.getElem?_map, Array.getElem?_eq_getElem hj']
  rfl

set_option maxRecDepth 100000 in
set_option maxHeartbeats 8000000 in
theorem parse_any (b : Nat) (s : ByteArray) (w : World) (hs : s.size ≤ 1048576) (h0 : PW w w b ⟨#[]⟩ ⟨#[]⟩ 0 0) :
    Calls Try.prog 10 #[.pointer (some ⟨b, 0, none⟩), .string s] w fun e w' => e = .returned (.bool (Plain.J (lst s))) ∧ Below b w w' ∧ (Plain.J (lst s) = true → Good w w' b (lst s)) := by
  have hs' : s.size ≤ maxLen := by unfold maxLen; omega
  obtain ⟨n0, a0⟩ := h0.c0
  have a1 := h0.c1
  have f0 := h0.fz 0
  have f1 := h0.fz 1
  have HP := hide h0
  clear h0
  go_enter Try.func10, Try.ntmps10
  go_wp2_with fail
  refine (has_any s 45 _ hs').mono ?_
  rintro e w1 ⟨rfl, hw⟩
  replace hw := hw.symm
  subst hw
  go_wp2_with fail
  refine (trim_any s 45 _ hs').mono ?_
  rintro e w2 ⟨⟨r1, rfl, z1, l1⟩, hw⟩
  replace hw := hw.symm
  subst hw
  have HL1 : Hid (lst r1 = Plain.afterSign (lst s)) := hide l1
  clear l1
  have hr1 : r1.size ≤ maxLen := Nat.le_trans z1 hs'
  go_wp2_with fail
  refine (leading_any r1 _ hr1).mono ?_
  rintro e w3 ⟨rfl, hw⟩
  replace hw := hw.symm
  subst hw
  have hk1 : (Plain.digs (lst r1)).length ≤ r1.size := by rw [size_lst]; exact digs_le _
  have hW1 : lst (r1.extract 0 (Plain.digs (lst r1)).length) = Plain.digs (lst r1) := by rw [pre_lst, digs_take]
  have hW2 : (r1.extract 0 (Plain.digs (lst r1)).length).size = (Plain.digs (lst r1)).length := pre_size r1 _ hk1
  rw [← hW2] at hk1
  generalize r1.extract 0 (Plain.digs (lst r1)).length = W at *
  have HW := hide hW1
  have HWs := hide hW2
  clear hW1 hW2 hr1
  have hk1' : (W.size : Int) ≤ (r1.size : Int) := by omega
  have hWsz : W.size ≤ 1048576 := by omega
  go_upto_region 5 with fail
  have HR2 : Hid (lst (r1.extract W.size r1.size) = Plain.rest (Plain.afterSign (lst s))) := by
    refine hide ?_
    rw [cut_lst, unhide HWs, ← unhide HL1, ← Plain.rest_eq_drop]
  have HD : Hid (lst W = Plain.digs (Plain.afterSign (lst s))) := by
    refine hide ?_
    rw [unhide HW, unhide HL1]
  have hsz2 : (r1.extract W.size r1.size).size ≤ 1048576 := by rw [cut_size]; omega
  have HP2 : Hid (PW w ((w.setCell ⟨b, 0, none⟩ (.bool (Plain.headIs (lst s) 45))).setCell ⟨b, 1, none⟩ (.string W)) b W ⟨#[]⟩ 0 0) := hide (((unhide HP).set0 _).set1 W)
  clear HL1 HW HWs HP
  generalize r1.extract W.size r1.size = r2 at *
  go_cut [49] (fun t wc => t = .bool (!Plain.wholeOk (lst W)) ∧ PW w wc b W ⟨#[]⟩ 0 0)
  case first =>
    by_cases hz : W.size = 0
    · have e1 := empty_list W hz
      have H : Hid (Plain.wholeOk (lst W) = false) := by
        refine hide ?_
        rw [show lst W = [] from List.eq_nil_of_length_eq_zero (by rw [← size_lst]; exact hz)]; rfl
      clear HR2 HD
      go_wp2_with fail
      go_meet
      case rel => exact ⟨by rw [unhide H]; rfl, unhide HP2⟩
    · have hz0 : 0 < W.size := by omega
      have e1 := some_list W hz0
      by_cases hz1 : W.size = 1
      · have hz1' : ¬ (1 : Int) < (W.size : Int) := by omega
        have H : Hid (Plain.wholeOk (lst W) = true) := by
          refine hide ?_
          rw [Plain.wholeOk, isEmpty_size, ← size_lst]
          simp [hz1]
        clear HR2 HD hz1 hz
        go_wp2_with fail
        go_meet
        case rel => exact ⟨by rw [unhide H]; rfl, unhide HP2⟩
      · have hz1' : (1 : Int) < (W.size : Int) := by omega
        have e2 : ((W[0].toNat : Int) == 48) = Plain.headIs (lst W) 48 := headIs_byte W hz0 48
        have H : Hid (Plain.headIs (lst W) 48 = !Plain.wholeOk (lst W)) := by
          refine hide ?_
          rw [Plain.wholeOk, isEmpty_size, ← size_lst]
          simp [hz]
          intro _; omega
        clear HR2 HD hz1 hz
        go_wp2_with fail
        go_meet
        case rel => exact ⟨by rw [unhide H], unhide HP2⟩
  case rest =>
    obtain ⟨rfl, hP⟩ := hcut
    clear a0 a1 f0 f1 HP2
    cases hwk : Plain.wholeOk (lst W) with
    | false =>
      have H : Hid (Plain.J (lst s) = false) := by
        refine hide ?_
        rw [Plain.J, ← unhide HD, hwk]; rfl
      clear hwk HR2 HD
      go_wp2_with fail
      go_ret
      exact ⟨ret_bool (unhide H).symm, hP.bel, fun h => by rw [unhide H] at h; cases h⟩
    | true =>
      have HJ : Hid (Plain.J (lst s) = Plain.fracOk (lst r2) ∧ W.size + (Plain.fracDigs (lst r2)).length = Plain.count (lst s)) := by
        refine hide ⟨?_, ?_⟩
        · rw [Plain.J, ← unhide HD, hwk, unhide HR2]; rfl
        · rw [Plain.count, ← unhide HD, ← size_lst, unhide HR2]
      clear hwk HR2 HD
      have hr2 : r2.size ≤ maxLen := by unfold maxLen; omega
      go_wp2_with fail
      refine (has_any r2 46 _ hr2).mono ?_
      rintro e w5 ⟨rfl, hw⟩
      replace hw := hw.symm
      subst hw
      go_upto_if 51 with fail
      go_cut [5] (fun r wc => ∃ r3 R, r = .string r3 ∧ r3.size ≤ 1048576 ∧ R.size ≤ 1048576 ∧ PW w wc b W R 0 0 ∧ Hid (Plain.J (lst s) = Plain.tailOk (lst r3) ∧ W.size + R.size = Plain.count (lst s)))
      case first =>
        cases hb : Plain.headIs (lst r2) 46 with
        | false =>
          have H : Hid (Plain.J (lst s) = Plain.tailOk (lst r2) ∧ W.size + (⟨#[]⟩ : ByteArray).size = Plain.count (lst s)) := by
            obtain ⟨e1, e2⟩ := unhide HJ
            rw [Plain.fracOk, hb] at e1
            rw [Plain.fracDigs, hb] at e2
            exact hide ⟨e1, e2⟩
          clear hb HJ
          go_wp2_with fail
          go_meet
          case rel => exact ⟨r2, ⟨#[]⟩, rfl, hsz2, by decide, hP, H⟩
        | true =>
          have h1 : 0 < r2.size := by
            rw [size_lst]
            cases h : lst r2 with
            | nil => rw [h] at hb; cases hb
            | cons a t => simp
          have h1' : (1 : Int) ≤ (r2.size : Int) := by omega
          have H : Hid (Plain.J (lst s) = (!(Plain.digs (lst r2).tail).isEmpty && Plain.tailOk (Plain.rest (lst r2).tail)) ∧ W.size + (Plain.digs (lst r2).tail).length = Plain.count (lst s)) := by
            obtain ⟨e1, e2⟩ := unhide HJ
            rw [Plain.fracOk, hb] at e1
            rw [Plain.fracDigs, hb] at e2
            exact hide ⟨e1, e2⟩
          clear hb HJ
          go_wp2_with fail
          have q1 : lst (r2.extract 1 r2.size) = (lst r2).tail := by rw [cut_lst]; simp
          have q2 : (r2.extract 1 r2.size).size = r2.size - 1 := cut_size r2 1
          generalize r2.extract 1 r2.size = t2 at *
          have HQ := hide q1
          have t2s : t2.size ≤ 1048576 := by omega
          have t2m : t2.size ≤ maxLen := by unfold maxLen; omega
          clear q1
          refine (leading_any t2 _ t2m).mono ?_
          rintro e w6 ⟨rfl, hw⟩
          replace hw := hw.symm
          subst hw
          have hk1 : (Plain.digs (lst t2)).length ≤ t2.size := by rw [size_lst]; exact digs_le _
          have hW1 : lst (t2.extract 0 (Plain.digs (lst t2)).length) = Plain.digs (lst t2) := by rw [pre_lst, digs_take]
          have hW2 : (t2.extract 0 (Plain.digs (lst t2)).length).size = (Plain.digs (lst t2)).length := pre_size t2 _ hk1
          rw [← hW2] at hk1
          generalize t2.extract 0 (Plain.digs (lst t2)).length = R at *
          have HR := hide hW1
          have HRs := hide hW2
          clear hW1 hW2
          have hk1' : 1 + (R.size : Int) ≤ (r2.size : Int) := by omega
          have hRsz : R.size ≤ 1048576 := by omega
          have a2 := hP.c2
          have f2 := hP.fz 2
          have HP3 := hide (hP.set2 R)
          have HPb := hide hP.bel
          clear hP q2
          by_cases hz : R.size = 0
          · have e1 := empty_list R hz
            have H3 : Hid (Plain.J (lst s) = false) := by
              have e := (unhide H).1
              have ez : Plain.digs (lst r2).tail = [] := List.eq_nil_of_length_eq_zero (by rw [← unhide HQ, ← unhide HRs]; exact hz)
              rw [ez] at e
              exact hide e
            clear H HQ HR HRs hz
            go_wp2_with fail
            go_ret
            exact ⟨ret_bool (unhide H3).symm, (unhide HP3).bel, fun h => by rw [unhide H3] at h; cases h⟩
          · have hz0 : 0 < R.size := by omega
            have e1 := some_list R hz0
            have H3 : Hid (Plain.J (lst s) = Plain.tailOk (lst (r2.extract (1 + R.size) r2.size)) ∧ W.size + R.size = Plain.count (lst s)) := by
              obtain ⟨e, e2⟩ := unhide H
              have hne : (Plain.digs (lst r2).tail).isEmpty = false := by
                rw [← unhide HQ]
                cases hdd : Plain.digs (lst t2) with
                | nil => have := unhide HRs; rw [hdd] at this; exact absurd this hz
                | cons _ _ => rfl
              rw [hne] at e
              refine hide ⟨e.trans ?_, ?_⟩
              · rw [cut_lst, unhide HRs, unhide HQ, Plain.rest_eq_drop]
                rw [List.drop_tail, Nat.add_comm]
                rfl
              · rw [unhide HRs, unhide HQ]; exact e2
            have hc3 : (r2.extract (1 + R.size) r2.size).size ≤ 1048576 := by rw [cut_size]; omega
            clear H HQ HR HRs hz
            go_wp2_with fail
            go_meet
            case rel => exact ⟨_, R, rfl, hc3, hRsz, unhide HP3, H3⟩
      case rest =>
        clear hP HJ hsz2 hr2
        obtain ⟨r3, R, rfl, hsz3, hRsz, hP, HJ⟩ := hcut
        go_upto_region 12 with fail
        go_cut [72] (fun t wc => t = .bool (!(lst r3).isEmpty) ∧ PW w wc b W R 0 0)
        case first =>
          by_cases hz : r3.size = 0
          · have e1 := empty_list r3 hz
            have H : Hid ((lst r3).isEmpty = true) := by
              refine hide ?_
              rw [isEmpty_size]; simp [hz]
            clear HJ
            go_wp2_with fail
            go_meet
            case rel => exact ⟨by rw [unhide H]; rfl, hP⟩
          · have hz0 : 0 < r3.size := by omega
            have e1 := some_list r3 hz0
            have H : Hid ((lst r3).isEmpty = false) := by
              refine hide ?_
              rw [isEmpty_size]; simp [hz]
            clear HJ hz
            go_wp2_with fail
            go_meet
            case rel => exact ⟨by rw [unhide H]; rfl, hP⟩
        case rest =>
          clear hP
          obtain ⟨rfl, hP⟩ := hcut
          go_upto_if 72 with fail
          go_cut [5] (fun _ wc => ∃ x, PW w wc b W R x 0 ∧ Hid (Plain.J (lst s) = true))
          case first =>
            cases hl : lst r3 with
            | nil =>
              have H : Hid (Plain.J (lst s) = true) := by
                have e := (unhide HJ).1
                rw [hl] at e
                exact hide e
              clear HJ hl
              go_wp2_with fail
              go_meet
              case rel => exact ⟨0, hP, H⟩
            | cons c t =>
              have hz0 : 0 < r3.size := by rw [size_lst, hl]; simp
              have hz1 : (1 : Int) ≤ (r3.size : Int) := by omega
              have b1 : ((r3[0].toNat : Int) == 101) = (c == 101) := by
                have := headIs_byte r3 hz0 101
                rw [hl, Plain.headIs_cons] at this
                exact this
              have b2 : ((r3[0].toNat : Int) == 69) = (c == 69) := by
                have := headIs_byte r3 hz0 69
                rw [hl, Plain.headIs_cons] at this
                exact this
              have HC : Hid (lst (r3.extract 1 r3.size) = t ∧ (r3.extract 1 r3.size).size ≤ 1048576) := by
                refine hide ⟨?_, ?_⟩
                · rw [cut_lst, hl]; rfl
                · rw [cut_size]; omega
              have HJ2 : Hid (Plain.J (lst s) = ((c == 101 || c == 69) && Plain.expOk t)) := by
                have e := (unhide HJ).1
                rw [hl] at e
                exact hide e
              clear HJ hl
              go_upto_region 13 with fail
              go_cut [80] (fun u wc => u = .bool (!Plain.isE c) ∧ PW w wc b W R 0 0)
              case first =>
                cases e1 : (c == 101) with
                | true =>
                  rw [e1] at b1
                  have b1' : (r3[0].toNat : Int) = 101 := by simpa using b1
                  have H : Hid (Plain.isE c = true) := hide (by rw [Plain.isE, e1]; rfl)
                  clear e1 b1 b2 HC HJ2
                  go_wp2_with fail
                  go_meet
                  case rel => exact ⟨by rw [unhide H]; rfl, hP⟩
                | false =>
                  rw [e1] at b1
                  have b1' : ((r3[0].toNat : Int) != 101) = true := by rw [bne, b1]; rfl
                  cases e2 : (c == 69) with
                  | true =>
                    rw [e2] at b2
                    have b2' : ((r3[0].toNat : Int) != 69) = false := by rw [bne, b2]; rfl
                    have H : Hid (Plain.isE c = true) := hide (by rw [Plain.isE, e1, e2]; rfl)
                    clear e1 e2 HC HJ2
                    go_wp2_with fail
                    go_meet
                    case rel => exact ⟨by rw [unhide H]; rfl, hP⟩
                  | false =>
                    rw [e2] at b2
                    have b2' : ((r3[0].toNat : Int) != 69) = true := by rw [bne, b2]; rfl
                    have H : Hid (Plain.isE c = false) := hide (by rw [Plain.isE, e1, e2]; rfl)
                    clear e1 e2 HC HJ2
                    go_wp2_with fail
                    go_meet
                    case rel => exact ⟨by rw [unhide H]; rfl, hP⟩
              case rest =>
                clear hP b1 b2
                obtain ⟨rfl, hP⟩ := hcut
                cases hE : Plain.isE c with
                | false =>
                  have H : Hid (Plain.J (lst s) = false) := by
                    have e := unhide HJ2
                    have hE2 : (c == 101 || c == 69) = false := hE
                    rw [hE2] at e
                    exact hide e
                  clear HJ2 HC hE
                  go_wp2_with fail
                  go_ret
                  exact ⟨ret_bool (unhide H).symm, hP.bel, fun h => by rw [unhide H] at h; cases h⟩
                | true =>
                  have HX : Hid (Plain.J (lst s) = Plain.expOk t) := by
                    have e := unhide HJ2
                    have hE2 : (c == 101 || c == 69) = true := hE
                    rw [hE2] at e
                    exact hide e
                  clear HJ2 hE
                  go_upto_block 0 with fail
                  generalize r3.extract 1 r3.size = r4 at *
                  obtain ⟨q1, q2⟩ := unhide HC
                  have HQ := hide q1
                  clear q1 HC
                  have r4m : r4.size ≤ maxLen := by unfold maxLen; omega
                  go_cut [5, 6] (fun r g wc => ∃ r5 y, r = .string r5 ∧ g = .int .i64 y ∧ r5.size ≤ 1048576 ∧ Hid (lst r5 = Plain.afterSign2 t) ∧ PW w wc b W R 0 0)
                  case first =>
                    have hcl : lst (r4.extract 1 r4.size) = t.tail ∧ (r4.extract 1 r4.size).size ≤ 1048576 := by
                      refine ⟨?_, ?_⟩
                      · rw [cut_lst, unhide HQ]; simp
                      · rw [cut_size]; omega
                    have HCL := hide hcl
                    clear hcl
                    go_wp2_with fail
                    refine (has_any r4 45 _ r4m).mono ?_
                    rintro e w7 ⟨rfl, hw⟩
                    replace hw := hw.symm
                    subst hw
                    cases hb : Plain.headIs (lst r4) 45 with
                    | true =>
                      have h1 : 0 < r4.size := by
                        rw [size_lst]
                        cases h : lst r4 with
                        | nil => rw [h] at hb; cases hb
                        | cons a t => simp
                      have h1' : (1 : Int) ≤ (r4.size : Int) := by omega
                      have H : Hid (lst (r4.extract 1 r4.size) = Plain.afterSign2 t) := by
                        refine hide ?_
                        rw [(unhide HCL).1, Plain.afterSign2, ← unhide HQ, hb]; rfl
                      clear hb
                      go_wp2_with fail
                      go_quiet (fail)
                      go_wp2_with fail
                      go_meet
                      case rel => exact ⟨_, _, rfl, rfl, (unhide HCL).2, H, hP.drewN _⟩
                    | false =>
                      go_wp2_with fail
                      refine (has_any r4 43 _ r4m).mono ?_
                      rintro e w8 ⟨rfl, hw⟩
                      replace hw := hw.symm
                      subst hw
                      cases hb2 : Plain.headIs (lst r4) 43 with
                      | true =>
                        have h1 : 0 < r4.size := by
                          rw [size_lst]
                          cases h : lst r4 with
                          | nil => rw [h] at hb2; cases hb2
                          | cons a t => simp
                        have h1' : (1 : Int) ≤ (r4.size : Int) := by omega
                        have H : Hid (lst (r4.extract 1 r4.size) = Plain.afterSign2 t) := by
                          refine hide ?_
                          rw [(unhide HCL).1, Plain.afterSign2, ← unhide HQ, hb, hb2]; rfl
                        clear hb hb2
                        go_wp2_with fail
                        go_meet
                        case rel => exact ⟨_, _, rfl, rfl, (unhide HCL).2, H, hP⟩
                      | false =>
                        have H : Hid (lst r4 = Plain.afterSign2 t) := by
                          refine hide ?_
                          rw [unhide HQ, Plain.afterSign2, ← unhide HQ, hb, hb2]; rfl
                        clear hb hb2
                        go_wp2_with fail
                        go_meet
                        case rel => exact ⟨_, _, rfl, rfl, q2, H, hP⟩
                  case rest =>
                    clear hP HQ r4m q2
                    obtain ⟨r5, y, rfl, rfl, hsz5, HR5, hP⟩ := hcut
                    have r5m : r5.size ≤ maxLen := by unfold maxLen; omega
                    go_wp2_with fail
                    refine (leading_any r5 _ r5m).mono ?_
                    rintro e w9 ⟨rfl, hw⟩
                    replace hw := hw.symm
                    subst hw
                    have hk1 : (Plain.digs (lst r5)).length ≤ r5.size := by rw [size_lst]; exact digs_le _
                    have hW2 : (r5.extract 0 (Plain.digs (lst r5)).length).size = (Plain.digs (lst r5)).length := pre_size r5 _ hk1
                    rw [← hW2] at hk1
                    generalize r5.extract 0 (Plain.digs (lst r5)).length = D at *
                    have HDs := hide hW2
                    clear hW2
                    have HX2 : Hid (Plain.J (lst s) = (decide (0 < D.size) && decide (D.size = r5.size))) := by
                      have e := unhide HX
                      rw [Plain.expOk, ← unhide HR5] at e
                      refine hide (e.trans ?_)
                      have h1 := unhide HDs
                      have h2 := Plain.digs_len (lst r5)
                      rw [← size_lst] at h2
                      have e1 : (Plain.digs (lst r5)).isEmpty = !decide (0 < D.size) := by
                        rw [h1]; cases Plain.digs (lst r5) <;> simp
                      have e2 : (Plain.rest (lst r5)).isEmpty = decide (D.size = r5.size) := by
                        cases hrr : Plain.rest (lst r5) with
                        | nil => rw [hrr] at h2; simp at h2; simp; omega
                        | cons a b => rw [hrr] at h2; simp at h2; simp; omega
                      rw [e1, e2]; simp
                    clear HX HR5 HDs
                    by_cases hz : D.size = 0
                    · have e1 := empty_list D hz
                      have H : Hid (Plain.J (lst s) = false) := by
                        have e := unhide HX2
                        rw [decide_eq_false (show ¬ 0 < D.size by omega)] at e
                        exact hide e
                      clear HX2 hz
                      go_wp2_with fail
                      go_ret
                      exact ⟨ret_bool (unhide H).symm, hP.bel, fun h => by rw [unhide H] at h; cases h⟩
                    have hz0 : 0 < D.size := by omega
                    have e1 := some_list D hz0
                    by_cases hne : D.size = r5.size
                    · have H : Hid (Plain.J (lst s) = true) := by
                        have e := unhide HX2
                        rw [decide_eq_true hz0, decide_eq_true hne] at e
                        exact hide e
                      have hne' : ((D.size : Int) != (r5.size : Int)) = false := by simp [hne]
                      clear HX2 hz hne
                      go_upto_region 24 with fail
                      have hcv := fun wx => run_bytes_of_string (P := Try.prog) wx 9 35 5 D Try.underlying9 Try.underlying35 Try.underlying5
                      have hDsz : D.size ≤ 1048576 := by omega
                      have hDsz' : (D.size : Int) ≤ 1048576 := by omega
                      have hblt := hP.lt
                      have HS : Hid (PW w (wc.alloc (.cells (bytesRow D (grownCap wc D.size 0 5)) 5 ((bytesRow D (grownCap wc D.size 0 5)).size, (bytesRow D (grownCap wc D.size 0 5)).size + 1))).drew b W R 0 0 ∧
                          ∀ j, j < D.size → ∃ c : Int, 0 ≤ c ∧ c ≤ 255 ∧ (wc.alloc (.cells (bytesRow D (grownCap wc D.size 0 5)) 5 ((bytesRow D (grownCap wc D.size 0 5)).size, (bytesRow D (grownCap wc D.size 0 5)).size + 1))).drew.cell? ⟨wc.heap.size, j, none⟩ = some (.int .u8 c)) :=
                        hide ⟨hP.allocDrew _, fun j hj => bytes_cell D wc _ _ j hj⟩
                      clear hP
                      go_wp2_with fail
                      go_loopw [107] (fun i wr => ∃ (k : Nat) (x : Int), k ≤ D.size ∧ i = .int .i64 k ∧ Hid (PW w wr b W R x 0 ∧ ∀ j, j < D.size → ∃ c : Int, 0 ≤ c ∧ c ≤ 255 ∧ wr.cell? ⟨wc.heap.size, j, none⟩ = some (.int .u8 c))) (fun i _ => D.size - (intOf i).toNat)
                      case atStart => exact ⟨0, 0, Nat.zero_le _, rfl, HS⟩
                      case round =>
                        clear HS hcv
                        obtain ⟨k, x, hk, rfl, HR⟩ := hrel
                        obtain ⟨hP, hC⟩ := unhide HR
                        have g3 := hP.c3
                        have f3 := hP.fz 3
                        have HN : Hid (∀ v : Int, PW w (wr.setCell ⟨b, 3, none⟩ (.int .i64 v)) b W R v 0 ∧ ∀ j, j < D.size → ∃ c : Int, 0 ≤ c ∧ c ≤ 255 ∧ (wr.setCell ⟨b, 3, none⟩ (.int .i64 v)).cell? ⟨wc.heap.size, j, none⟩ = some (.int .u8 c)) := by
                          refine hide (fun v => ⟨hP.set3 v, fun j hj => ?_⟩)
                          obtain ⟨c, c1, c2, c3⟩ := hC j hj
                          refine ⟨c, c1, c2, ?_⟩
                          rw [World.cell?_setCell_far _ _ _ _ (by show b ≠ wc.heap.size; omega)]
                          exact c3
                        by_cases hlt : k < D.size
                        · have hlt' : (k : Int) < (D.size : Int) := by omega
                          obtain ⟨c, c1, c2, c3⟩ := hC k hlt
                          clear hC hP HR
                          go_wp2_with fail
                          go_roundw
                          case rel => exact ⟨k + 1, _, by omega, by go_num, hide ((unhide HN) _)⟩
                          case measure => simp [intOf]; omega
                        · clear hC hP HR
                          go_wp2_with fail
                          go_meet
                          case rel => exact ⟨_, ((unhide HN) _).1, H⟩
                    · have H : Hid (Plain.J (lst s) = false) := by
                        have e := unhide HX2
                        rw [decide_eq_true hz0, decide_eq_false hne] at e
                        exact hide e
                      have hne' : ((D.size : Int) != (r5.size : Int)) = true := by simp; omega
                      clear HX2 hz hne
                      go_wp2_with fail
                      go_ret
                      exact ⟨ret_bool (unhide H).symm, hP.bel, fun h => by rw [unhide H] at h; cases h⟩
          case rest =>
            clear hP
            obtain ⟨x, hP, HJt⟩ := hcut
            have HCt : Hid (W.size + R.size = Plain.count (lst s)) := hide (unhide HJ).2
            clear HJ
            go_wp2_with fail
            go_loopg [133] (W.size + R.size) (fun g _ wr => ∃ f : Nat, f ≤ W.size + R.size ∧ g = W.size + R.size - f ∧ Hid (PW w wr b W R x (f : Int)))
            case atStart => exact ⟨0, by omega, by omega, hide hP⟩
            case round =>
              clear hP
              obtain ⟨f, hf, hg, HPf⟩ := hrel
              have hP := unhide HPf
              have g1 := hP.c1
              have g2 := hP.c2
              have g3 := hP.c3
              have g4 := hP.c4
              obtain ⟨p5, g5⟩ := hP.c5
              have f4 := hP.fz 4
              have f5 := hP.fz 5
              have hL := hP.lit2 hWsz hRsz
              have HN : Hid (∀ nq : Nat, PW w ((wr.drewN nq).setCell ⟨b, 4, none⟩ (.int .i64 ((f : Int) + 1))) b W R x ((f : Int) + 1)) := hide (fun nq => (hP.drewN nq).set4 _)
              have HF : Hid (∀ (nq : Nat) (v : Int), PW w ((wr.drewN nq).setCell ⟨b, 5, none⟩ (.int .i64 v)) b W R x (f : Int)) := hide (fun nq v => (hP.drewN nq).set5 v)
              clear hP HPf
              have HG : Hid (gk = W.size + R.size - f) := hide hg
              clear hg
              by_cases hlt : f < W.size + R.size
              · have hlt' : (f : Int) < (W.size : Int) + (R.size : Int) := by omega
                by_cases hdz : (dval W R f == 0) = true
                · go_wp2_with fail
                  go_quiet ((first | (go_at_call 12; exact Calls.quiet_of (digits_any b W R _ (hL.drewN _))) | (go_at_call 16; exact Calls.quiet_of (digit_any b f W R _ (hL.drewN _) hlt))))
                  go_wp2_with fail
                  go_roundg (W.size + R.size - (f + 1))
                  case measure => have := unhide HG; omega
                  case rel => exact ⟨f + 1, by omega, rfl, hide (by rw [show ((f + 1 : Nat) : Int) = (f : Int) + 1 by omega]; exact (unhide HN) _)⟩
                · have hdz' : (dval W R f == 0) = false := by simpa using hdz
                  clear hdz
                  go_wp2_with fail
                  go_quiet ((first | (go_at_call 12; exact Calls.quiet_of (digits_any b W R _ (hL.drewN _))) | (go_at_call 16; exact Calls.quiet_of (digit_any b f W R _ (hL.drewN _) hlt))))
                  clear hL
                  go_wp2_with fail
                  go_region_held3 (fun w' => w'.cell? ⟨b, 1, none⟩ = some (.string W) ∧ w'.cell? ⟨b, 4, none⟩ = some (.int .i64 (f : Int)) ∧ w'.cell? ⟨b, 3, none⟩ = some (.int .i64 x)) (exact ⟨by first | exact g1 | exact (far5 _ _ _ _ (by decide)).trans g1, by first | exact g4 | exact (far5 _ _ _ _ (by decide)).trans g4, by first | exact g3 | exact (far5 _ _ _ _ (by decide)).trans g3⟩) (fail)
                  go_wp2_with fail
                  go_ret
                  exact ⟨ret_bool (unhide HJt).symm, ((unhide HF) _ _).bel, fun _ => ⟨W, R, x, _, (unhide HF) _ _, unhide HCt, hWsz, hRsz⟩⟩
              · have hd : decide ((f : Int) < (W.size : Int) + (R.size : Int)) = false := decide_eq_false (by omega)
                go_wp2_with fail
                go_quiet ((first | (go_at_call 12; exact Calls.quiet_of (digits_any b W R _ (hL.drewN _)))))
                clear hL
                go_wp2_with fail
                go_region_held3 (fun w' => w'.cell? ⟨b, 1, none⟩ = some (.string W) ∧ w'.cell? ⟨b, 4, none⟩ = some (.int .i64 (f : Int)) ∧ w'.cell? ⟨b, 3, none⟩ = some (.int .i64 x)) (exact ⟨by first | exact g1 | exact (far5 _ _ _ _ (by decide)).trans g1, by first | exact g4 | exact (far5 _ _ _ _ (by decide)).trans g4, by first | exact g3 | exact (far5 _ _ _ _ (by decide)).trans g3⟩) (fail)
                go_wp2_with fail
                go_ret
                exact ⟨ret_bool (unhide HJt).symm, ((unhide HF) _ _).bel, fun _ => ⟨W, R, x, _, (unhide HF) _ _, unhide HCt, hWsz, hRsz⟩⟩
end Go.Proofs.Qxb6614357a.Leaves
