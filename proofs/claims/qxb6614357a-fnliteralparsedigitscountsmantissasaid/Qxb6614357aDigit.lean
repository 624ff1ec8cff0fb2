/-
  (*numberLiteral).digit by a contract. (Seat b6614357a.)
-/
import Derived.Test.Qxb6614357aLeaves
namespace Go.Proofs.Qxb6614357a.Leaves
open Go.RowKit Go.Proofs.Qxb6614357a
set_option linter.unusedVariables false

/-- the byte that 'digit' answers -/
def dval (W R : ByteArray) (i : Nat) : Int := IntKind.u8.wrap (((((lst W ++ lst R)[i]?).map (·.toNat)).getD 0 : Nat) - 48)

theorem dval_whole (W R : ByteArray) (i : Nat) (h : i < W.size) : dval W R i = IntKind.u8.wrap ((W[i].toNat : Int) - 48) := by
  have h' : i < (lst W).length := by rw [← size_lst]; exact h
  unfold dval
  rw [List.getElem?_append_left h', List.getElem?_eq_getElem h']
  rfl
theorem dval_frac (W R : ByteArray) (i : Nat) (h : W.size ≤ i) (h2 : i - W.size < R.size) : dval W R i = IntKind.u8.wrap ((R[i - W.size].toNat : Int) - 48) := by
  have h' : i - (lst W).length < (lst R).length := by rw [← size_lst, ← size_lst]; exact h2
  unfold dval
  rw [List.getElem?_append_right (by rw [← size_lst]; exact h), List.getElem?_eq_getElem h']
  rfl

set_option maxHeartbeats 1000000 in
theorem digit_any (b i : Nat) (W R : ByteArray) (w : World) (h : Lit2 w b W R) (hi : i < W.size + R.size) :
    Calls Try.prog 16 #[.pointer (some ⟨b, 0, none⟩), .int .i64 (i : Int)] w fun e w' => e = .returned (.int .u8 (dval W R i)) ∧ ∃ nq, w' = w.drewN nq := by
  have hL := h
  obtain ⟨c1, c2, s1, s2⟩ := h
  by_cases hw : i < W.size
  · have hw' : (i : Int) < (W.size : Int) := by omega
    have H := hide (dval_whole W R i hw)
    clear hL
    go_enter Try.func16, Try.ntmps16
    go_wp2_with fail
    go_ret
    exact ⟨ret_int (by rw [unhide H]; rfl), 0, rfl⟩
  · have hw' : ¬ (i : Int) < (W.size : Int) := by omega
    have hs : (i : Int) < (W.size : Int) + (R.size : Int) := by omega
    have H := hide (dval_frac W R i (by omega) (by omega))
    have hx0 : (0 : Int) ≤ (i : Int) - (W.size : Int) := by omega
    have hx1 : (i : Int) - (W.size : Int) < (R.size : Int) := by omega
    go_enter Try.func16, Try.ntmps16
    go_wp2_with fail
    refine (digits_any b W R _ hL).mono ?_
    rintro e w' ⟨rfl, nq, rfl⟩
    clear hL
    go_wp2_with fail
    go_quiet (fail)
    go_wp2_with fail
    go_ret
    exact ⟨ret_int (by rw [unhide H]; rfl), by simp only [World.drewN_drewN]; exact ⟨_, rfl⟩⟩
end Go.Proofs.Qxb6614357a.Leaves
