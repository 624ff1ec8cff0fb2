/-
  The small callees of the two laws of seat b6614342aD, each by a contract.
-/
import Derived.Test.Qxb6614342aDoorRows
import Derived.WalkKit
import Derived.ProofKit
import Derived.WalkSpells
import Derived.WalkLawsBesides
import Derived.Outline
import Derived.Deep.QuietTactic
import Derived.BigQuiet
import Derived.Deep.OwnRows
import Derived.Deep.AppendLies
namespace Go.Proofs.Qxb6614342aDoor.Leaves
open Go.RowKit Go.Deep Go.Proofs.Qxb6614342aDoor
set_option linter.unusedVariables false

theorem hide {p : Prop} (h : p) : Hid p := h
theorem unhide {p : Prop} (h : Hid p) : p := h.out

/-- a slice of n strings that was there before the call -/
def Sl (N : Nat) (w : World) (v : Value) (n : Nat) : Prop :=
  (∃ a c, v = .slice a 0 c ∧ n = 0) ∨
  (∃ b off c, v = .slice (some ⟨b, off, none⟩) n c ∧ b < N ∧ n ≤ 9223372036854775807 ∧ ∀ j, j < n → ∃ s : ByteArray, w.cell? ⟨b, off + j, none⟩ = some (.string s) ∧ s.size ≤ 9223372036854775807)

set_option maxHeartbeats 1000000 in
theorem sbytes_any (N n : Nat) (v : Value) (lim : Int) (w : World) (h : Sl N w v n) :
    Calls Tryd.prog 6 #[v, .int .i64 lim] w fun e w' => (∃ r, e = .returned (.int .i64 r)) ∧ w' = w := by
  rcases h with ⟨a, c, rfl, rfl⟩ | ⟨b, off, c, rfl, hb, hn, hc⟩
  · go_enter Tryd.func6, Tryd.ntmps6
    go_wp2
    go_loop [5, 6] (fun t i => (∃ z, t = .int .i64 z) ∧ i = .int .i64 0) (fun _ _ => 0)
    case atStart => exact ⟨⟨_, rfl⟩, rfl⟩
    case round =>
      obtain ⟨⟨z, rfl⟩, rfl⟩ := hrel
      go_wp2
      go_ret
      exact ⟨⟨_, rfl⟩, rfl⟩
  · go_enter Tryd.func6, Tryd.ntmps6
    go_wp2
    go_loop [5, 6] (fun t i => ∃ (z : Int) (k : Nat), t = .int .i64 z ∧ k ≤ n ∧ i = .int .i64 k) (fun _ i => n - (intOf i).toNat)
    case atStart => exact ⟨0, 0, rfl, Nat.zero_le _, rfl⟩
    case round =>
      obtain ⟨z, k, rfl, hk, rfl⟩ := hrel
      by_cases hlt : k < n
      · have hlt' : (k : Int) < (n : Int) := by omega
        obtain ⟨s, g1, g2⟩ := hc k hlt
        clear hc
        go_wp2
        · go_ret
          exact ⟨⟨_, rfl⟩, rfl⟩
        · go_round
          case rel => exact ⟨_, k + 1, rfl, by omega, by go_num⟩
          case measure => simp [intOf]; omega
      · clear hc
        go_wp2
        go_ret
        exact ⟨⟨_, rfl⟩, rfl⟩

/-- what 'reports' answers -/
def rep (p : Int) (n : Nat) : Bool := (p == 4) && decide (1 < n)

/-- a table: its policy and how many nodes it was told -/
def Mgr (w : World) (b : Nat) (p : Int) (n : Nat) : Prop :=
  ∃ f : Nat → Value, w.rowIs b 72 49 f ∧ f 2 = .int .u8 p ∧ (∃ a c, f 20 = .slice a n c) ∧ (∃ x, f 15 = .int .u64 x) ∧ (∃ x, f 17 = .int .u64 x)

theorem ret_bool {a b : Bool} (h : a = b) : Ending.returned (.bool a) = .returned (.bool b) := by rw [h]

set_option maxHeartbeats 1000000 in
theorem reports_any (b n : Nat) (p : Int) (w : World) (h : Mgr w b p n) (hn : n ≤ 9223372036854775807) :
    Calls Tryd.prog 8 #[.pointer (some ⟨b, 0, none⟩)] w fun e w' => e = .returned (.bool (rep p n)) ∧ w' = w := by
  obtain ⟨f, hr, h2, ⟨a, c, h20⟩, _, _⟩ := h
  have c2 := hr.cell (i := 2) (by omega)
  have c20 := hr.cell (i := 20) (by omega)
  rw [h2] at c2
  rw [h20] at c20
  clear hr h2 h20
  by_cases hp : (p == 4) = true
  · by_cases h1 : 1 < n
    · have h1' : (1 : Int) < (n : Int) := by omega
      have H : Hid (rep p n = true) := hide (by simp [rep, h1]; simpa using hp)
      go_enter Tryd.func8, Tryd.ntmps8
      go_wp2
      go_ret
      exact ⟨ret_bool (by rw [unhide H]), rfl⟩
    · have h1' : ¬ (1 : Int) < (n : Int) := by omega
      have H : Hid (rep p n = false) := hide (by simp [rep, h1])
      go_enter Tryd.func8, Tryd.ntmps8
      go_wp2
      go_ret
      exact ⟨ret_bool (by rw [unhide H]), rfl⟩
  · have hp' : (p == 4) = false := by simpa using hp
    have H : Hid (rep p n = false) := hide (by simp [rep, hp'])
    clear hp
    go_enter Tryd.func8, Tryd.ntmps8
    go_wp2
    go_ret
    exact ⟨ret_bool (by rw [unhide H]), rfl⟩
/-! ### zzBytes -/
/-- the call has answered a bool -/
def IsBool (e : Ending) : Prop := ∃ r, e = .returned (.bool r)

set_option maxHeartbeats 2000000 in
theorem zzb5_00 (w : World) (p q c : Int) (ba oa na ca : Nat) (ha : na ≤ 9223372036854775807) (hca : ∀ j, j < na → ∃ s : ByteArray, w.cell? ⟨ba, oa + j, none⟩ = some (.string s) ∧ s.size ≤ 9223372036854775807) (bb ob nb cb : Nat) (hb : nb ≤ 9223372036854775807) (hcb : ∀ j, j < nb → ∃ s : ByteArray, w.cell? ⟨bb, ob + j, none⟩ = some (.string s) ∧ s.size ≤ 9223372036854775807) :
    Calls Tryd.prog 5 #[.int .u8 p, .int .u8 q, .int .u8 c, (.slice (some ⟨ba, oa, none⟩) na ca), (.slice (some ⟨bb, ob, none⟩) nb cb)] w fun e w' => IsBool e ∧ w' = w := by
  by_cases ta : (1048576 : Int) < (na : Int)
  · go_enter Tryd.func5, Tryd.ntmps5
    go_wp2_with fail
    go_ret
    exact ⟨⟨_, rfl⟩, rfl⟩
  go_enter Tryd.func5, Tryd.ntmps5
  go_wp2_with fail
  go_loop [11, 12] (fun t i => ∃ (z : Int) (k : Nat), t = .int .i64 z ∧ k ≤ na ∧ i = .int .i64 k) (fun _ i => na - (intOf i).toNat)
  case atStart => exact ⟨_, 0, rfl, Nat.zero_le _, rfl⟩
  case round =>
    obtain ⟨z, k, rfl, hk, rfl⟩ := hrel
    by_cases hlt : k < na
    · have hlt' : (k : Int) < (na : Int) := by omega
      obtain ⟨s, g1, g2⟩ := hca k hlt
      go_wp2
      all_goals first
        | (go_ret; exact ⟨⟨_, rfl⟩, rfl⟩)
        | (go_round; (case rel => exact ⟨_, k + 1, rfl, by omega, by go_num⟩); (case measure => simp [intOf]; omega))
    · clear hca
      by_cases tb : (1048576 : Int) < (nb : Int)
      · go_wp2_with fail
        all_goals (go_ret; exact ⟨⟨_, rfl⟩, rfl⟩)
      go_wp2_with fail
      all_goals first | (go_ret; exact ⟨⟨_, rfl⟩, rfl⟩) | skip
      go_loop [11, 13] (fun t i => ∃ (z : Int) (k : Nat), t = .int .i64 z ∧ k ≤ nb ∧ i = .int .i64 k) (fun _ i => nb - (intOf i).toNat)
      case atStart => exact ⟨_, 0, rfl, Nat.zero_le _, rfl⟩
      case round =>
        obtain ⟨z, k, rfl, hk, rfl⟩ := hrel
        by_cases hlt : k < nb
        · have hlt' : (k : Int) < (nb : Int) := by omega
          obtain ⟨s, g1, g2⟩ := hcb k hlt
          go_wp2
          all_goals first
            | (go_ret; exact ⟨⟨_, rfl⟩, rfl⟩)
            | (go_round; (case rel => exact ⟨_, k + 1, rfl, by omega, by go_num⟩); (case measure => simp [intOf]; omega))
        · clear hcb
          go_wp2
          go_ret
          exact ⟨⟨_, rfl⟩, rfl⟩

set_option maxHeartbeats 2000000 in
theorem zzb5_01 (w : World) (p q c : Int) (ba oa na ca : Nat) (ha : na ≤ 9223372036854775807) (hca : ∀ j, j < na → ∃ s : ByteArray, w.cell? ⟨ba, oa + j, none⟩ = some (.string s) ∧ s.size ≤ 9223372036854775807) (xb : Option Addr) (cb : Nat) :
    Calls Tryd.prog 5 #[.int .u8 p, .int .u8 q, .int .u8 c, (.slice (some ⟨ba, oa, none⟩) na ca), (.slice xb 0 cb)] w fun e w' => IsBool e ∧ w' = w := by
  by_cases ta : (1048576 : Int) < (na : Int)
  · go_enter Tryd.func5, Tryd.ntmps5
    go_wp2_with fail
    go_ret
    exact ⟨⟨_, rfl⟩, rfl⟩
  go_enter Tryd.func5, Tryd.ntmps5
  go_wp2_with fail
  go_loop [11, 12] (fun t i => ∃ (z : Int) (k : Nat), t = .int .i64 z ∧ k ≤ na ∧ i = .int .i64 k) (fun _ i => na - (intOf i).toNat)
  case atStart => exact ⟨_, 0, rfl, Nat.zero_le _, rfl⟩
  case round =>
    obtain ⟨z, k, rfl, hk, rfl⟩ := hrel
    by_cases hlt : k < na
    · have hlt' : (k : Int) < (na : Int) := by omega
      obtain ⟨s, g1, g2⟩ := hca k hlt
      go_wp2
      all_goals first
        | (go_ret; exact ⟨⟨_, rfl⟩, rfl⟩)
        | (go_round; (case rel => exact ⟨_, k + 1, rfl, by omega, by go_num⟩); (case measure => simp [intOf]; omega))
    · clear hca
      go_wp2_with fail
      all_goals first | (go_ret; exact ⟨⟨_, rfl⟩, rfl⟩) | skip
      go_loop [11, 13] (fun t i => (∃ z, t = .int .i64 z) ∧ i = .int .i64 0) (fun _ _ => 0)
      case atStart => exact ⟨⟨_, rfl⟩, rfl⟩
      case round =>
        obtain ⟨⟨z, rfl⟩, rfl⟩ := hrel
        go_wp2
        go_ret
        exact ⟨⟨_, rfl⟩, rfl⟩

set_option maxHeartbeats 2000000 in
theorem zzb5_10 (w : World) (p q c : Int) (xa : Option Addr) (ca : Nat) (bb ob nb cb : Nat) (hb : nb ≤ 9223372036854775807) (hcb : ∀ j, j < nb → ∃ s : ByteArray, w.cell? ⟨bb, ob + j, none⟩ = some (.string s) ∧ s.size ≤ 9223372036854775807) :
    Calls Tryd.prog 5 #[.int .u8 p, .int .u8 q, .int .u8 c, (.slice xa 0 ca), (.slice (some ⟨bb, ob, none⟩) nb cb)] w fun e w' => IsBool e ∧ w' = w := by
  go_enter Tryd.func5, Tryd.ntmps5
  go_wp2_with fail
  go_loop [11, 12] (fun t i => (∃ z, t = .int .i64 z) ∧ i = .int .i64 0) (fun _ _ => 0)
  case atStart => exact ⟨⟨_, rfl⟩, rfl⟩
  case round =>
    obtain ⟨⟨z, rfl⟩, rfl⟩ := hrel
    by_cases tb : (1048576 : Int) < (nb : Int)
    · go_wp2_with fail
      all_goals (go_ret; exact ⟨⟨_, rfl⟩, rfl⟩)
    go_wp2_with fail
    all_goals first | (go_ret; exact ⟨⟨_, rfl⟩, rfl⟩) | skip
    go_loop [11, 13] (fun t i => ∃ (z : Int) (k : Nat), t = .int .i64 z ∧ k ≤ nb ∧ i = .int .i64 k) (fun _ i => nb - (intOf i).toNat)
    case atStart => exact ⟨_, 0, rfl, Nat.zero_le _, rfl⟩
    case round =>
      obtain ⟨z, k, rfl, hk, rfl⟩ := hrel
      by_cases hlt : k < nb
      · have hlt' : (k : Int) < (nb : Int) := by omega
        obtain ⟨s, g1, g2⟩ := hcb k hlt
        go_wp2
        all_goals first
          | (go_ret; exact ⟨⟨_, rfl⟩, rfl⟩)
          | (go_round; (case rel => exact ⟨_, k + 1, rfl, by omega, by go_num⟩); (case measure => simp [intOf]; omega))
      · clear hcb
        go_wp2
        go_ret
        exact ⟨⟨_, rfl⟩, rfl⟩

set_option maxHeartbeats 2000000 in
theorem zzb5_11 (w : World) (p q c : Int) (xa : Option Addr) (ca : Nat) (xb : Option Addr) (cb : Nat) :
    Calls Tryd.prog 5 #[.int .u8 p, .int .u8 q, .int .u8 c, (.slice xa 0 ca), (.slice xb 0 cb)] w fun e w' => IsBool e ∧ w' = w := by
  go_enter Tryd.func5, Tryd.ntmps5
  go_wp2_with fail
  go_loop [11, 12] (fun t i => (∃ z, t = .int .i64 z) ∧ i = .int .i64 0) (fun _ _ => 0)
  case atStart => exact ⟨⟨_, rfl⟩, rfl⟩
  case round =>
    obtain ⟨⟨z, rfl⟩, rfl⟩ := hrel
    go_wp2_with fail
    all_goals first | (go_ret; exact ⟨⟨_, rfl⟩, rfl⟩) | skip
    go_loop [11, 13] (fun t i => (∃ z, t = .int .i64 z) ∧ i = .int .i64 0) (fun _ _ => 0)
    case atStart => exact ⟨⟨_, rfl⟩, rfl⟩
    case round =>
      obtain ⟨⟨z, rfl⟩, rfl⟩ := hrel
      go_wp2
      go_ret
      exact ⟨⟨_, rfl⟩, rfl⟩

theorem zzb5 (N na nb : Nat) (va vb : Value) (w : World) (p q c : Int) (ha : Sl N w va na) (hb : Sl N w vb nb) :
    Calls Tryd.prog 5 #[.int .u8 p, .int .u8 q, .int .u8 c, va, vb] w fun e w' => IsBool e ∧ w' = w := by
  rcases ha with ⟨xa, ca, rfl, rfl⟩ | ⟨ba, oa, ca, rfl, _, ha, hca⟩ <;> rcases hb with ⟨xb, cb, rfl, rfl⟩ | ⟨bb, ob, cb, rfl, _, hb, hcb⟩
  · exact zzb5_11 w p q c xa ca xb cb
  · exact zzb5_10 w p q c xa ca bb ob nb cb hb hcb
  · exact zzb5_01 w p q c ba oa na ca ha hca xb cb
  · exact zzb5_00 w p q c ba oa na ca ha hca bb ob nb cb hb hcb

end Go.Proofs.Qxb6614342aDoor.Leaves
