/-
  The callees of the two GB18030 laws of seat b6614265a, each by a contract: gb18030Quad, zzI1QuadValid, zzI1QuadNumber, zzI1QuadNext, zzI1BytesEqual, zzI1Compare.
-/
import Derived.Test.Qxb6614265aRows
import Derived.WalkKit
import Derived.ProofKit
import Derived.WalkSpells
import Derived.Outline
import Derived.RegionTactic
import Derived.ChangeAlike
import Derived.Deep.QuietTactic
import Derived.BigQuiet
namespace Go.Proofs.Qxb6614265a.Quads
open Go.RowKit
set_option linter.unusedVariables false

theorem hide {p : Prop} (h : p) : Hid p := h
theorem unhide {p : Prop} (h : Hid p) : p := h.out
theorem ret_int {k : IntKind} {a b : Int} (h : a = b) : Ending.returned (.int k a) = .returned (.int k b) := by rw [h]

set_option maxHeartbeats 400000 in
theorem quad_any (n : Int) (w : World) (h0 : 0 ≤ n) (h1 : n ≤ 1587599) :
    Calls Try.prog 13 #[.int .i64 n] w fun e w' => e = .returned (.slice (some ⟨w.heap.size, 0, none⟩) 4 4) ∧
      w' = w.alloc (.cells #[.int .u8 (129 + n / 12600), .int .u8 (48 + n / 1260 % 10), .int .u8 (129 + n / 10 % 126), .int .u8 (48 + n % 10)] 5) := by
  go_enter Try.func13, Try.ntmps13
  go_wp2
  go_ret
  exact ⟨rfl, rfl⟩

set_option maxHeartbeats 400000 in
theorem zzquad_any (n : Int) (w : World) (h0 : 0 ≤ n) (h1 : n ≤ 1587599) :
    Calls Try.prog 6 #[.int .i64 n] w fun e w' => e = .returned (.slice (some ⟨w.heap.size, 0, none⟩) 4 4) ∧
      w' = w.alloc (.cells #[.int .u8 (129 + n / 12600), .int .u8 (48 + n / 1260 % 10), .int .u8 (129 + n / 10 % 126), .int .u8 (48 + n % 10)] 5) := by
  go_enter Try.func6, Try.ntmps6
  go_wp2_with (go_at_call 13; refine (quad_any n _ h0 h1).mono ?_; rintro e w' ⟨rfl, rfl⟩)
  go_ret
  exact ⟨rfl, rfl⟩

set_option maxHeartbeats 1000000 in
theorem valid_any (b : Nat) (x0 x1 x2 x3 : Int) (w : World)
    (c0 : w.cell? ⟨b, 0, none⟩ = some (.int .u8 x0)) (c1 : w.cell? ⟨b, 1, none⟩ = some (.int .u8 x1)) (c2 : w.cell? ⟨b, 2, none⟩ = some (.int .u8 x2)) (c3 : w.cell? ⟨b, 3, none⟩ = some (.int .u8 x3))
    (a0 : 129 ≤ x0) (b0 : x0 ≤ 254) (a1 : 48 ≤ x1) (b1 : x1 ≤ 57) (a2 : 129 ≤ x2) (b2 : x2 ≤ 254) (a3 : 48 ≤ x3) (b3 : x3 ≤ 57) :
    Calls Try.prog 7 #[.slice (some ⟨b, 0, none⟩) 4 4] w fun e w' => e = .returned (.bool true) ∧ w' = w := by
  go_enter Try.func7, Try.ntmps7
  go_wp2
  go_ret
  exact ⟨rfl, rfl⟩

set_option maxHeartbeats 1000000 in
theorem number_any (b : Nat) (x0 x1 x2 x3 : Int) (w : World)
    (c0 : w.cell? ⟨b, 0, none⟩ = some (.int .u8 x0)) (c1 : w.cell? ⟨b, 1, none⟩ = some (.int .u8 x1)) (c2 : w.cell? ⟨b, 2, none⟩ = some (.int .u8 x2)) (c3 : w.cell? ⟨b, 3, none⟩ = some (.int .u8 x3))
    (a0 : 129 ≤ x0) (b0 : x0 ≤ 254) (a1 : 48 ≤ x1) (b1 : x1 ≤ 57) (a2 : 129 ≤ x2) (b2 : x2 ≤ 254) (a3 : 48 ≤ x3) (b3 : x3 ≤ 57) :
    Calls Try.prog 8 #[.slice (some ⟨b, 0, none⟩) 4 4] w fun e w' => e = .returned (.int .i64 ((x0 - 129) * 12600 + (x1 - 48) * 1260 + (x2 - 129) * 10 + (x3 - 48))) ∧ ∃ nq, w' = w.drewN nq := by
  go_enter Try.func8, Try.ntmps8
  go_wp2
  go_quiet (fail)
  go_wp2
  go_ret
  exact ⟨rfl, _, rfl⟩

/-- what zzI1QuadNext lays: the odometer's four wheels -/
def nxt (x0 x1 x2 x3 : Int) : Int × Int × Int × Int :=
  if x3 + 1 ≤ 57 then (x0, x1, x2, x3 + 1)
  else if x2 + 1 ≤ 254 then (x0, x1, x2 + 1, 48)
  else if x1 + 1 ≤ 57 then (x0, x1 + 1, 129, 48)
  else (x0 + 1, 48, 129, 48)

set_option maxHeartbeats 1000000 in
theorem next_any (b : Nat) (x0 x1 x2 x3 : Int) (w : World)
    (c0 : w.cell? ⟨b, 0, none⟩ = some (.int .u8 x0)) (c1 : w.cell? ⟨b, 1, none⟩ = some (.int .u8 x1)) (c2 : w.cell? ⟨b, 2, none⟩ = some (.int .u8 x2)) (c3 : w.cell? ⟨b, 3, none⟩ = some (.int .u8 x3))
    (a0 : 129 ≤ x0) (b0 : x0 ≤ 254) (a1 : 48 ≤ x1) (b1 : x1 ≤ 57) (a2 : 129 ≤ x2) (b2 : x2 ≤ 254) (a3 : 48 ≤ x3) (b3 : x3 ≤ 57) :
    Calls Try.prog 10 #[.slice (some ⟨b, 0, none⟩) 4 4] w fun e w' => e = .returned (.slice (some ⟨w.heap.size, 0, none⟩) 4 4) ∧
      w' = w.alloc (.cells #[.int .u8 (nxt x0 x1 x2 x3).1, .int .u8 (nxt x0 x1 x2 x3).2.1, .int .u8 (nxt x0 x1 x2 x3).2.2.1, .int .u8 (nxt x0 x1 x2 x3).2.2.2] 5) := by
  by_cases t3 : x3 + 1 ≤ 57
  · have e : nxt x0 x1 x2 x3 = (x0, x1, x2, x3 + 1) := by unfold nxt; rw [if_pos t3]
    rw [e]
    clear e
    go_enter Try.func10, Try.ntmps10
    go_wp2
    go_ret
    exact ⟨rfl, rfl⟩
  by_cases t2 : x2 + 1 ≤ 254
  · have e : nxt x0 x1 x2 x3 = (x0, x1, x2 + 1, 48) := by unfold nxt; rw [if_neg t3, if_pos t2]
    rw [e]
    clear e
    go_enter Try.func10, Try.ntmps10
    go_wp2
    go_ret
    exact ⟨rfl, rfl⟩
  by_cases t1 : x1 + 1 ≤ 57
  · have e : nxt x0 x1 x2 x3 = (x0, x1 + 1, 129, 48) := by unfold nxt; rw [if_neg t3, if_neg t2, if_pos t1]
    rw [e]
    clear e
    go_enter Try.func10, Try.ntmps10
    go_wp2
    go_ret
    exact ⟨rfl, rfl⟩
  · have e : nxt x0 x1 x2 x3 = (x0 + 1, 48, 129, 48) := by unfold nxt; rw [if_neg t3, if_neg t2, if_neg t1]
    rw [e]
    clear e
    go_enter Try.func10, Try.ntmps10
    go_wp2
    go_ret
    exact ⟨rfl, rfl⟩

set_option maxHeartbeats 1000000 in
theorem equal_any (b c : Nat) (x : Nat → Int) (w : World)
    (hb : ∀ j, j < 4 → w.cell? ⟨b, j, none⟩ = some (.int .u8 (x j))) (hc : ∀ j, j < 4 → w.cell? ⟨c, j, none⟩ = some (.int .u8 (x j))) :
    Calls Try.prog 9 #[.slice (some ⟨b, 0, none⟩) 4 4, .slice (some ⟨c, 0, none⟩) 4 4] w fun e w' => e = .returned (.bool true) ∧ ∃ nq, w' = w.drewN nq := by
  go_enter Try.func9, Try.ntmps9
  go_wp2
  go_loopw [5] (fun i w' => ∃ k : Nat, k ≤ 4 ∧ i = .int .i64 k ∧ ∃ nq, w' = w.drewN nq) (fun i _ => 4 - (intOf i).toNat)
  case atStart => exact ⟨0, by omega, rfl, 0, rfl⟩
  case round =>
    obtain ⟨k, hk, rfl, nq, rfl⟩ := hrel
    by_cases hlt : k < 4
    · have g1 := hb k hlt
      have g2 := hc k hlt
      clear hb hc
      have hlt' : (k : Int) < 4 := by omega
      go_wp2
      go_quiet (fail)
      go_wp2
      go_roundw
      case rel => exact ⟨k + 1, by omega, by go_num, _, rfl⟩
      case measure => simp [intOf]; omega
    · go_wp2
      go_ret
      exact ⟨rfl, _, rfl⟩

/-- the row of a code's four bytes -/
def row (n : Int) : Nat → Int
  | 0 => 129 + n / 12600
  | 1 => 48 + n / 1260 % 10
  | 2 => 129 + n / 10 % 126
  | _ => 48 + n % 10

/-- what zzI1Compare answers of two rows of four: the first place where they part decides -/
def Cmp (x y : Nat → Int) (c : Int) : Prop :=
  (∃ k, k < 4 ∧ (∀ j, j < k → x j = y j) ∧ x k < y k ∧ c = -1) ∨ (∃ k, k < 4 ∧ (∀ j, j < k → x j = y j) ∧ y k < x k ∧ c = 1) ∨ ((∀ j, j < 4 → x j = y j) ∧ c = 0)

theorem snoc_eq {x y : Nat → Int} {k : Nat} (h : ∀ j, j < k → x j = y j) (e : x k = y k) : ∀ j, j < k + 1 → x j = y j := by
  intro j hj
  by_cases hk : j < k
  · exact h j hk
  · rw [show j = k by omega]; exact e

set_option maxHeartbeats 2000000 in
theorem compare_any (b c : Nat) (x y : Nat → Int) (w : World)
    (hb : ∀ j, j < 4 → w.cell? ⟨b, j, none⟩ = some (.int .u8 (x j))) (hc : ∀ j, j < 4 → w.cell? ⟨c, j, none⟩ = some (.int .u8 (y j))) :
    Calls Try.prog 11 #[.slice (some ⟨b, 0, none⟩) 4 4, .slice (some ⟨c, 0, none⟩) 4 4] w fun e w' => (∃ r, e = .returned (.int .i64 r) ∧ Cmp x y r) ∧ ∃ nq, w' = w.drewN nq := by
  go_enter Try.func11, Try.ntmps11
  go_wp2
  go_loopw [5] (fun i w' => ∃ k : Nat, k ≤ 4 ∧ (∀ j, j < k → x j = y j) ∧ i = .int .i64 k ∧ ∃ nq, w' = w.drewN nq) (fun i _ => 4 - (intOf i).toNat)
  case atStart => exact ⟨0, by omega, fun j hj => absurd hj (by omega), rfl, 0, rfl⟩
  case round =>
    obtain ⟨k, hk, heq, rfl, nq, rfl⟩ := hrel
    have HE := hide heq
    clear heq
    by_cases hlt : k < 4
    · have g1 := hb k hlt
      have g2 := hc k hlt
      clear hb hc
      have hlt' : (k : Int) < 4 := by omega
      generalize hX : x k = X at *
      generalize hY : y k = Y at *
      have HX := hide hX
      have HY := hide hY
      clear hX hY
      by_cases t1 : X < Y
      · go_wp2
        go_quiet (fail)
        go_wp2
        go_ret
        exact ⟨⟨-1, rfl, .inl ⟨k, hlt, unhide HE, by rw [unhide HX, unhide HY]; exact t1, rfl⟩⟩, by simp only [World.drewN_drewN]; exact ⟨_, rfl⟩⟩
      by_cases t2 : Y < X
      · go_wp2
        go_quiet (fail)
        go_wp2
        go_quiet (fail)
        go_wp2
        go_ret
        exact ⟨⟨1, rfl, .inr (.inl ⟨k, hlt, unhide HE, by rw [unhide HX, unhide HY]; exact t2, rfl⟩)⟩, by simp only [World.drewN_drewN]; exact ⟨_, rfl⟩⟩
      · go_wp2
        go_quiet (fail)
        go_wp2
        go_quiet (fail)
        go_wp2
        go_roundw
        case rel => exact ⟨k + 1, by omega, snoc_eq (unhide HE) (by rw [unhide HX, unhide HY]; omega), by go_num, _, rfl⟩
        case measure => simp [intOf]; omega
    · have hk4 : k = 4 := by omega
      subst hk4
      clear hb hc
      go_wp2
      go_ret
      exact ⟨⟨0, rfl, .inr (.inr ⟨unhide HE, rfl⟩)⟩, _, rfl⟩

/-! ### The same contracts over abstract worlds: 'Has': a block holds a row of four bytes -/
def Has (w : World) (b : Nat) (x : Nat → Int) : Prop := b < w.heap.size ∧ ∀ j, j < 4 → w.cell? ⟨b, j, none⟩ = some (.int .u8 (x j))
def Kept (w w' : World) : Prop := Grown w w' ∧ ∀ b x, Has w b x → Has w' b x
theorem Kept.refl (w : World) : Kept w w := ⟨Grown.refl _, fun _ _ h => h⟩
theorem Grown.trans' {a b c : World} (h : Grown a b) (g : Grown b c) : Grown a c := by
  obtain ⟨h1, h2, h3⟩ := h
  obtain ⟨g1, g2, g3⟩ := g
  exact ⟨World.keptBut_trans h1 g1, fun x => (g2 x).trans (h2 x), Nat.le_trans h3 g3⟩
theorem Kept.trans {a b c : World} (h : Kept a b) (g : Kept b c) : Kept a c := ⟨Grown.trans' h.1 g.1, fun _ _ k => g.2 _ _ (h.2 _ _ k)⟩
theorem Kept.drewN (w : World) (n : Nat) : Kept w (w.drewN n) := ⟨Grown.refl w, fun _ _ h => h⟩
theorem Kept.alloc (w : World) (c : Array Value) (t : TypeId) : Kept w (w.alloc (.cells c t)) := by
  refine ⟨(Grown.refl w).alloc c t, fun b x h => ⟨?_, fun j hj => ?_⟩⟩
  · have := h.1; show b < (w.heap.push _).size; rw [Array.size_push]; omega
  · rw [World.cell?_alloc_lt _ _ _ h.1]; exact h.2 j hj

theorem has_new (w : World) (x : Nat → Int) (a b c d : Int) (ha : a = x 0) (hb : b = x 1) (hc : c = x 2) (hd : d = x 3) :
    Has (w.alloc (.cells #[.int .u8 a, .int .u8 b, .int .u8 c, .int .u8 d] 5)) w.heap.size x := by
  subst ha hb hc hd
  refine ⟨by show w.heap.size < (w.heap.push _).size; rw [Array.size_push]; omega, fun j hj => ?_⟩
  rw [World.cell?_alloc_new]
  rcases j with _ | _ | _ | _ | j
  · rfl
  · rfl
  · rfl
  · rfl
  · omega

theorem quad_has (n : Int) (w : World) (h0 : 0 ≤ n) (h1 : n ≤ 1587599) :
    Calls Try.prog 6 #[.int .i64 n] w fun e w' => ∃ b, e = .returned (.slice (some ⟨b, 0, none⟩) 4 4) ∧ Has w' b (row n) ∧ Kept w w' := by
  refine (zzquad_any n w h0 h1).mono ?_
  rintro e w' ⟨rfl, rfl⟩
  exact ⟨_, rfl, has_new w (row n) _ _ _ _ rfl rfl rfl rfl, Kept.alloc _ _ _⟩

theorem row_bounds (n : Int) (h0 : 0 ≤ n) (h1 : n ≤ 1587599) :
    (129 ≤ row n 0 ∧ row n 0 ≤ 254) ∧ (48 ≤ row n 1 ∧ row n 1 ≤ 57) ∧ (129 ≤ row n 2 ∧ row n 2 ≤ 254) ∧ (48 ≤ row n 3 ∧ row n 3 ≤ 57) := by
  simp only [row]; omega

theorem valid_has (n : Int) (b : Nat) (w : World) (h0 : 0 ≤ n) (h1 : n ≤ 1587599) (h : Has w b (row n)) :
    Calls Try.prog 7 #[.slice (some ⟨b, 0, none⟩) 4 4] w fun e w' => e = .returned (.bool true) ∧ w' = w := by
  obtain ⟨⟨p1, p2⟩, ⟨p3, p4⟩, ⟨p5, p6⟩, ⟨p7, p8⟩⟩ := row_bounds n h0 h1
  exact valid_any b _ _ _ _ w (h.2 0 (by omega)) (h.2 1 (by omega)) (h.2 2 (by omega)) (h.2 3 (by omega)) p1 p2 p3 p4 p5 p6 p7 p8

theorem number_has (n : Int) (b : Nat) (w : World) (h0 : 0 ≤ n) (h1 : n ≤ 1587599) (h : Has w b (row n)) :
    Calls Try.prog 8 #[.slice (some ⟨b, 0, none⟩) 4 4] w fun e w' => e = .returned (.int .i64 n) ∧ Kept w w' := by
  obtain ⟨⟨p1, p2⟩, ⟨p3, p4⟩, ⟨p5, p6⟩, ⟨p7, p8⟩⟩ := row_bounds n h0 h1
  refine (number_any b _ _ _ _ w (h.2 0 (by omega)) (h.2 1 (by omega)) (h.2 2 (by omega)) (h.2 3 (by omega)) p1 p2 p3 p4 p5 p6 p7 p8).mono ?_
  rintro e w' ⟨rfl, nq, rfl⟩
  exact ⟨ret_int (by simp only [row]; omega), Kept.drewN _ _⟩

theorem nxt_row (n : Int) (h0 : 0 ≤ n) (h1 : n < 1587599) : nxt (row n 0) (row n 1) (row n 2) (row n 3) = (row (n + 1) 0, row (n + 1) 1, row (n + 1) 2, row (n + 1) 3) := by
  unfold nxt
  simp only [row]
  split
  · simp only [Prod.mk.injEq]; omega
  split
  · simp only [Prod.mk.injEq]; omega
  split
  · simp only [Prod.mk.injEq]; omega
  · simp only [Prod.mk.injEq]; omega

theorem next_has (n : Int) (b : Nat) (w : World) (h0 : 0 ≤ n) (h1 : n < 1587599) (h : Has w b (row n)) :
    Calls Try.prog 10 #[.slice (some ⟨b, 0, none⟩) 4 4] w fun e w' => ∃ c, e = .returned (.slice (some ⟨c, 0, none⟩) 4 4) ∧ Has w' c (row (n + 1)) ∧ Kept w w' := by
  obtain ⟨⟨p1, p2⟩, ⟨p3, p4⟩, ⟨p5, p6⟩, ⟨p7, p8⟩⟩ := row_bounds n h0 (by omega)
  refine (next_any b _ _ _ _ w (h.2 0 (by omega)) (h.2 1 (by omega)) (h.2 2 (by omega)) (h.2 3 (by omega)) p1 p2 p3 p4 p5 p6 p7 p8).mono ?_
  rintro e w' ⟨rfl, rfl⟩
  rw [nxt_row n h0 h1]
  exact ⟨_, rfl, has_new w (row (n + 1)) _ _ _ _ rfl rfl rfl rfl, Kept.alloc _ _ _⟩

theorem equal_has (x : Nat → Int) (b c : Nat) (w : World) (hb : Has w b x) (hc : Has w c x) :
    Calls Try.prog 9 #[.slice (some ⟨b, 0, none⟩) 4 4, .slice (some ⟨c, 0, none⟩) 4 4] w fun e w' => e = .returned (.bool true) ∧ Kept w w' := by
  refine (equal_any b c x w hb.2 hc.2).mono ?_
  rintro e w' ⟨rfl, nq, rfl⟩
  exact ⟨rfl, Kept.drewN _ _⟩

/-- the first place where two codes part decides as their numbers do -/
theorem cmp_law (m n c : Int) (h0 : 0 ≤ m) (h1 : m ≤ 1587599) (h2 : 0 ≤ n) (h3 : n ≤ 1587599) (h : Cmp (row m) (row n) c) :
    (m < n → c = -1) ∧ (n < m → c = 1) ∧ (m = n → c = 0) := by
  rcases h with ⟨k, hk, he, hl, rfl⟩ | ⟨k, hk, he, hl, rfl⟩ | ⟨he, rfl⟩
  · rcases k with _ | _ | _ | _ | k
    · simp only [row] at hl; omega
    · have e0 := he 0 (by omega); simp only [row] at hl e0; omega
    · have e0 := he 0 (by omega); have e1 := he 1 (by omega); simp only [row] at hl e0 e1; omega
    · have e0 := he 0 (by omega); have e1 := he 1 (by omega); have e2 := he 2 (by omega); simp only [row] at hl e0 e1 e2; omega
    · omega
  · rcases k with _ | _ | _ | _ | k
    · simp only [row] at hl; omega
    · have e0 := he 0 (by omega); simp only [row] at hl e0; omega
    · have e0 := he 0 (by omega); have e1 := he 1 (by omega); simp only [row] at hl e0 e1; omega
    · have e0 := he 0 (by omega); have e1 := he 1 (by omega); have e2 := he 2 (by omega); simp only [row] at hl e0 e1 e2; omega
    · omega
  · have e0 := he 0 (by omega); have e1 := he 1 (by omega); have e2 := he 2 (by omega); have e3 := he 3 (by omega); simp only [row] at e0 e1 e2 e3; omega

theorem compare_has (m n : Int) (b c : Nat) (w : World) (h0 : 0 ≤ m) (h1 : m ≤ 1587599) (h2 : 0 ≤ n) (h3 : n ≤ 1587599) (hb : Has w b (row m)) (hc : Has w c (row n)) :
    Calls Try.prog 11 #[.slice (some ⟨b, 0, none⟩) 4 4, .slice (some ⟨c, 0, none⟩) 4 4] w fun e w' => (∃ r, e = .returned (.int .i64 r) ∧ (m < n → r = -1) ∧ (n < m → r = 1) ∧ (m = n → r = 0)) ∧ Kept w w' := by
  refine (compare_any b c (row m) (row n) w hb.2 hc.2).mono ?_
  rintro e w' ⟨⟨r, rfl, hr⟩, nq, rfl⟩
  exact ⟨⟨r, rfl, cmp_law m n r h0 h1 h2 h3 hr⟩, Kept.drewN _ _⟩
end Go.Proofs.Qxb6614265a.Quads
