/-
  The callees of the two laws of seat b6605602a, each by a contract: zzBytes.., zzDurationsOf, nanoseconds, zzSplitFloat.
-/
import Derived.Test.Qxb6605602aRows
import Derived.Test.Qxb6605602aFloat
import Derived.WalkKit
import Derived.ProofKit
import Derived.WalkSpells
import Derived.WalkLawsBesides
import Derived.Outline
import Derived.Deep.QuietTactic
import Derived.BigQuiet
import Derived.Deep.OwnRows
namespace Go.Proofs.Qxb6605602a.Nanos
open Go.RowKit Go.Deep Go.Proofs.Qxb6605602a
set_option linter.unusedVariables false

theorem run_store_float {P : Program} {w : World} {a : Addr} {m : Mode} (k : FloatKind) (x : Nat) : (store a (.float k x) m).run P w = stored P w a (.float k x) m := run_store P w a _ m rfl
attribute [local go_sem] run_store_float

theorem i64_and26 (n : Int) : bits .and .i64 n 67108863 = n % 67108864 := by
  have h127 : (BitVec.ofInt 64 67108863).toNat = 2 ^ 26 - 1 := by decide
  have key : (BitVec.ofInt 64 n &&& BitVec.ofInt 64 67108863).toNat = (n % ((2 ^ 64 : Nat) : Int)).toNat % 2 ^ 26 := by
    rw [BitVec.toNat_and, BitVec.toNat_ofInt, h127, Nat.and_two_pow_sub_one_eq_mod]
  show IntKind.i64.wrap ((BitVec.ofInt 64 n &&& BitVec.ofInt 64 67108863).toNat : Nat) = n % 67108864
  rw [key, IntKind.wrap_i64]
  omega

theorem F26 : Flt.F 67108864 = 4724276009111650304 := by decide +kernel

/-- the product's law in the walk's words -/
theorem split_mul (d : Int) (h1 : -9223372036854775808 ≤ d) (h2 : d ≤ 9223372036854775807) :
    floatBits .mul .f64 (Flt.F (d / 67108864)) 4724276009111650304 = some (Flt.F (d / 67108864 * 67108864)) := by
  rw [← F26]
  exact Flt.mul_F (d / 67108864) (by omega) (by omega)
theorem split_add (d : Int) (h1 : -9223372036854775808 ≤ d) (h2 : d ≤ 9223372036854775807) :
    floatBits .add .f64 (Flt.F (d / 67108864 * 67108864)) (Flt.F (d % 67108864)) = some (Flt.F d) := by
  have e := Flt.split_F (d / 67108864) (d % 67108864) (by omega) (by omega) (by omega) (by omega)
  rw [show d / 67108864 * 67108864 + d % 67108864 = d by omega] at e
  exact e

set_option maxHeartbeats 400000 in
theorem split_any (d : Int) (w : World) (h1 : -9223372036854775808 ≤ d) (h2 : d ≤ 9223372036854775807) :
    Calls Try.prog 8 #[.int .i64 d] w fun e w' => e = .returned (.float .f64 (Flt.F d)) ∧ w' = w := by
  have q1 := fun wx => run_float_arith (P := Try.prog) wx .mul 28 .f64 _ _ _ (split_mul d h1 h2)
  have q2 := fun wx => run_float_arith (P := Try.prog) wx .add 28 .f64 _ _ _ (split_add d h1 h2)
  have q3 := i64_and26 d
  unfold Flt.F at *
  go_enter Try.func8, Try.ntmps8
  go_wp2
  go_ret
  exact ⟨rfl, rfl⟩

theorem info30 : (Try.prog.info? 30).map (fun i => (i.zero, i.size, i.bytes)) = some (some (.int .i64 0), 1, 8) := by kernel_rfl
theorem info28 : (Try.prog.info? 28).map (fun i => (i.zero, i.size, i.bytes)) = some (some (.float .f64 0), 1, 8) := by kernel_rfl

theorem bytes_any (a : Option Addr) (n c : Nat) (w : World) (hn : n ≤ 9223372036854775807) :
    Calls Try.prog 5 #[.slice a n c] w fun e w' => e = .returned (.bool (decide (n ≤ 1048576))) ∧ w' = w := by
  by_cases h : n ≤ 1048576
  · have h' : (n : Int) ≤ 1048576 := by omega
    rw [decide_eq_true h]
    go_enter Try.func5, Try.ntmps5
    go_wp2
    go_ret
    exact ⟨rfl, rfl⟩
  · have h' : (1048576 : Int) < (n : Int) := by omega
    rw [decide_eq_false h]
    go_enter Try.func5, Try.ntmps5
    go_wp2
    go_ret
    exact ⟨rfl, rfl⟩
theorem bytes2_any (a : Option Addr) (n c : Nat) (w : World) (hn : n ≤ 9223372036854775807) :
    Calls Try.prog 9 #[.slice a n c] w fun e w' => e = .returned (.bool (decide (n ≤ 1048576))) ∧ w' = w := by
  by_cases h : n ≤ 1048576
  · have h' : (n : Int) ≤ 1048576 := by omega
    rw [decide_eq_true h]
    go_enter Try.func9, Try.ntmps9
    go_wp2
    go_ret
    exact ⟨rfl, rfl⟩
  · have h' : (1048576 : Int) < (n : Int) := by omega
    rw [decide_eq_false h]
    go_enter Try.func9, Try.ntmps9
    go_wp2
    go_ret
    exact ⟨rfl, rfl⟩

/-- a nil slice of counts gives a nil slice of durations -/
theorem dur_nil (w : World) : Calls Try.prog 6 #[.slice none 0 0] w fun e w' => e = .returned (.slice none 0 0) ∧ w' = w := by
  have q := fun wx => Lib.run_eql_slice_nil (P := Try.prog) wx 22 2 none 0 0 0 0 Try.underlying22
  go_enter Try.func6, Try.ntmps6
  go_wp2
  go_ret
  exact ⟨rfl, rfl⟩

set_option maxHeartbeats 1000000 in
theorem dur_any (b off n c : Nat) (z : Nat → Int) (w : World) (hn : n ≤ 131072) (hb : b < w.heap.size)
    (hc : ∀ j, j < n → w.cell? ⟨b, off + j, none⟩ = some (.int .i64 (z j))) :
    Calls Try.prog 6 #[.slice (some ⟨b, off, none⟩) n c] w fun e w' => e = .returned (.slice (some ⟨w.heap.size, 0, none⟩) n n) ∧
      w'.rowIs w.heap.size 30 n (fun j => .int .i64 (z j)) ∧ Below w.heap.size w w' := by
  have hmk := fun wx => run_make_row' (P := Try.prog) 24 30 (.int .i64 0) 8 Try.underlying24 info30 rfl .i64 .i64 n (by omega) (by omega) wx
  have hn' : (n : Int) ≤ 131072 := by omega
  have q := fun wx => Lib.run_eql_slice_nil (P := Try.prog) wx 22 2 (some ⟨b, off, none⟩) n c 0 0 Try.underlying22
  go_enter Try.func6, Try.ntmps6
  go_wp2
  go_loopw [4] (fun i wr => ∃ k : Nat, k ≤ n ∧ i = .int .i64 k ∧ wr.rowIs w.heap.size 30 n (fun j => if j < k then .int .i64 (z j) else .int .i64 0) ∧ Below w.heap.size w wr) (fun i _ => n - (intOf i).toNat)
  case atStart => exact ⟨0, by omega, rfl, (World.rowIs_made w _ n 30).congr (fun j _ => by simp), (Below.refl _ _).alloc (Nat.le_refl _) _⟩
  case round =>
    obtain ⟨k, hk, rfl, hrow, hbel⟩ := hrel
    by_cases hlt : k < n
    · have hlt' : (k : Int) < (n : Int) := by omega
      have g1 : wr.cell? ⟨b, off + k, none⟩ = some (.int .i64 (z k)) := (hbel.cell (by exact hb)).trans (hc k hlt)
      have g2 := hrow.cell hlt
      have g3 := hrow.frozen k
      have R1 := (hrow.set k (.int .i64 (z k))).congr (g := fun j => if j < k + 1 then .int .i64 (z j) else .int .i64 0) (fun j _ => by
        by_cases e : j = k
        · subst e; simp
        · by_cases e2 : j < k
          · simp [e, e2, show j < k + 1 by omega]
          · simp [e, e2, show ¬ j < k + 1 by omega])
      have R2 := hbel.setCell (p := ⟨w.heap.size, k, none⟩) (Nat.le_refl _) (.int .i64 (z k))
      clear hrow hbel hc
      have HR1 : Hid _ := R1
      have HR2 : Hid _ := R2
      clear R1 R2
      go_wp2
      go_roundw
      case rel => exact ⟨k + 1, by omega, by go_num, HR1.out, HR2.out⟩
      case measure => simp [intOf]; omega
    · have hkn : k = n := by omega
      subst hkn
      have R1 := hrow.congr (g := fun j => .int .i64 (z j)) (fun j hj => by simp [hj])
      clear hrow hc
      go_wp2
      go_ret
      exact ⟨rfl, R1, hbel⟩

/-- no durations: an empty row -/
theorem nanos_nil (w : World) : Calls Try.prog 7 #[.slice none 0 0] w fun e w' => e = .returned (.slice (some ⟨w.heap.size, 0, none⟩) 0 0) ∧ Below w.heap.size w w' := by
  have hmk : ∀ wx : World, (Instr.makeSlice 26 (.int .i64 0) (.int .i64 0)).run Try.prog wx = .ok (.slice (some ⟨wx.heap.size, 0, none⟩) 0 0) (wx.alloc (.cells (madeCells #[.float .f64 0] 0) 28)) := fun wx => run_make_row' (P := Try.prog) 26 28 (.float .f64 0) 8 Try.underlying26 info28 rfl .i64 .i64 0 (by omega) (by omega) wx
  go_enter Try.func7, Try.ntmps7
  go_wp2
  go_loopw [11] (fun i wr => i = .int .i64 0 ∧ Below w.heap.size w wr) (fun _ _ => 0)
  case atStart => exact ⟨rfl, (Below.refl _ _).alloc (Nat.le_refl _) _⟩
  case round =>
    obtain ⟨rfl, hbel⟩ := hrel
    go_wp2
    go_ret
    exact ⟨rfl, hbel⟩

set_option maxHeartbeats 1000000 in
theorem nanos_any (b n : Nat) (z : Nat → Int) (w : World) (hn : n ≤ 131072) (hb : b < w.heap.size)
    (hc : ∀ j, j < n → w.cell? ⟨b, j, none⟩ = some (.int .i64 (z j))) :
    Calls Try.prog 10 #[.slice (some ⟨b, 0, none⟩) n n] w fun e w' => e = .returned (.slice (some ⟨w.heap.size, 0, none⟩) n n) ∧
      w'.rowIs w.heap.size 28 n (fun j => .float .f64 (floatOfInt .f64 (z j))) ∧ Below w.heap.size w w' := by
  have hmk := fun wx => run_make_row' (P := Try.prog) 26 28 (.float .f64 0) 8 Try.underlying26 info28 rfl .i64 .i64 n (by omega) (by omega) wx
  have hn' : (n : Int) ≤ 131072 := by omega
  go_enter Try.func10, Try.ntmps10
  go_wp2
  go_loopw [11] (fun i wr => ∃ k : Nat, k ≤ n ∧ i = .int .i64 k ∧ wr.rowIs w.heap.size 28 n (fun j => if j < k then .float .f64 (floatOfInt .f64 (z j)) else .float .f64 0) ∧ Below w.heap.size w wr) (fun i _ => n - (intOf i).toNat)
  case atStart => exact ⟨0, by omega, rfl, (World.rowIs_made w _ n 28).congr (fun j _ => by simp), (Below.refl _ _).alloc (Nat.le_refl _) _⟩
  case round =>
    obtain ⟨k, hk, rfl, hrow, hbel⟩ := hrel
    by_cases hlt : k < n
    · have hlt' : (k : Int) < (n : Int) := by omega
      have g1 : wr.cell? ⟨b, k, none⟩ = some (.int .i64 (z k)) := (hbel.cell (by exact hb)).trans (hc k hlt)
      have g2 := hrow.cell hlt
      have g3 := hrow.frozen k
      have R1 := (hrow.set k (.float .f64 (floatOfInt .f64 (z k)))).congr (g := fun j => if j < k + 1 then .float .f64 (floatOfInt .f64 (z j)) else .float .f64 0) (fun j _ => by
        by_cases e : j = k
        · subst e; simp
        · by_cases e2 : j < k
          · simp [e, e2, show j < k + 1 by omega]
          · simp [e, e2, show ¬ j < k + 1 by omega])
      have R2 := hbel.setCell (p := ⟨w.heap.size, k, none⟩) (Nat.le_refl _) (.float .f64 (floatOfInt .f64 (z k)))
      clear hrow hbel hc
      have HR1 : Hid _ := R1
      have HR2 : Hid _ := R2
      clear R1 R2
      go_wp2
      go_roundw
      case rel => exact ⟨k + 1, by omega, by go_num, HR1.out, HR2.out⟩
      case measure => simp [intOf]; omega
    · have hkn : k = n := by omega
      subst hkn
      have R1 := hrow.congr (g := fun j => .float .f64 (floatOfInt .f64 (z j))) (fun j hj => by simp [hj])
      clear hrow hc
      go_wp2
      go_ret
      exact ⟨rfl, R1, hbel⟩

theorem zznanos_any (b n : Nat) (z : Nat → Int) (w : World) (hn : n ≤ 131072) (hb : b < w.heap.size)
    (hc : ∀ j, j < n → w.cell? ⟨b, j, none⟩ = some (.int .i64 (z j))) :
    Calls Try.prog 7 #[.slice (some ⟨b, 0, none⟩) n n] w fun e w' => e = .returned (.slice (some ⟨w.heap.size, 0, none⟩) n n) ∧
      w'.rowIs w.heap.size 28 n (fun j => .float .f64 (floatOfInt .f64 (z j))) ∧ Below w.heap.size w w' := by
  go_enter Try.func7, Try.ntmps7
  go_wp2_with fail
  refine (nanos_any b n z _ hn hb hc).mono ?_
  rintro e w' ⟨rfl, h1, h2⟩
  clear hc
  go_wp2_with fail
  go_ret
  exact ⟨rfl, h1, h2⟩

theorem bytes_yes (a : Option Addr) (n c : Nat) (w : World) (h : n ≤ 1048576) : Calls Try.prog 5 #[.slice a n c] w fun e w' => e = .returned (.bool true) ∧ w' = w := by
  have := bytes_any a n c w (by omega)
  rw [decide_eq_true h] at this
  exact this
theorem bytes_no (a : Option Addr) (n c : Nat) (w : World) (hn : n ≤ 9223372036854775807) (h : 1048576 < n) : Calls Try.prog 5 #[.slice a n c] w fun e w' => e = .returned (.bool false) ∧ w' = w := by
  have := bytes_any a n c w hn
  rw [decide_eq_false (by omega)] at this
  exact this
theorem bytes2_yes (a : Option Addr) (n c : Nat) (w : World) (h : n ≤ 1048576) : Calls Try.prog 9 #[.slice a n c] w fun e w' => e = .returned (.bool true) ∧ w' = w := by
  have := bytes2_any a n c w (by omega)
  rw [decide_eq_true h] at this
  exact this
theorem bytes2_no (a : Option Addr) (n c : Nat) (w : World) (hn : n ≤ 9223372036854775807) (h : 1048576 < n) : Calls Try.prog 9 #[.slice a n c] w fun e w' => e = .returned (.bool false) ∧ w' = w := by
  have := bytes2_any a n c w hn
  rw [decide_eq_false (by omega)] at this
  exact this

/-- an empty slice that is not nil -/
theorem dur_empty (x : Addr) (c : Nat) (w : World) : Calls Try.prog 6 #[.slice (some x) 0 c] w fun e w' => e = .returned (.slice (some ⟨w.heap.size, 0, none⟩) 0 0) ∧ w.heap.size < w'.heap.size ∧ Below w.heap.size w w' := by
  have hmk : ∀ wx : World, (Instr.makeSlice 24 (.int .i64 0) (.int .i64 0)).run Try.prog wx = .ok (.slice (some ⟨wx.heap.size, 0, none⟩) 0 0) (wx.alloc (.cells (madeCells #[.int .i64 0] 0) 30)) := fun wx => run_make_row' (P := Try.prog) 24 30 (.int .i64 0) 8 Try.underlying24 info30 rfl .i64 .i64 0 (by omega) (by omega) wx
  have q := fun wx => Lib.run_eql_slice_nil (P := Try.prog) wx 22 2 (some x) 0 c 0 0 Try.underlying22
  go_enter Try.func6, Try.ntmps6
  go_wp2
  go_loopw [4] (fun i wr => i = .int .i64 0 ∧ w.heap.size < wr.heap.size ∧ Below w.heap.size w wr) (fun _ _ => 0)
  case atStart => exact ⟨rfl, by simp, (Below.refl _ _).alloc (Nat.le_refl _) _⟩
  case round =>
    obtain ⟨rfl, hsz, hbel⟩ := hrel
    go_wp2
    go_ret
    exact ⟨rfl, hsz, hbel⟩

/-- what both laws do at an empty slice: the durations, then the floats: two empty rows, or a nil one -/
theorem empty_two (a : Option Addr) (c : Nat) (hc : a = none → c = 0) (w : World) : Calls Try.prog 6 #[.slice a 0 c] w fun e w' => (∃ b, e = .returned (.slice b 0 0) ∧ (b = none ∨ ∃ B, b = some ⟨B, 0, none⟩ ∧ B < w'.heap.size)) ∧ Below w.heap.size w w' := by
  cases a with
  | none =>
    rw [hc rfl]
    refine (dur_nil w).mono ?_
    rintro e w' ⟨rfl, rfl⟩
    exact ⟨⟨none, rfl, .inl rfl⟩, Below.refl _ _⟩
  | some x =>
    refine (dur_empty x c w).mono ?_
    rintro e w' ⟨rfl, h1, h2⟩
    exact ⟨⟨_, rfl, .inr ⟨_, rfl, h1⟩⟩, h2⟩
theorem empty_nanos (b : Option Addr) (w : World) (hb : b = none ∨ ∃ B, b = some ⟨B, 0, none⟩ ∧ B < w.heap.size) : Calls Try.prog 7 #[.slice b 0 0] w fun e w' => e = .returned (.slice (some ⟨w.heap.size, 0, none⟩) 0 0) ∧ Below w.heap.size w w' := by
  rcases hb with rfl | ⟨B, rfl, hB⟩
  · exact nanos_nil w
  · refine (zznanos_any B 0 (fun _ => 0) w (by omega) hB (fun j hj => absurd hj (by omega))).mono ?_
    rintro e w' ⟨rfl, _, h2⟩
    exact ⟨rfl, h2⟩

/-- THE COUNTS' ROW AND THE FLOATS' ROW, over an abstract world: what both laws read in their loops -/
structure Both (w w' : World) (b off n B : Nat) (z : Nat → Int) : Prop where
  ints : ∀ j, j < n → w'.cell? ⟨b, off + j, none⟩ = some (.int .i64 (z j))
  floats : ∀ j, j < n → w'.cell? ⟨B, j, none⟩ = some (.float .f64 (floatOfInt .f64 (z j)))
  below : Below w.heap.size w w'
theorem Both.drewN {w w' : World} {b off n B : Nat} {z : Nat → Int} (h : Both w w' b off n B z) (q : Nat) : Both w (w'.drewN q) b off n B z :=
  ⟨fun j hj => h.ints j hj, fun j hj => h.floats j hj, below_drewN h.below q⟩
end Go.Proofs.Qxb6605602a.Nanos
