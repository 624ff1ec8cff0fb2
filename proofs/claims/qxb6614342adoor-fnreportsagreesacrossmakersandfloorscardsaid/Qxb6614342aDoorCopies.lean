/-
  (QuorumRule).Copies at one node, by a contract. (Seat b6614342aD.)
-/
import Derived.Test.Qxb6614342aDoorClone
namespace Go.Proofs.Qxb6614342aDoor.Leaves
open Go.RowKit Go.Deep Go.Proofs.Qxb6614342aDoor
set_option linter.unusedVariables false

theorem info3 : (Tryd.prog.info? 3).map (fun i => (i.zero, i.size, i.bytes)) = some (some (.int .i64 0), 1, 8) := by kernel_rfl

set_option maxHeartbeats 1000000 in
theorem total_any (g h : Nat) (x y z : Int) (w : World) (hh : h < w.heap.size) (hc : w.cell? ⟨h, 0, none⟩ = some (.int .i64 z)) :
    Calls Tryd.prog 19 #[.agg #[.slice (some ⟨g, 0, none⟩) 1 1, .slice (some ⟨h, 0, none⟩) 1 1, .int .i64 x, .int .i64 y]] w fun e w' => (∃ r, e = .returned (.int .i64 r)) ∧ w.grownBy w' none := by
  have hc' : ∀ o : Obj, (w.alloc o).cell? ⟨h, 0, none⟩ = some (.int .i64 z) := fun o => by rw [World.cell?_alloc_lt _ _ _ hh]; exact hc
  go_enter Tryd.func19, Tryd.ntmps19
  go_wp2
  go_loop [3, 9] (fun t i => ∃ (q : Int) (k : Nat), t = .int .i64 q ∧ i = .int .i64 k ∧ k ≤ 1) (fun _ i => 1 - (intOf i).toNat)
  case atStart => exact ⟨0, 0, rfl, rfl, by omega⟩
  case round =>
    obtain ⟨q, k, rfl, rfl, hk⟩ := hrel
    by_cases h0 : k = 0
    · subst h0
      go_wp2
      go_round
      case rel => exact ⟨_, 1, rfl, by first | rfl | go_num, by omega⟩
      case measure => simp [intOf]
    · have h1 : k = 1 := by omega
      subst h1
      go_wp2
      go_ret
      exact ⟨⟨_, rfl⟩, World.grownBy_alloc w _ none⟩

theorem grown_set {w w' : World} (h : w.grownBy w' none) (a : Addr) (ha : w.heap.size ≤ a.block) (v : Value) : w.grownBy (w'.setCell a v) none :=
  ⟨h.os, h.tape, h.output, by have := h.size; simpa [World.setCell] using this, fun k hk hne => (Below.heap_setCell _ _ _ _ (by omega)).trans (h.block k hk hne)⟩
/-- the zero value's four cells -/
def z75 : Nat → Value | 0 => .slice none 0 0 | 1 => .slice none 0 0 | 2 => .int .i64 0 | _ => .int .i64 0
/-- what Copies hands back -/
def IsCopies (e : Ending) (g : Nat) : Prop := ∃ (h : Nat) (x y : Int), e = .returned (.agg #[.slice (some ⟨g, 0, none⟩) 1 1, .slice (some ⟨h, 0, none⟩) 1 1, .int .i64 x, .int .i64 y])

set_option maxRecDepth 100000 in
set_option maxHeartbeats 2000000 in
theorem copies16 (g : Nat) (w : World) :
    Calls Tryd.prog 16 #[.int .u8 0, .slice (some ⟨g, 0, none⟩) 1 1, .slice none 0 0] w fun e w' => IsCopies e g ∧ w.grownBy w' none := by
  have q := fun wx => Lib.run_eql_slice_nil (P := Tryd.prog) wx 73 3 none 0 0 0 0 Tryd.underlying73
  have hmk : ∀ wx : World, (Instr.makeSlice 73 (.int .i64 1) (.int .i64 1)).run Tryd.prog wx = .ok (.slice (some ⟨wx.heap.size, 0, none⟩) 1 1) (wx.alloc (.cells (madeCells #[.int .i64 0] 1) 3)) := fun wx => run_make_row' (P := Tryd.prog) 73 3 (.int .i64 0) 8 Tryd.underlying73 info3 rfl .i64 .i64 1 (by omega) (by omega) wx
  go_enter Tryd.func16, Tryd.ntmps16
  go_wp2_with fail
  go_loopw [17] (fun i wr => ∃ (k : Nat) (z : Int), k ≤ 1 ∧ i = .int .i64 k ∧ Hid (wr.rowIs w.heap.size 75 4 z75 ∧ wr.rowIs (w.heap.size + 1) 3 1 (fun _ => .int .i64 z) ∧ w.grownBy wr none)) (fun i _ => 1 - (intOf i).toNat)
  case atStart =>
    refine ⟨0, 0, by omega, rfl, hide ⟨?_, ?_, ?_⟩⟩
    · exact (World.rowIs_alloc w #[.slice none 0 0, .slice none 0 0, .int .i64 0, .int .i64 0] 75 z75 (fun i hi => by rcases i with _ | _ | _ | _ | i <;> first | rfl | (simp at hi; omega))).alloc _
    · have := World.rowIs_made (w.alloc (.cells #[.slice none 0 0, .slice none 0 0, .int .i64 0, .int .i64 0] 75)) (.int .i64 0) 1 3
      simpa using this
    · exact grown_trans (World.grownBy_alloc w _ none) (World.grownBy_alloc _ _ none)
  case round =>
    clear hmk q
    obtain ⟨k, z, hk, rfl, HR⟩ := hrel
    obtain ⟨r0, r1, g1⟩ := unhide HR
    by_cases h0 : k = 0
    · subst h0
      have c1 := r1.cell (i := 0) (by omega)
      have f1 := r1.frozen 0
      have HN : Hid ((wr.setCell ⟨w.heap.size + 1, 0, none⟩ (.int .i64 1)).rowIs w.heap.size 75 4 z75 ∧ (wr.setCell ⟨w.heap.size + 1, 0, none⟩ (.int .i64 1)).rowIs (w.heap.size + 1) 3 1 (fun _ => .int .i64 1) ∧ w.grownBy (wr.setCell ⟨w.heap.size + 1, 0, none⟩ (.int .i64 1)) none) := by
        refine hide ⟨r0.setOther (by show w.heap.size ≠ w.heap.size + 1; omega) _, (r1.set 0 _).congr (fun j hj => by simp [show j = 0 by omega]), ?_⟩
        exact ⟨g1.os, g1.tape, g1.output, by have := g1.size; simpa [World.setCell] using this, fun k hk hne => (Below.heap_setCell _ _ _ _ (by show k ≠ w.heap.size + 1; omega)).trans (g1.block k hk hne)⟩
      clear r0 r1 g1 HR
      go_wp2_with fail
      go_roundw
      case rel => exact ⟨1, 1, by omega, by first | rfl | go_num, HN⟩
      case measure => simp [intOf]
    · have h1 : k = 1 := by omega
      subst h1
      have hsz : w.heap.size + 1 < wr.heap.size := r1.lt
      clear h0 hk
      have HR0 := hide r0
      have HR1 := hide r1
      have HG := hide g1
      clear r0 r1 g1 HR
      go_wp2_with fail
      refine (total_any g (w.heap.size + 1) 0 0 z _ (by simp; omega) (by rw [World.cell?_alloc_lt _ _ _ hsz]; exact (unhide HR1).cell (i := 0) (by omega))).mono ?_
      rintro e w1 ⟨⟨r, rfl⟩, g2⟩
      have r0 : w1.rowIs w.heap.size 75 4 z75 := ((unhide HR0).alloc _).of_block (g2.block _ (by simp; omega) (by simp))
      have rc : w1.rowIs wr.heap.size 75 4 (fun j => match j with | 0 => .slice (some ⟨g, 0, none⟩) 1 1 | 1 => .slice (some ⟨w.heap.size + 1, 0, none⟩) 1 1 | 2 => .int .i64 0 | _ => .int .i64 0) :=
        (World.rowIs_alloc wr #[.slice (some ⟨g, 0, none⟩) 1 1, .slice (some ⟨w.heap.size + 1, 0, none⟩) 1 1, .int .i64 0, .int .i64 0] 75 _ (fun i hi => by rcases i with _ | _ | _ | _ | i <;> first | rfl | (simp at hi; omega))).of_block (g2.block _ (by simp) (by simp))
      have a0 : w1.cell? ⟨w.heap.size, 0, none⟩ = some (.slice none 0 0) := r0.cell (i := 0) (by omega)
      have a1 : w1.cell? ⟨w.heap.size, 1, none⟩ = some (.slice none 0 0) := r0.cell (i := 1) (by omega)
      have a2 : w1.cell? ⟨w.heap.size, 2, none⟩ = some (.int .i64 0) := r0.cell (i := 2) (by omega)
      have a3 : w1.cell? ⟨w.heap.size, 3, none⟩ = some (.int .i64 0) := r0.cell (i := 3) (by omega)
      have b0 : w1.cell? ⟨wr.heap.size, 0, none⟩ = some (.slice (some ⟨g, 0, none⟩) 1 1) := rc.cell (i := 0) (by omega)
      have b1 : w1.cell? ⟨wr.heap.size, 1, none⟩ = some (.slice (some ⟨w.heap.size + 1, 0, none⟩) 1 1) := rc.cell (i := 1) (by omega)
      have b2 : w1.cell? ⟨wr.heap.size, 2, none⟩ = some (.int .i64 0) := rc.cell (i := 2) (by omega)
      have b3 : w1.cell? ⟨wr.heap.size, 3, none⟩ = some (.int .i64 0) := rc.cell (i := 3) (by omega)
      have e0 := r0.frozen 0
      have e1 := r0.frozen 1
      have e2 := r0.frozen 2
      have e3 := r0.frozen 3
      have d2 := rc.frozen 2
      have d3 := rc.frozen 3
      have hne : w.heap.size ≠ wr.heap.size := by omega
      have hne' : wr.heap.size ≠ w.heap.size := by omega
      have HG2 : Hid (w.grownBy w1 none) := hide (grown_trans (unhide HG) (grown_trans (World.grownBy_alloc wr _ none) g2))
      clear r0 rc g2 HR0 HR1 HG
      go_wp2_with fail
      refine bodyPost_ret (v := .agg #[.slice (some ⟨g, 0, none⟩) 1 1, .slice (some ⟨w.heap.size + 1, 0, none⟩) 1 1, .int .i64 (wrap64 (wrap64 (r.tdiv 2) + 1)), .int .i64 (wrap64 (wrap64 (r.tdiv 2) + 1))]) (by simp [results, Tryd.results16, go_sem, a0, a1, a2, a3]) rfl ⟨⟨_, _, _, rfl⟩, ?_⟩
      exact grown_set (grown_set (grown_set (grown_set (grown_set (grown_set (unhide HG2) _ (by show _ ≤ wr.heap.size; omega) _) _ (by show _ ≤ wr.heap.size; omega) _) _ (Nat.le_refl _) _) _ (Nat.le_refl _) _) _ (Nat.le_refl _) _) _ (Nat.le_refl _) _
end Go.Proofs.Qxb6614342aDoor.Leaves
