/-
  NewClusterManager and NewManager by contracts. (Seat b6614342aD.)
-/
import Derived.Test.Qxb6614342aDoorStats
import Derived.Laws.EntriesVeiled
namespace Go.Proofs.Qxb6614342aDoor.Leaves
open Go.RowKit Go.Deep Go.Maps Go.Proofs.Qxb6614342aDoor
set_option linter.unusedVariables false

theorem run_nilFunc_eq (wx : World) : (binOp .eql 41 .nilFunc .nilFunc).run Tryd.prog wx = .ok (.bool true) wx := by kernel_rfl

theorem wp_of_run {P : Program} {o : Oper} {a : Act} {w w' : World} {v : Value} {K : Act → World → Prop} {Q : Exit → Act → World → Prop} (h : (execOp a.eval o).run P w = .ok (.value v) w') (hK : K (a.put o.dst v) w') : Oper.wp P o a w K Q := by
  unfold Oper.wp
  rw [h]
  exact hK

/-- the new table's 49 cells -/
def mcells (node : ByteArray) (pb : Nat) (p q c : Int) (ma mb sl m1 m2 m3 : Nat) : Array Value := #[.string node, .func (Fn.func 17) #[] #[.pointer (some ⟨pb, 0, none⟩)], .int .u8 p, .int .u8 q, .int .u8 c, .map none, .int .i64 0, .map none, .int .i64 0, .map none, .int .i64 0, .map none, .int .i64 0, .slice none 0 0, .map (some ma), .int .u64 0, .int .u64 0, .int .u64 0, .int .i64 0, .map (some mb), .slice (some ⟨sl, 0, none⟩) 1 1, .map none, .int .i64 0, .map none, .int .i64 0, .map none, .int .i64 0, .slice none 0 0, .slice none 0 0, .slice none 0 0, .slice none 0 0, .bool false, .slice none 0 0, .map none, .int .i64 0, .int .i64 0, .slice none 0 0, .slice none 0 0, .slice none 0 0, .slice none 0 0, .slice none 0 0, .slice none 0 0, .slice none 0 0, .int .i64 0, .map (some m1), .map (some m2), .map (some m3), .int .i64 0, .int .i64 0]

theorem mgr_new (w : World) (node : ByteArray) (pb : Nat) (p q c : Int) (ma mb sl m1 m2 m3 : Nat) : Mgr (w.alloc (.cells (mcells node pb p q c ma mb sl m1 m2 m3) 72)) w.heap.size p 1 := by
  refine ⟨fun j => (mcells node pb p q c ma mb sl m1 m2 m3).getD j undef, ?_, rfl, ⟨_, _, rfl⟩, ⟨_, rfl⟩, ⟨_, rfl⟩⟩
  exact World.rowIs_alloc w (mcells node pb p q c ma mb sl m1 m2 m3) 72 _ (fun i hi => by simp [Array.getD, hi])

/-- how far NewClusterManager's region 4 has come -/
structure S2 (N g o c0 : Nat) (a1 : Option Addr) (c1 : Nat) (node : ByteArray) (pb : Nat) (p q c : Int) (N1 : Nat) (w1 : World) (l : Nat → Bool) (u14 u15 u16 u17 u18 u19 u20 u21 u22 u23 u6 : Value) (w : World) : Prop where
  gl : Glob N w g o c0 a1 c1
  gr : w1.grownBy w none
  p0 : l 0 = true → u14 = .string node
  p1 : l 1 = true → u15 = .func (Fn.func 17) #[] #[.pointer (some ⟨pb, 0, none⟩)]
  p2 : l 2 = true → u16 = .agg #[.int .u8 p, .int .u8 q, .int .u8 c]
  p3 : l 3 = true → ∃ m, u17 = .map (some m)
  p4 : l 4 = true → ∃ m, u18 = .map (some m)
  p5 : l 5 = true → u19 = .string node
  p6 : l 6 = true → ∃ m, u20 = .slice (some ⟨m, 0, none⟩) 1 1
  p7 : l 7 = true → ∃ m1 m2 m3, u21 = .agg #[.int .i64 0, .map (some m1), .map (some m2), .map (some m3)]
  p8 : l 8 = true → ∃ ma mb sl m1 m2 m3, u22 = .agg (mcells node pb p q c ma mb sl m1 m2 m3)
  p9 : l 9 = true → ∃ b, u23 = .pointer (some ⟨b, 0, none⟩) ∧ N1 ≤ b ∧ Mgr w b p 1
  p10 : l 10 = true → u6 = u23
  q10 : l 10 = true → l 9 = true

theorem S2.grow {N g o c0 : Nat} {a1 : Option Addr} {c1 : Nat} {node : ByteArray} {pb : Nat} {p q c : Int} {N1 : Nat} {w1 : World} {l : Nat → Bool} {u14 u15 u16 u17 u18 u19 u20 u21 u22 u23 u6 : Value} {w w' : World}
    (h : S2 N g o c0 a1 c1 node pb p q c N1 w1 l u14 u15 u16 u17 u18 u19 u20 u21 u22 u23 u6 w) (hN : N ≤ w1.heap.size) (k : w.grownBy w' none) : S2 N g o c0 a1 c1 node pb p q c N1 w1 l u14 u15 u16 u17 u18 u19 u20 u21 u22 u23 u6 w' :=
  ⟨h.gl.grown k (Nat.le_trans hN h.gr.size) (fun r hr => by cases hr), grown_trans h.gr k, h.p0, h.p1, h.p2, h.p3, h.p4, h.p5, h.p6, h.p7, h.p8, fun e => by obtain ⟨b, e1, e2, e3⟩ := h.p9 e; exact ⟨b, e1, e2, e3.grown k (by simp)⟩, h.p10, h.q10⟩

set_option maxRecDepth 100000 in
set_option maxHeartbeats 8000000 in
theorem cluster_any (N g o c0 : Nat) (a1 : Option Addr) (c1 : Nat) (node : ByteArray) (p q c : Int) (w : World) (hG : Glob N w g o c0 a1 c1) (hN : N ≤ w.heap.size) :
    Calls Tryd.prog 11 #[.string node, .nilFunc, .agg #[.int .u8 p, .int .u8 q, .int .u8 c]] w fun e w' => (∃ b, e = .returned (.pointer (some ⟨b, 0, none⟩)) ∧ w.heap.size ≤ b ∧ Mgr w' b p 1) ∧ w.grownBy w' none := by
  have hnf := run_nilFunc_eq
  go_enter Tryd.func11, Tryd.ntmps11
  go_wp2_with fail
  refine (copies16 (w.heap.size + 1) _).mono ?_
  rintro e w1 ⟨⟨h, x, y, rfl⟩, k1⟩
  go_upto_region 4 with fail
  rename_i K hK
  have g1 : w.grownBy (w1.alloc (.cells #[.slice (some ⟨w.heap.size + 1, 0, none⟩) 1 1, .slice (some ⟨h, 0, none⟩) 1 1, .int .i64 x, .int .i64 y] 75)) none :=
    grown_trans (World.grownBy_alloc w _ none) (grown_trans (World.grownBy_alloc _ _ none) (grown_trans k1 (World.grownBy_alloc _ _ none)))
  have rr : (w1.alloc (.cells #[.slice (some ⟨w.heap.size + 1, 0, none⟩) 1 1, .slice (some ⟨h, 0, none⟩) 1 1, .int .i64 x, .int .i64 y] 75)).rowIs w.heap.size 31 3 (fun j => match j with | 0 => .int .u8 p | 1 => .int .u8 q | _ => .int .u8 c) := by
    have r1 := World.rowIs_alloc w #[.int .u8 p, .int .u8 q, .int .u8 c] 31 (fun j => match j with | 0 => .int .u8 p | 1 => .int .u8 q | _ => .int .u8 c) (fun i hi => by rcases i with _ | _ | _ | i <;> first | rfl | (simp at hi; omega))
    exact row_kept (row_kept (r1.alloc _) k1 (by simp)) (World.grownBy_alloc _ _ none) (by simp)
  generalize w1.alloc (.cells #[.slice (some ⟨w.heap.size + 1, 0, none⟩) 1 1, .slice (some ⟨h, 0, none⟩) 1 1, .int .i64 x, .int .i64 y] 75) = w4 at *
  have hNs : N ≤ w4.heap.size := Nat.le_trans hN g1.size
  refine Orders.wp_region_inv (by kernel_rfl) ?htop (fun l a w' => ∃ u14 u15 u16 u17 u18 u19 u20 u21 u22 u23 u6, a = { tmps := #[.string node, .func (Fn.func 17) #[] #[.pointer (some ⟨w1.heap.size, 0, none⟩)], .agg #[.int .u8 p, .int .u8 q, .int .u8 c], undef, undef, .pointer (some ⟨w.heap.size, 0, none⟩), u6, .pointer (some ⟨w1.heap.size, 0, none⟩), .nilFunc, .bool true, .string node, .slice (some ⟨w.heap.size + 1, 0, none⟩) 1 1, .agg #[.slice (some ⟨w.heap.size + 1, 0, none⟩) 1 1, .slice (some ⟨h, 0, none⟩) 1 1, .int .i64 x, .int .i64 y], .func (Fn.func 17) #[] #[.pointer (some ⟨w1.heap.size, 0, none⟩)], u14, u15, u16, u17, u18, u19, u20, u21, u22, u23], defers := [] } ∧
      S2 N g o c0 a1 c1 node w1.heap.size p q c w.heap.size w4 l u14 u15 u16 u17 u18 u19 u20 u21 u22 u23 u6 w') ?h0 ?hstep ?hend
  case htop => exact Orders.top_of (by kernel_rfl)
  case h0 =>
    refine ⟨_, _, _, _, _, _, _, _, _, _, _, rfl, ?_⟩
    have g2 : w4.grownBy w4.drew none := ⟨rfl, rfl, rfl, Nat.le_refl _, fun _ _ _ => rfl⟩
    exact ⟨(hG.grown g1 hN (fun r hr => by cases hr)).grown g2 hNs (fun r hr => by cases hr), g2, by simp, by simp, by simp, by simp, by simp, by simp, by simp, by simp, by simp, by simp, by simp, by simp⟩
  case hstep =>
    intro l a w' i op hI ho hl he
    obtain ⟨u14, u15, u16, u17, u18, u19, u20, u21, u22, u23, u6, rfl, hh⟩ := hI
    have hi : i < 11 := (Array.getElem?_eq_some_iff.1 ho).1
    have rw' := row_kept rr hh.gr (by simp)
    have x0 : w'.cell? ⟨w.heap.size, 0, none⟩ = some (.int .u8 p) := rw'.cell (i := 0) (by omega)
    have x1 : w'.cell? ⟨w.heap.size, 1, none⟩ = some (.int .u8 q) := rw'.cell (i := 1) (by omega)
    have x2 : w'.cell? ⟨w.heap.size, 2, none⟩ = some (.int .u8 c) := rw'.cell (i := 2) (by omega)
    have hsz : w.heap.size ≤ w'.heap.size := Nat.le_trans g1.size hh.gr.size
    have hm1 : ∀ wx : World, (Instr.makeMap 52 none).run Tryd.prog wx = .ok (.map (some wx.heap.size)) (wx.alloc (.map #[] 0)) := fun wx => run_makeMap 52 wx
    have hm2 : ∀ wx : World, (Instr.makeMap 53 none).run Tryd.prog wx = .ok (.map (some wx.heap.size)) (wx.alloc (.map #[] 0)) := fun wx => run_makeMap 53 wx
    have hgA := hh.grow hNs (World.grownBy_alloc w' (.map #[] 0) none)
    rcases i with _ | _ | _ | _ | _ | _ | _ | _ | _ | _ | _ | i
    · cases ho
      refine wpOp_plain rfl rfl ?_
      clear he
      generalize hK2 : (fun (a' : Act) (w' : World) => ∃ u14 u15 u16 u17 u18 u19 u20 u21 u22 u23 u6, _ ∧ S2 _ _ _ _ _ _ _ _ _ _ _ _ _ _ u14 u15 u16 u17 u18 u19 u20 u21 u22 u23 u6 w') = K2
      unfold Oper.wp
      simp [execOp, go_sem]
      rw [← hK2]
      refine ⟨_, _, _, _, _, _, _, _, _, _, _, rfl, ?_⟩
      clear hK2
      constructor
      · exact hh.gl
      · exact hh.gr
      · exact fun _ => rfl
      · first | (simp; done) | (simpa using hh.p1)
      · first | (simp; done) | (simpa using hh.p2)
      · first | (simp; done) | (simpa using hh.p3)
      · first | (simp; done) | (simpa using hh.p4)
      · first | (simp; done) | (simpa using hh.p5)
      · first | (simp; done) | (simpa using hh.p6)
      · first | (simp; done) | (simpa using hh.p7)
      · first | (simp; done) | (simpa using hh.p8)
      · first | (simp; done) | (simpa using hh.p9)
      · first | (simp; done) | (simpa using hh.p10)
      · first | (simp; done) | (simpa using hh.q10)
    · cases ho
      refine wpOp_plain rfl rfl ?_
      clear he
      generalize hK2 : (fun (a' : Act) (w' : World) => ∃ u14 u15 u16 u17 u18 u19 u20 u21 u22 u23 u6, _ ∧ S2 _ _ _ _ _ _ _ _ _ _ _ _ _ _ u14 u15 u16 u17 u18 u19 u20 u21 u22 u23 u6 w') = K2
      unfold Oper.wp
      simp [execOp, go_sem]
      rw [← hK2]
      refine ⟨_, _, _, _, _, _, _, _, _, _, _, rfl, ?_⟩
      clear hK2
      constructor
      · exact hh.gl
      · exact hh.gr
      · first | (simp; done) | (simpa using hh.p0)
      · exact fun _ => rfl
      · first | (simp; done) | (simpa using hh.p2)
      · first | (simp; done) | (simpa using hh.p3)
      · first | (simp; done) | (simpa using hh.p4)
      · first | (simp; done) | (simpa using hh.p5)
      · first | (simp; done) | (simpa using hh.p6)
      · first | (simp; done) | (simpa using hh.p7)
      · first | (simp; done) | (simpa using hh.p8)
      · first | (simp; done) | (simpa using hh.p9)
      · first | (simp; done) | (simpa using hh.p10)
      · first | (simp; done) | (simpa using hh.q10)
    · cases ho
      refine wpOp_plain rfl rfl ?_
      clear he
      generalize hK2 : (fun (a' : Act) (w' : World) => ∃ u14 u15 u16 u17 u18 u19 u20 u21 u22 u23 u6, _ ∧ S2 _ _ _ _ _ _ _ _ _ _ _ _ _ _ u14 u15 u16 u17 u18 u19 u20 u21 u22 u23 u6 w') = K2
      unfold Oper.wp
      simp [execOp, go_sem, x0, x1, x2]
      rw [← hK2]
      refine ⟨_, _, _, _, _, _, _, _, _, _, _, rfl, ?_⟩
      clear hK2
      constructor
      · exact hh.gl
      · exact hh.gr
      · first | (simp; done) | (simpa using hh.p0)
      · first | (simp; done) | (simpa using hh.p1)
      · exact fun _ => rfl
      · first | (simp; done) | (simpa using hh.p3)
      · first | (simp; done) | (simpa using hh.p4)
      · first | (simp; done) | (simpa using hh.p5)
      · first | (simp; done) | (simpa using hh.p6)
      · first | (simp; done) | (simpa using hh.p7)
      · first | (simp; done) | (simpa using hh.p8)
      · first | (simp; done) | (simpa using hh.p9)
      · first | (simp; done) | (simpa using hh.p10)
      · first | (simp; done) | (simpa using hh.q10)
    · cases ho
      refine wpOp_plain rfl rfl ?_
      clear he
      generalize hK2 : (fun (a' : Act) (w' : World) => ∃ u14 u15 u16 u17 u18 u19 u20 u21 u22 u23 u6, _ ∧ S2 _ _ _ _ _ _ _ _ _ _ _ _ _ _ u14 u15 u16 u17 u18 u19 u20 u21 u22 u23 u6 w') = K2
      unfold Oper.wp
      simp [execOp, go_sem, hm1]
      rw [← hK2]
      refine ⟨_, _, _, _, _, _, _, _, _, _, _, rfl, ?_⟩
      clear hK2
      constructor
      · exact hgA.gl
      · exact hgA.gr
      · first | (simp; done) | (simpa using hgA.p0)
      · first | (simp; done) | (simpa using hgA.p1)
      · first | (simp; done) | (simpa using hgA.p2)
      · exact fun _ => ⟨_, rfl⟩
      · first | (simp; done) | (simpa using hgA.p4)
      · first | (simp; done) | (simpa using hgA.p5)
      · first | (simp; done) | (simpa using hgA.p6)
      · first | (simp; done) | (simpa using hgA.p7)
      · first | (simp; done) | (simpa using hgA.p8)
      · first | (simp; done) | (simpa using hgA.p9)
      · first | (simp; done) | (simpa using hgA.p10)
      · first | (simp; done) | (simpa using hgA.q10)
    · cases ho
      refine wpOp_plain rfl rfl ?_
      clear he
      generalize hK2 : (fun (a' : Act) (w' : World) => ∃ u14 u15 u16 u17 u18 u19 u20 u21 u22 u23 u6, _ ∧ S2 _ _ _ _ _ _ _ _ _ _ _ _ _ _ u14 u15 u16 u17 u18 u19 u20 u21 u22 u23 u6 w') = K2
      unfold Oper.wp
      simp [execOp, go_sem, hm2]
      rw [← hK2]
      refine ⟨_, _, _, _, _, _, _, _, _, _, _, rfl, ?_⟩
      clear hK2
      constructor
      · exact hgA.gl
      · exact hgA.gr
      · first | (simp; done) | (simpa using hgA.p0)
      · first | (simp; done) | (simpa using hgA.p1)
      · first | (simp; done) | (simpa using hgA.p2)
      · first | (simp; done) | (simpa using hgA.p3)
      · exact fun _ => ⟨_, rfl⟩
      · first | (simp; done) | (simpa using hgA.p5)
      · first | (simp; done) | (simpa using hgA.p6)
      · first | (simp; done) | (simpa using hgA.p7)
      · first | (simp; done) | (simpa using hgA.p8)
      · first | (simp; done) | (simpa using hgA.p9)
      · first | (simp; done) | (simpa using hgA.p10)
      · first | (simp; done) | (simpa using hgA.q10)
    · cases ho
      refine wpOp_plain rfl rfl ?_
      clear he
      generalize hK2 : (fun (a' : Act) (w' : World) => ∃ u14 u15 u16 u17 u18 u19 u20 u21 u22 u23 u6, _ ∧ S2 _ _ _ _ _ _ _ _ _ _ _ _ _ _ u14 u15 u16 u17 u18 u19 u20 u21 u22 u23 u6 w') = K2
      unfold Oper.wp
      simp [execOp, go_sem]
      rw [← hK2]
      refine ⟨_, _, _, _, _, _, _, _, _, _, _, rfl, ?_⟩
      clear hK2
      constructor
      · exact hh.gl
      · exact hh.gr
      · first | (simp; done) | (simpa using hh.p0)
      · first | (simp; done) | (simpa using hh.p1)
      · first | (simp; done) | (simpa using hh.p2)
      · first | (simp; done) | (simpa using hh.p3)
      · first | (simp; done) | (simpa using hh.p4)
      · exact fun _ => rfl
      · first | (simp; done) | (simpa using hh.p6)
      · first | (simp; done) | (simpa using hh.p7)
      · first | (simp; done) | (simpa using hh.p8)
      · first | (simp; done) | (simpa using hh.p9)
      · first | (simp; done) | (simpa using hh.p10)
      · first | (simp; done) | (simpa using hh.q10)
    · cases ho
      obtain rfl := hh.p5 (he { on := 5, ground := .data } (by simp) (by rfl))
      have hgB := hh.grow hNs (World.grownBy_alloc w' (.cells #[.string node] 9) none)
      refine wpOp_plain rfl rfl ?_
      clear he
      generalize hK2 : (fun (a' : Act) (w' : World) => ∃ u14 u15 u16 u17 u18 u19 u20 u21 u22 u23 u6, _ ∧ S2 _ _ _ _ _ _ _ _ _ _ _ _ _ _ u14 u15 u16 u17 u18 u19 u20 u21 u22 u23 u6 w') = K2
      unfold Oper.wp
      simp [execOp, go_sem]
      rw [← hK2]
      refine ⟨_, _, _, _, _, _, _, _, _, _, _, rfl, ?_⟩
      clear hK2
      constructor
      · exact hgB.gl
      · exact hgB.gr
      · first | (simp; done) | (simpa using hgB.p0)
      · first | (simp; done) | (simpa using hgB.p1)
      · first | (simp; done) | (simpa using hgB.p2)
      · first | (simp; done) | (simpa using hgB.p3)
      · first | (simp; done) | (simpa using hgB.p4)
      · first | (simp; done) | (simpa using hgB.p5)
      · exact fun _ => ⟨_, rfl⟩
      · first | (simp; done) | (simpa using hgB.p7)
      · first | (simp; done) | (simpa using hgB.p8)
      · first | (simp; done) | (simpa using hgB.p9)
      · first | (simp; done) | (simpa using hgB.p10)
      · first | (simp; done) | (simpa using hgB.q10)
    · cases ho
      refine wpOp_plain rfl rfl ?_
      clear he
      generalize hK2 : (fun (a' : Act) (w' : World) => ∃ u14 u15 u16 u17 u18 u19 u20 u21 u22 u23 u6, _ ∧ S2 _ _ _ _ _ _ _ _ _ _ _ _ _ _ u14 u15 u16 u17 u18 u19 u20 u21 u22 u23 u6 w') = K2
      unfold Oper.wp
      simp [execOp, go_sem]
      refine (stats_any N g o c0 a1 c1 w' hh.gl (Nat.le_trans hNs hh.gr.size)).mono ?_
      rintro e w2 ⟨⟨m1, m2, m3, rfl⟩, k2⟩
      have hgC := hh.grow hNs k2
      simp [go_sem]
      rw [← hK2]
      refine ⟨_, _, _, _, _, _, _, _, _, _, _, rfl, ?_⟩
      clear hK2
      constructor
      · exact hgC.gl
      · exact hgC.gr
      · first | (simp; done) | (simpa using hgC.p0)
      · first | (simp; done) | (simpa using hgC.p1)
      · first | (simp; done) | (simpa using hgC.p2)
      · first | (simp; done) | (simpa using hgC.p3)
      · first | (simp; done) | (simpa using hgC.p4)
      · first | (simp; done) | (simpa using hgC.p5)
      · first | (simp; done) | (simpa using hgC.p6)
      · exact fun _ => ⟨_, _, _, rfl⟩
      · first | (simp; done) | (simpa using hgC.p8)
      · first | (simp; done) | (simpa using hgC.p9)
      · first | (simp; done) | (simpa using hgC.p10)
      · first | (simp; done) | (simpa using hgC.q10)
    · cases ho
      have y0 := he { on := 0, ground := .data } (by simp) (by rfl)
      have y1 := he { on := 1, ground := .data } (by simp) (by rfl)
      have y2 := he { on := 2, ground := .data } (by simp) (by rfl)
      have y3 := he { on := 3, ground := .data } (by simp) (by rfl)
      have y4 := he { on := 4, ground := .data } (by simp) (by rfl)
      have y6 := he { on := 6, ground := .data } (by simp) (by rfl)
      have y7 := he { on := 7, ground := .data } (by simp) (by rfl)
      obtain rfl := hh.p0 y0
      obtain rfl := hh.p1 y1
      obtain rfl := hh.p2 y2
      obtain ⟨ma, rfl⟩ := hh.p3 y3
      obtain ⟨mb, rfl⟩ := hh.p4 y4
      obtain ⟨sl, rfl⟩ := hh.p6 y6
      obtain ⟨m1, m2, m3, rfl⟩ := hh.p7 y7
      refine wpOp_plain rfl rfl ?_
      clear he
      generalize hK2 : (fun (a' : Act) (w' : World) => ∃ u14 u15 u16 u17 u18 u19 u20 u21 u22 u23 u6, _ ∧ S2 _ _ _ _ _ _ _ _ _ _ _ _ _ _ u14 u15 u16 u17 u18 u19 u20 u21 u22 u23 u6 w') = K2
      refine wp_of_run (v := .agg (mcells node w1.heap.size p q c ma mb sl m1 m2 m3)) (w' := w') (by kernel_rfl) ?_
      simp [go_sem]
      rw [← hK2]
      refine ⟨_, _, _, _, _, _, _, _, _, _, _, rfl, ?_⟩
      clear hK2
      constructor
      · exact hh.gl
      · exact hh.gr
      · first | (simp; done) | (simpa using hh.p0)
      · first | (simp; done) | (simpa using hh.p1)
      · first | (simp; done) | (simpa using hh.p2)
      · first | (simp; done) | (simpa using hh.p3)
      · first | (simp; done) | (simpa using hh.p4)
      · first | (simp; done) | (simpa using hh.p5)
      · first | (simp; done) | (simpa using hh.p6)
      · first | (simp; done) | (simpa using hh.p7)
      · exact fun _ => ⟨ma, mb, sl, m1, m2, m3, rfl⟩
      · first | (simp; done) | (simpa using hh.p9)
      · first | (simp; done) | (simpa using hh.p10)
      · first | (simp; done) | (simpa using hh.q10)
    · cases ho
      obtain ⟨ma, mb, sl, m1, m2, m3, rfl⟩ := hh.p8 (he { on := 8, ground := .data } (by simp) (by rfl))
      have hgD := hh.grow hNs (World.grownBy_alloc w' (.cells (mcells node w1.heap.size p q c ma mb sl m1 m2 m3) 72) none)
      refine wpOp_plain rfl rfl ?_
      clear he
      generalize hK2 : (fun (a' : Act) (w' : World) => ∃ u14 u15 u16 u17 u18 u19 u20 u21 u22 u23 u6, _ ∧ S2 _ _ _ _ _ _ _ _ _ _ _ _ _ _ u14 u15 u16 u17 u18 u19 u20 u21 u22 u23 u6 w') = K2
      unfold Oper.wp
      simp [execOp, go_sem]
      rw [← hK2]
      refine ⟨_, _, _, _, _, _, _, _, _, _, _, rfl, ?_⟩
      clear hK2
      constructor
      · exact hgD.gl
      · exact hgD.gr
      · first | (simp; done) | (simpa using hgD.p0)
      · first | (simp; done) | (simpa using hgD.p1)
      · first | (simp; done) | (simpa using hgD.p2)
      · first | (simp; done) | (simpa using hgD.p3)
      · first | (simp; done) | (simpa using hgD.p4)
      · first | (simp; done) | (simpa using hgD.p5)
      · first | (simp; done) | (simpa using hgD.p6)
      · first | (simp; done) | (simpa using hgD.p7)
      · first | (simp; done) | (simpa using hgD.p8)
      · exact fun _ => ⟨w'.heap.size, rfl, hsz, mgr_new w' node w1.heap.size p q c ma mb sl m1 m2 m3⟩
      · intro e; exact absurd (hh.q10 (by simpa using e)) (by rw [hl]; simp)
      · first | (simp; done) | (simpa using hgD.q10)
    · cases ho
      have y9 := he { on := 9, ground := .data } (by simp) (by rfl)
      refine wpOp_plain rfl rfl ?_
      clear he
      generalize hK2 : (fun (a' : Act) (w' : World) => ∃ u14 u15 u16 u17 u18 u19 u20 u21 u22 u23 u6, _ ∧ S2 _ _ _ _ _ _ _ _ _ _ _ _ _ _ u14 u15 u16 u17 u18 u19 u20 u21 u22 u23 u6 w') = K2
      unfold Oper.wp
      simp [execOp, go_sem]
      rw [← hK2]
      refine ⟨_, _, _, _, _, _, _, _, _, _, _, rfl, ?_⟩
      clear hK2
      constructor
      · exact hh.gl
      · exact hh.gr
      · first | (simp; done) | (simpa using hh.p0)
      · first | (simp; done) | (simpa using hh.p1)
      · first | (simp; done) | (simpa using hh.p2)
      · first | (simp; done) | (simpa using hh.p3)
      · first | (simp; done) | (simpa using hh.p4)
      · first | (simp; done) | (simpa using hh.p5)
      · first | (simp; done) | (simpa using hh.p6)
      · first | (simp; done) | (simpa using hh.p7)
      · first | (simp; done) | (simpa using hh.p8)
      · first | (simp; done) | (simpa using hh.p9)
      · exact fun _ => rfl
      · intro _; simpa using y9
    · omega
  case hend =>
    intro l a w' hI hall
    obtain ⟨u14, u15, u16, u17, u18, u19, u20, u21, u22, u23, u6, rfl, hh⟩ := hI
    obtain ⟨b, rfl, nb, hM⟩ := hh.p9 (hall 9 (by decide))
    obtain rfl := hh.p10 (hall 10 (by decide))
    have hgr := grown_trans g1 hh.gr
    clear hh hall
    refine hK _ _ ?_
    go_wp2
    go_ret
    exact ⟨⟨b, rfl, nb, hM⟩, hgr⟩
end Go.Proofs.Qxb6614342aDoor.Leaves
