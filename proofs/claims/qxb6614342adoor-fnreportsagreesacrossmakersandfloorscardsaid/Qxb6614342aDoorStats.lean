/-
  newStats by a contract. (Seat b6614342aD.)
-/
import Derived.Test.Qxb6614342aDoorCopies
import Derived.Test.Qxb6614342aDoorOrders
import Derived.Maps.Own
import Derived.Maps.OwnOps
import Derived.Deep.DeepCutAuto
import Derived.Deep.LoopGhost
namespace Go.Proofs.Qxb6614342aDoor.Leaves
open Go.RowKit Go.Deep Go.Maps Go.Proofs.Qxb6614342aDoor
set_option linter.unusedVariables false

/-- block m is a map of at most n entries, keys of type k (a byte), elements int64 -/
def M (k : TypeId) (w : World) (m n : Nat) : Prop := ∃ D, w.ownsMap (H := Unit) Tryd.prog k (plainElem Tryd.prog 2) m n D

theorem law81 : Keyed Tryd.prog 81 := int_keyed Tryd.underlying81
theorem law82 : Keyed Tryd.prog 82 := int_keyed Tryd.underlying82

theorem M.lt {k : TypeId} {w : World} {m n : Nat} (h : M k w m n) : m < w.heap.size := by obtain ⟨D, h⟩ := h; exact h.lt
theorem M.mono {k : TypeId} {w : World} {m n n' : Nat} (h : M k w m n) (hn : n ≤ n') : M k w m n' := by obtain ⟨D, h⟩ := h; exact ⟨D, h.mono hn⟩
theorem M.made (k : TypeId) (w : World) : M k (w.alloc (.map #[] 0)) w.heap.size 0 := ⟨_, World.ownsMap_made w Tryd.prog k _⟩
theorem M.kept {k : TypeId} {w w' : World} {m n : Nat} {row : Option Nat} (h : M k w m n) (g : w.grownBy w' row) (hne : some m ≠ row) : M k w' m n := by
  obtain ⟨D, h⟩ := h; exact ⟨D, h.kept g hne⟩
theorem M.block {k : TypeId} {w : World} {m n : Nat} (h : M k w m n) : ∃ es c, w.heap[m]? = some (.map es c) := by
  obtain ⟨D, es, c, h, _⟩ := h; exact ⟨es, c, h⟩
theorem M.ne_row {k : TypeId} {w : World} {m n b c : Nat} {t : TypeId} {f : Nat → Value} (h : M k w m n) (r : w.rowIs b t c f) : m ≠ b := by
  rintro rfl
  obtain ⟨es, cl, e1⟩ := h.block
  obtain ⟨cs, e2, _⟩ := r
  rw [e1] at e2
  cases e2
theorem M.put67 {w : World} {m n : Nat} (h : M 81 w m n) (hn : n < 1000) (s : Int) (hs : (Lit.int .u8 s).wf = true) :
    ∃ w', (Instr.mapUpdate 67 (.map (some m)) (.int .u8 s) (.int .i64 0)).run Tryd.prog w = .ok () w' ∧ M 81 w' m (n + 1) ∧ w.grownBy w' (some m) := by
  obtain ⟨D, h⟩ := h
  obtain ⟨w', h1, h2, h3⟩ := h.update (t := 67) (e := 2) law81 Tryd.underlying67 (by unfold maxLen; omega) (key := .int .u8 s) (val := .int .i64 0) (kl := .int .u8 s) (keyOf_int_mk Tryd.underlying81 hs) (plainElem_int Tryd.underlying2 (by decide))
  exact ⟨w', h1, ⟨_, h2⟩, h3⟩
theorem M.put68 {w : World} {m n : Nat} (h : M 82 w m n) (hn : n < 1000) (s : Int) (hs : (Lit.int .u8 s).wf = true) :
    ∃ w', (Instr.mapUpdate 68 (.map (some m)) (.int .u8 s) (.int .i64 0)).run Tryd.prog w = .ok () w' ∧ M 82 w' m (n + 1) ∧ w.grownBy w' (some m) := by
  obtain ⟨D, h⟩ := h
  obtain ⟨w', h1, h2, h3⟩ := h.update (t := 68) (e := 2) law82 Tryd.underlying68 (by unfold maxLen; omega) (key := .int .u8 s) (val := .int .i64 0) (kl := .int .u8 s) (keyOf_int_mk Tryd.underlying82 hs) (plainElem_int Tryd.underlying2 (by decide))
  exact ⟨w', h1, ⟨_, h2⟩, h3⟩

/-- the two listed variables, as newStats reads them -/
structure Glob (N : Nat) (w : World) (g o c0 : Nat) (a1 : Option Addr) (c1 : Nat) : Prop where
  v0 : w.cell? ⟨0, 0, none⟩ = some (.slice (some ⟨g, o, none⟩) 3 c0)
  v1 : w.cell? ⟨1, 0, none⟩ = some (.slice a1 4 c1)
  e : ∀ j, j < 3 → w.cell? ⟨g, o + j, none⟩ = some (.int .u8 (3 + (j : Int)))
  hN : 1 < N ∧ g < N
theorem Glob.below {N B : Nat} {w w' : World} {g o c0 : Nat} {a1 : Option Addr} {c1 : Nat} (h : Glob N w g o c0 a1 c1) (hb : Below B w w') (hB : N ≤ B) : Glob N w' g o c0 a1 c1 := by
  have := h.hN
  exact ⟨(hb.cell (by show 0 < B; omega)).trans h.v0, (hb.cell (by show 1 < B; omega)).trans h.v1, fun j hj => (hb.cell (by show g < B; omega)).trans (h.e j hj), h.hN⟩
theorem Glob.grown {N : Nat} {w w' : World} {g o c0 : Nat} {a1 : Option Addr} {c1 : Nat} {row : Option Nat} (h : Glob N w g o c0 a1 c1) (k : w.grownBy w' row) (hN : N ≤ w.heap.size) (hr : ∀ r, row = some r → N ≤ r) : Glob N w' g o c0 a1 c1 :=
  h.below ((Below.refl N w).grown k hN hr) (Nat.le_refl _)

theorem wpOp_plain {P : Program} {ops : Array Oper} {Q : Exit → Act → World → Prop} {i : Nat} {o : Oper} {K : Act → World → Prop} {a : Act} {w : World} (ho : ops[i]? = some o) (hg : o.guard = none) (h : Oper.wp P o a w K Q) : wpOp P ops Q i K a w := by
  unfold wpOp
  rw [ho]
  have hw : Region.wanted o (yielded ops a.tmps) = true := by simp [Region.wanted, hg]
  simp only [hw, if_true]
  exact .inl h

/-- how far region 1 has come: 'l': which of its operations have been carried out -/
structure S1 (N N1 : Nat) (g o c0 : Nat) (a1 : Option Addr) (c1 : Nat) (w1 : World) (l : Nat → Bool) (u1 u5 u6 u7 u8 u9 u10 u11 u12 u13 u14 : Value) (w : World) : Prop where
  gl : Glob N w g o c0 a1 c1
  gr : w1.grownBy w none
  p0 : l 0 = true → u5 = .slice (some ⟨g, o, none⟩) 3 c0
  p1 : l 1 = true → u6 = .int .i64 3
  p2 : l 2 = true → ∃ m, u7 = .map (some m) ∧ N1 ≤ m ∧ M 81 w m ((l 8).toNat + (l 9).toNat)
  p3 : l 3 = true → u8 = .slice a1 4 c1
  p4 : l 4 = true → u9 = .int .i64 4
  p5 : l 5 = true → u10 = .int .i64 3
  p6 : l 6 = true → ∃ m, u11 = .map (some m) ∧ N1 ≤ m ∧ M 82 w m 0
  p7 : l 7 = true → ∃ m, u12 = .map (some m) ∧ N1 ≤ m ∧ M 81 w m ((l 8).toNat + (l 9).toNat)
  d : l 6 = true → l 7 = true → u11 ≠ u12
  d2 : l 2 = true → l 6 = true → u7 ≠ u11
  p10 : l 10 = true → u13 = u12
  p11 : l 11 = true → u14 = .agg #[.int .i64 0, u7, u11, u12]
  q8 : l 8 = true → l 7 = true
  q9 : l 9 = true → l 7 = true
  q10 : l 10 = true → l 7 = true ∧ l 8 = true ∧ l 9 = true
  q11 : l 11 = true → l 2 = true ∧ l 6 = true ∧ l 10 = true
  q13 : l 13 = true → l 11 = true ∧ l 12 = true
  p12 : l 12 = true → ∃ b, u1 = .pointer (some ⟨b, 0, none⟩) ∧ N1 ≤ b ∧ ∃ f, w.rowIs b 70 4 f ∧ (l 13 = true → f 0 = .int .i64 0 ∧ f 1 = u7 ∧ f 2 = u11 ∧ f 3 = u12)

theorem grown_row {a b c : World} {r : Nat} (h : a.grownBy b none) (g : b.grownBy c (some r)) (hr : a.heap.size ≤ r) : a.grownBy c none :=
  ⟨g.os.trans h.os, g.tape.trans h.tape, g.output.trans h.output, Nat.le_trans h.size g.size, fun k hk hne => (g.block k (Nat.lt_of_lt_of_le hk h.size) (by intro e; injection e with e; omega)).trans (h.block k hk hne)⟩
theorem row_kept {w w' : World} {b c : Nat} {t : TypeId} {f : Nat → Value} {row : Option Nat} (r : w.rowIs b t c f) (g : w.grownBy w' row) (hne : some b ≠ row) : w'.rowIs b t c f :=
  r.of_block (g.block b r.lt hne)

theorem grown_sets {w w' : World} {b : Nat} (h : w.grownBy w' (some b)) (j : Nat) (v : Value) : w.grownBy (w'.setCell ⟨b, j, none⟩ v) (some b) :=
  ⟨h.os, h.tape, h.output, by have := h.size; simpa [World.setCell] using this, fun k hk hne => (Below.heap_setCell _ _ _ _ (fun e => hne (by rw [e]))).trans (h.block k hk hne)⟩
/-- new blocks alone: nothing turns -/
theorem S1.grow {N N1 g o c0 : Nat} {a1 : Option Addr} {c1 : Nat} {w1 : World} {l : Nat → Bool} {u1 u5 u6 u7 u8 u9 u10 u11 u12 u13 u14 : Value} {w w' : World}
    (h : S1 N N1 g o c0 a1 c1 w1 l u1 u5 u6 u7 u8 u9 u10 u11 u12 u13 u14 w) (hN : N ≤ w1.heap.size) (k : w.grownBy w' none) : S1 N N1 g o c0 a1 c1 w1 l u1 u5 u6 u7 u8 u9 u10 u11 u12 u13 u14 w' :=
  ⟨h.gl.grown k (Nat.le_trans hN h.gr.size) (fun r hr => by cases hr), grown_trans h.gr k, h.p0, h.p1, fun e => by obtain ⟨m, e1, e2, e3⟩ := h.p2 e; exact ⟨m, e1, e2, e3.kept k (by simp)⟩, h.p3, h.p4, h.p5,
    fun e => by obtain ⟨m, e1, e2, e3⟩ := h.p6 e; exact ⟨m, e1, e2, e3.kept k (by simp)⟩, fun e => by obtain ⟨m, e1, e2, e3⟩ := h.p7 e; exact ⟨m, e1, e2, e3.kept k (by simp)⟩, h.d, h.d2, h.p10, h.p11, h.q8, h.q9, h.q10, h.q11, h.q13,
    fun e => by obtain ⟨b, e1, e2, f, e3, e4⟩ := h.p12 e; exact ⟨b, e1, e2, f, row_kept e3 k (by simp), e4⟩⟩

/-- the struct 'st' and its maps, in a world of the call's own make -/
structure LW (w0 wr : World) (b k1 k2 k3 n1 n2 : Nat) : Prop where
  gr : w0.grownBy wr none
  m1 : M 81 wr k1 n1
  m2 : M 82 wr k2 n2
  d1 : k1 ≠ b
  d2 : k2 ≠ b
  d3 : k1 ≠ k2
  row : ∃ f, wr.rowIs b 70 4 f ∧ f 0 = .int .i64 0 ∧ f 1 = .map (some k1) ∧ f 2 = .map (some k2) ∧ f 3 = .map (some k3)
theorem LW.mono2 {w0 wr : World} {b k1 k2 k3 n1 n2 n2' : Nat} (h : LW w0 wr b k1 k2 k3 n1 n2) (hn : n2 ≤ n2') : LW w0 wr b k1 k2 k3 n1 n2' :=
  ⟨h.gr, h.m1, h.m2.mono hn, h.d1, h.d2, h.d3, h.row⟩
theorem LW.upd1 {w0 wr w2 : World} {b k1 k2 k3 n1 n2 : Nat} (h : LW w0 wr b k1 k2 k3 n1 n2) (hM : M 81 w2 k1 (n1 + 1)) (hg : wr.grownBy w2 (some k1)) (hk : w0.heap.size ≤ k1) : LW w0 w2 b k1 k2 k3 (n1 + 1) n2 := by
  obtain ⟨f, rb, r⟩ := h.row
  exact ⟨grown_row h.gr hg hk, hM, h.m2.kept hg (by intro e; injection e with e; exact h.d3 e.symm), h.d1, h.d2, h.d3, f, row_kept rb hg (by intro e; injection e with e; exact h.d1 e.symm), r⟩
theorem LW.upd2 {w0 wr w2 : World} {b k1 k2 k3 n1 n2 : Nat} (h : LW w0 wr b k1 k2 k3 n1 n2) (hM : M 82 w2 k2 (n2 + 1)) (hg : wr.grownBy w2 (some k2)) (hk : w0.heap.size ≤ k2) : LW w0 w2 b k1 k2 k3 n1 (n2 + 1) := by
  obtain ⟨f, rb, r⟩ := h.row
  exact ⟨grown_row h.gr hg hk, h.m1.kept hg (by intro e; injection e with e; exact h.d3 e), hM, h.d1, h.d2, h.d3, f, row_kept rb hg (by intro e; injection e with e; exact h.d2 e.symm), r⟩

set_option maxRecDepth 100000 in
set_option maxHeartbeats 4000000 in
theorem stats_any (N g o c0 : Nat) (a1 : Option Addr) (c1 : Nat) (w : World) (hG : Glob N w g o c0 a1 c1) (hN : N ≤ w.heap.size) :
    Calls Tryd.prog 18 #[] w fun e w' => (∃ m1 m2 m3, e = .returned (.agg #[.int .i64 0, .map (some m1), .map (some m2), .map (some m3)])) ∧ w.grownBy w' none := by
  go_enter Tryd.func18, Tryd.ntmps18
  go_upto_region 1 with fail
  go_cut [1] (fun u1 wc => ∃ b m1 m2 m3, u1 = .pointer (some ⟨b, 0, none⟩) ∧ w.heap.size + 1 ≤ b ∧ w.heap.size + 1 ≤ m1 ∧ w.heap.size + 1 ≤ m2 ∧ Hid (LW (w.alloc (.cells #[.int .i64 0, .map none, .map none, .map none] 70)) wc b m1 m2 m3 2 0))
  case first =>
    rename_i J K' hJ hK'
    refine Orders.wp_region_inv (by kernel_rfl) ?htop (fun l a w' => ∃ u1 u5 u6 u7 u8 u9 u10 u11 u12 u13 u14, a = { tmps := #[.pointer (some ⟨w.heap.size, 0, none⟩), u1, undef, undef, undef, u5, u6, u7, u8, u9, u10, u11, u12, u13, u14, undef, undef, undef, undef, undef, undef, undef, undef, undef, undef, undef, undef, undef, undef, undef, undef, undef, undef, undef, undef, undef], defers := [] } ∧
        S1 N (w.heap.size + 1) g o c0 a1 c1 (w.alloc (.cells #[.int .i64 0, .map none, .map none, .map none] 70)) l u1 u5 u6 u7 u8 u9 u10 u11 u12 u13 u14 w') ?h0 ?hstep ?hend
    case htop => exact Orders.top_of (by kernel_rfl)
    case h0 =>
      refine ⟨_, _, _, _, _, _, _, _, _, _, _, rfl, ?_⟩
      have g0 := World.grownBy_alloc w (.cells #[.int .i64 0, .map none, .map none, .map none] 70) none
      have g1 : (w.alloc (.cells #[.int .i64 0, .map none, .map none, .map none] 70)).grownBy (w.alloc (.cells #[.int .i64 0, .map none, .map none, .map none] 70)).drew none := ⟨rfl, rfl, rfl, Nat.le_refl _, fun _ _ _ => rfl⟩
      exact ⟨(hG.grown g0 hN (fun r hr => by cases hr)).grown g1 (by simp; omega) (fun r hr => by cases hr), g1, by simp, by simp, by simp, by simp, by simp, by simp, by simp, by simp, by simp, by simp, by simp, by simp, by simp, by simp, by simp, by simp, by simp, by simp⟩
    case hstep =>
      intro l a w' i op hI ho hl he
      obtain ⟨u1, u5, u6, u7, u8, u9, u10, u11, u12, u13, u14, rfl, h⟩ := hI
      have hi : i < 14 := (Array.getElem?_eq_some_iff.1 ho).1
      have v0 := h.gl.v0
      have v1 := h.gl.v1
      have hNs : N ≤ (w.alloc (.cells #[.int .i64 0, .map none, .map none, .map none] 70)).heap.size := by simp; omega
      have hN1 : w.heap.size + 1 ≤ w'.heap.size := by have := h.gr.size; simpa using this
      have hmm : ∀ wx : World, (Instr.makeMap 67 (some (.int .i64 3))).run Tryd.prog wx = .ok (.map (some wx.heap.size)) (wx.alloc (.map #[] 0)) := fun wx => by rfl
      have hmm2 : ∀ wx : World, (Instr.makeMap 68 (some (.int .i64 3))).run Tryd.prog wx = .ok (.map (some wx.heap.size)) (wx.alloc (.map #[] 0)) := fun wx => by rfl
      have hmm3 : ∀ wx : World, (Instr.makeMap 67 none).run Tryd.prog wx = .ok (.map (some wx.heap.size)) (wx.alloc (.map #[] 0)) := fun wx => run_makeMap 67 wx
      have hgA := h.grow hNs (World.grownBy_alloc w' (.map #[] 0) none)
      rcases i with _ | _ | _ | _ | _ | _ | _ | _ | _ | _ | _ | _ | _ | _ | i
      · cases ho
        refine wpOp_plain rfl rfl ?_
        clear he
        generalize hK : (fun (a' : Act) (w' : World) => ∃ u1 u5 u6 u7 u8 u9 u10 u11 u12 u13 u14, _ ∧ S1 _ _ _ _ _ _ _ _ _ u1 u5 u6 u7 u8 u9 u10 u11 u12 u13 u14 w') = K
        unfold Oper.wp
        simp [execOp, go_sem, v0]
        rw [← hK]
        refine ⟨_, _, _, _, _, _, _, _, _, _, _, rfl, ?_⟩
        clear hK
        constructor
        · exact h.gl
        · exact h.gr
        · exact fun _ => rfl
        · first | (simp; done) | (simpa using h.p1)
        · first | (simp; done) | (simpa using h.p2)
        · first | (simp; done) | (simpa using h.p3)
        · first | (simp; done) | (simpa using h.p4)
        · first | (simp; done) | (simpa using h.p5)
        · first | (simp; done) | (simpa using h.p6)
        · first | (simp; done) | (simpa using h.p7)
        · first | (simp; done) | (simpa using h.d)
        · first | (simp; done) | (simpa using h.d2)
        · first | (simp; done) | (simpa using h.p10)
        · first | (simp; done) | (simpa using h.p11)
        · first | (simp; done) | (simpa using h.q8)
        · first | (simp; done) | (simpa using h.q9)
        · first | (simp; done) | (simpa using h.q10) | (intro e; have hq := h.q10 (by simpa using e); simp [hq])
        · first | (simp; done) | (simpa using h.q11) | (intro e; have hq := h.q11 (by simpa using e); simp [hq])
        · first | (simp; done) | (simpa using h.q13) | (intro e; have hq := h.q13 (by simpa using e); simp [hq])
        · first | (simp; done) | (simpa using h.p12)
      · cases ho
        obtain rfl := h.p0 (he { on := 0, ground := .data } (by simp) (by rfl))
        refine wpOp_plain rfl rfl ?_
        clear he
        generalize hK : (fun (a' : Act) (w' : World) => ∃ u1 u5 u6 u7 u8 u9 u10 u11 u12 u13 u14, _ ∧ S1 _ _ _ _ _ _ _ _ _ u1 u5 u6 u7 u8 u9 u10 u11 u12 u13 u14 w') = K
        unfold Oper.wp
        simp [execOp, go_sem]
        rw [← hK]
        refine ⟨_, _, _, _, _, _, _, _, _, _, _, rfl, ?_⟩
        clear hK
        constructor
        · exact h.gl
        · exact h.gr
        · first | (simp; done) | (simpa using h.p0)
        · exact fun _ => rfl
        · first | (simp; done) | (simpa using h.p2)
        · first | (simp; done) | (simpa using h.p3)
        · first | (simp; done) | (simpa using h.p4)
        · first | (simp; done) | (simpa using h.p5)
        · first | (simp; done) | (simpa using h.p6)
        · first | (simp; done) | (simpa using h.p7)
        · first | (simp; done) | (simpa using h.d)
        · first | (simp; done) | (simpa using h.d2)
        · first | (simp; done) | (simpa using h.p10)
        · first | (simp; done) | (simpa using h.p11)
        · first | (simp; done) | (simpa using h.q8)
        · first | (simp; done) | (simpa using h.q9)
        · first | (simp; done) | (simpa using h.q10) | (intro e; have hq := h.q10 (by simpa using e); simp [hq])
        · first | (simp; done) | (simpa using h.q11) | (intro e; have hq := h.q11 (by simpa using e); simp [hq])
        · first | (simp; done) | (simpa using h.q13) | (intro e; have hq := h.q13 (by simpa using e); simp [hq])
        · first | (simp; done) | (simpa using h.p12)
      · cases ho
        obtain rfl := h.p1 (he { on := 1, ground := .data } (by simp) (by rfl))
        refine wpOp_plain rfl rfl ?_
        clear he
        generalize hK : (fun (a' : Act) (w' : World) => ∃ u1 u5 u6 u7 u8 u9 u10 u11 u12 u13 u14, _ ∧ S1 _ _ _ _ _ _ _ _ _ u1 u5 u6 u7 u8 u9 u10 u11 u12 u13 u14 w') = K
        unfold Oper.wp
        simp [execOp, go_sem, hmm]
        rw [← hK]
        refine ⟨_, _, _, _, _, _, _, _, _, _, _, rfl, ?_⟩
        clear hK
        constructor
        · exact hgA.gl
        · exact hgA.gr
        · first | (simp; done) | (simpa using hgA.p0)
        · first | (simp; done) | (simpa using hgA.p1)
        · exact fun _ => ⟨w'.heap.size, rfl, hN1, (M.made 81 w').mono (by omega)⟩
        · first | (simp; done) | (simpa using hgA.p3)
        · first | (simp; done) | (simpa using hgA.p4)
        · first | (simp; done) | (simpa using hgA.p5)
        · first | (simp; done) | (simpa using hgA.p6)
        · first | (simp; done) | (simpa using hgA.p7)
        · first | (simp; done) | (simpa using hgA.d)
        · intro _ e; obtain ⟨m, rfl, _, e3⟩ := h.p6 (by simpa using e); intro e4; injection e4 with e4; injection e4 with e4; have := e3.lt; omega
        · first | (simp; done) | (simpa using hgA.p10)
        · intro e; exact absurd (h.q11 (by simpa using e)).1 (by rw [hl]; simp)
        · first | (simp; done) | (simpa using hgA.q8)
        · first | (simp; done) | (simpa using hgA.q9)
        · first | (simp; done) | (simpa using hgA.q10) | (intro e; have hq := hgA.q10 (by simpa using e); simp [hq])
        · first | (simp; done) | (simpa using hgA.q11) | (intro e; have hq := hgA.q11 (by simpa using e); simp [hq])
        · first | (simp; done) | (simpa using hgA.q13) | (intro e; have hq := hgA.q13 (by simpa using e); simp [hq])
        · intro e; obtain ⟨b, e1, e2, f, e3, e4⟩ := hgA.p12 (by simpa using e); exact ⟨b, e1, e2, f, e3, fun e5 => absurd ((h.q11 (h.q13 (by simpa using e5)).1).1) (by rw [hl]; simp)⟩
      · cases ho
        refine wpOp_plain rfl rfl ?_
        clear he
        generalize hK : (fun (a' : Act) (w' : World) => ∃ u1 u5 u6 u7 u8 u9 u10 u11 u12 u13 u14, _ ∧ S1 _ _ _ _ _ _ _ _ _ u1 u5 u6 u7 u8 u9 u10 u11 u12 u13 u14 w') = K
        unfold Oper.wp
        simp [execOp, go_sem, v1]
        rw [← hK]
        refine ⟨_, _, _, _, _, _, _, _, _, _, _, rfl, ?_⟩
        clear hK
        constructor
        · exact h.gl
        · exact h.gr
        · first | (simp; done) | (simpa using h.p0)
        · first | (simp; done) | (simpa using h.p1)
        · first | (simp; done) | (simpa using h.p2)
        · exact fun _ => rfl
        · first | (simp; done) | (simpa using h.p4)
        · first | (simp; done) | (simpa using h.p5)
        · first | (simp; done) | (simpa using h.p6)
        · first | (simp; done) | (simpa using h.p7)
        · first | (simp; done) | (simpa using h.d)
        · first | (simp; done) | (simpa using h.d2)
        · first | (simp; done) | (simpa using h.p10)
        · first | (simp; done) | (simpa using h.p11)
        · first | (simp; done) | (simpa using h.q8)
        · first | (simp; done) | (simpa using h.q9)
        · first | (simp; done) | (simpa using h.q10) | (intro e; have hq := h.q10 (by simpa using e); simp [hq])
        · first | (simp; done) | (simpa using h.q11) | (intro e; have hq := h.q11 (by simpa using e); simp [hq])
        · first | (simp; done) | (simpa using h.q13) | (intro e; have hq := h.q13 (by simpa using e); simp [hq])
        · first | (simp; done) | (simpa using h.p12)
      · cases ho
        obtain rfl := h.p3 (he { on := 3, ground := .data } (by simp) (by rfl))
        refine wpOp_plain rfl rfl ?_
        clear he
        generalize hK : (fun (a' : Act) (w' : World) => ∃ u1 u5 u6 u7 u8 u9 u10 u11 u12 u13 u14, _ ∧ S1 _ _ _ _ _ _ _ _ _ u1 u5 u6 u7 u8 u9 u10 u11 u12 u13 u14 w') = K
        unfold Oper.wp
        simp [execOp, go_sem]
        rw [← hK]
        refine ⟨_, _, _, _, _, _, _, _, _, _, _, rfl, ?_⟩
        clear hK
        constructor
        · exact h.gl
        · exact h.gr
        · first | (simp; done) | (simpa using h.p0)
        · first | (simp; done) | (simpa using h.p1)
        · first | (simp; done) | (simpa using h.p2)
        · first | (simp; done) | (simpa using h.p3)
        · exact fun _ => rfl
        · first | (simp; done) | (simpa using h.p5)
        · first | (simp; done) | (simpa using h.p6)
        · first | (simp; done) | (simpa using h.p7)
        · first | (simp; done) | (simpa using h.d)
        · first | (simp; done) | (simpa using h.d2)
        · first | (simp; done) | (simpa using h.p10)
        · first | (simp; done) | (simpa using h.p11)
        · first | (simp; done) | (simpa using h.q8)
        · first | (simp; done) | (simpa using h.q9)
        · first | (simp; done) | (simpa using h.q10) | (intro e; have hq := h.q10 (by simpa using e); simp [hq])
        · first | (simp; done) | (simpa using h.q11) | (intro e; have hq := h.q11 (by simpa using e); simp [hq])
        · first | (simp; done) | (simpa using h.q13) | (intro e; have hq := h.q13 (by simpa using e); simp [hq])
        · first | (simp; done) | (simpa using h.p12)
      · cases ho
        obtain rfl := h.p4 (he { on := 4, ground := .data } (by simp) (by rfl))
        refine wpOp_plain rfl rfl ?_
        clear he
        generalize hK : (fun (a' : Act) (w' : World) => ∃ u1 u5 u6 u7 u8 u9 u10 u11 u12 u13 u14, _ ∧ S1 _ _ _ _ _ _ _ _ _ u1 u5 u6 u7 u8 u9 u10 u11 u12 u13 u14 w') = K
        unfold Oper.wp
        simp [execOp, go_sem]
        rw [← hK]
        refine ⟨_, _, _, _, _, _, _, _, _, _, _, rfl, ?_⟩
        clear hK
        constructor
        · exact h.gl
        · exact h.gr
        · first | (simp; done) | (simpa using h.p0)
        · first | (simp; done) | (simpa using h.p1)
        · first | (simp; done) | (simpa using h.p2)
        · first | (simp; done) | (simpa using h.p3)
        · first | (simp; done) | (simpa using h.p4)
        · exact fun _ => rfl
        · first | (simp; done) | (simpa using h.p6)
        · first | (simp; done) | (simpa using h.p7)
        · first | (simp; done) | (simpa using h.d)
        · first | (simp; done) | (simpa using h.d2)
        · first | (simp; done) | (simpa using h.p10)
        · first | (simp; done) | (simpa using h.p11)
        · first | (simp; done) | (simpa using h.q8)
        · first | (simp; done) | (simpa using h.q9)
        · first | (simp; done) | (simpa using h.q10) | (intro e; have hq := h.q10 (by simpa using e); simp [hq])
        · first | (simp; done) | (simpa using h.q11) | (intro e; have hq := h.q11 (by simpa using e); simp [hq])
        · first | (simp; done) | (simpa using h.q13) | (intro e; have hq := h.q13 (by simpa using e); simp [hq])
        · first | (simp; done) | (simpa using h.p12)
      · cases ho
        obtain rfl := h.p5 (he { on := 5, ground := .data } (by simp) (by rfl))
        refine wpOp_plain rfl rfl ?_
        clear he
        generalize hK : (fun (a' : Act) (w' : World) => ∃ u1 u5 u6 u7 u8 u9 u10 u11 u12 u13 u14, _ ∧ S1 _ _ _ _ _ _ _ _ _ u1 u5 u6 u7 u8 u9 u10 u11 u12 u13 u14 w') = K
        unfold Oper.wp
        simp [execOp, go_sem, hmm2]
        rw [← hK]
        refine ⟨_, _, _, _, _, _, _, _, _, _, _, rfl, ?_⟩
        clear hK
        constructor
        · exact hgA.gl
        · exact hgA.gr
        · first | (simp; done) | (simpa using hgA.p0)
        · first | (simp; done) | (simpa using hgA.p1)
        · first | (simp; done) | (simpa using hgA.p2)
        · first | (simp; done) | (simpa using hgA.p3)
        · first | (simp; done) | (simpa using hgA.p4)
        · first | (simp; done) | (simpa using hgA.p5)
        · exact fun _ => ⟨w'.heap.size, rfl, hN1, M.made 82 w'⟩
        · first | (simp; done) | (simpa using hgA.p7)
        · intro _ e; obtain ⟨m, rfl, _, e3⟩ := h.p7 (by simpa using e); intro e4; injection e4 with e4; injection e4 with e4; have := e3.lt; omega
        · intro e _; obtain ⟨m, rfl, _, e3⟩ := h.p2 (by simpa using e); intro e4; injection e4 with e4; injection e4 with e4; have := e3.lt; omega
        · first | (simp; done) | (simpa using hgA.p10)
        · intro e; exact absurd (h.q11 (by simpa using e)).2.1 (by rw [hl]; simp)
        · first | (simp; done) | (simpa using hgA.q8)
        · first | (simp; done) | (simpa using hgA.q9)
        · first | (simp; done) | (simpa using hgA.q10) | (intro e; have hq := hgA.q10 (by simpa using e); simp [hq])
        · first | (simp; done) | (simpa using hgA.q11) | (intro e; have hq := hgA.q11 (by simpa using e); simp [hq])
        · first | (simp; done) | (simpa using hgA.q13) | (intro e; have hq := hgA.q13 (by simpa using e); simp [hq])
        · intro e; obtain ⟨b, e1, e2, f, e3, e4⟩ := hgA.p12 (by simpa using e); exact ⟨b, e1, e2, f, e3, fun e5 => absurd ((h.q11 (h.q13 (by simpa using e5)).1).2.1) (by rw [hl]; simp)⟩
      · cases ho
        refine wpOp_plain rfl rfl ?_
        clear he
        generalize hK : (fun (a' : Act) (w' : World) => ∃ u1 u5 u6 u7 u8 u9 u10 u11 u12 u13 u14, _ ∧ S1 _ _ _ _ _ _ _ _ _ u1 u5 u6 u7 u8 u9 u10 u11 u12 u13 u14 w') = K
        unfold Oper.wp
        simp [execOp, go_sem, hmm3]
        rw [← hK]
        refine ⟨_, _, _, _, _, _, _, _, _, _, _, rfl, ?_⟩
        clear hK
        constructor
        · exact hgA.gl
        · exact hgA.gr
        · first | (simp; done) | (simpa using hgA.p0)
        · first | (simp; done) | (simpa using hgA.p1)
        · first | (simp; done) | (simpa using hgA.p2)
        · first | (simp; done) | (simpa using hgA.p3)
        · first | (simp; done) | (simpa using hgA.p4)
        · first | (simp; done) | (simpa using hgA.p5)
        · first | (simp; done) | (simpa using hgA.p6)
        · exact fun _ => ⟨w'.heap.size, rfl, hN1, (M.made 81 w').mono (by omega)⟩
        · intro e _; obtain ⟨m, rfl, _, e3⟩ := h.p6 (by simpa using e); intro e4; injection e4 with e4; injection e4 with e4; have := e3.lt; omega
        · first | (simp; done) | (simpa using hgA.d2)
        · intro e; exact absurd (h.q10 (by simpa using e)).1 (by rw [hl]; simp)
        · intro e; exact absurd (h.q10 (h.q11 (by simpa using e)).2.2).1 (by rw [hl]; simp)
        · first | (simp; done) | (simpa using hgA.q8)
        · first | (simp; done) | (simpa using hgA.q9)
        · first | (simp; done) | (simpa using hgA.q10) | (intro e; have hq := hgA.q10 (by simpa using e); simp [hq])
        · first | (simp; done) | (simpa using hgA.q11) | (intro e; have hq := hgA.q11 (by simpa using e); simp [hq])
        · first | (simp; done) | (simpa using hgA.q13) | (intro e; have hq := hgA.q13 (by simpa using e); simp [hq])
        · intro e; obtain ⟨b, e1, e2, f, e3, e4⟩ := hgA.p12 (by simpa using e); exact ⟨b, e1, e2, f, e3, fun e5 => absurd ((h.q10 (h.q11 (h.q13 (by simpa using e5)).1).2.2).1) (by rw [hl]; simp)⟩
      · cases ho
        have h7 := he { on := 7, ground := .data } (by simp) (by rfl)
        obtain ⟨m, rfl, hm1, hm2⟩ := h.p7 h7
        obtain ⟨w2, hrun, hM2, hg2⟩ := hm2.put67 (by have := Bool.toNat_le (l 8); have := Bool.toNat_le (l 9); omega) 1 (by decide)
        refine wpOp_plain rfl rfl ?_
        clear he
        generalize hK : (fun (a' : Act) (w' : World) => ∃ u1 u5 u6 u7 u8 u9 u10 u11 u12 u13 u14, _ ∧ S1 _ _ _ _ _ _ _ _ _ u1 u5 u6 u7 u8 u9 u10 u11 u12 u13 u14 w') = K
        unfold Oper.wp
        simp [execOp, go_sem, hrun]
        rw [← hK]
        refine ⟨_, _, _, _, _, _, _, _, _, _, _, rfl, ?_⟩
        clear hK
        constructor
        · exact h.gl.grown hg2 (by omega) (fun r hr => by cases hr; omega)
        · exact grown_row h.gr hg2 (by simpa using hm1)
        · first | (simp; done) | (simpa using h.p0)
        · first | (simp; done) | (simpa using h.p1)
        · intro e; obtain ⟨m2, rfl, e2, e3⟩ := h.p2 (by simpa using e); by_cases hc : m2 = m; (· subst hc; exact ⟨m2, rfl, e2, hM2.mono (by first | (simp [hl]; done) | (simp [hl]; omega))⟩); (· exact ⟨m2, rfl, e2, (e3.kept hg2 (by simpa using hc)).mono (by first | (simp [hl]; done) | (simp [hl]; omega))⟩)
        · first | (simp; done) | (simpa using h.p3)
        · first | (simp; done) | (simpa using h.p4)
        · first | (simp; done) | (simpa using h.p5)
        · intro e; obtain ⟨m2, rfl, e2, e3⟩ := h.p6 (by simpa using e); refine ⟨m2, rfl, e2, e3.kept hg2 ?_⟩; intro hc; injection hc with hc; subst hc; exact h.d (by simpa using e) h7 rfl
        · intro e; exact ⟨m, rfl, hm1, hM2.mono (by first | (simp [hl]; done) | (simp [hl]; omega))⟩
        · first | (simp; done) | (simpa using h.d)
        · first | (simp; done) | (simpa using h.d2)
        · first | (simp; done) | (simpa using h.p10)
        · first | (simp; done) | (simpa using h.p11)
        · intro _; simpa using h7
        · first | (simp; done) | (simpa using h.q9)
        · first | (simp; done) | (simpa using h.q10) | (intro e; have hq := h.q10 (by simpa using e); simp [hq])
        · first | (simp; done) | (simpa using h.q11) | (intro e; have hq := h.q11 (by simpa using e); simp [hq])
        · first | (simp; done) | (simpa using h.q13) | (intro e; have hq := h.q13 (by simpa using e); simp [hq])
        · intro e; obtain ⟨b, e1, e2, f, e3, e4⟩ := h.p12 (by simpa using e); refine ⟨b, e1, e2, f, row_kept e3 hg2 ?_, by simpa using e4⟩; intro hc; injection hc with hc; exact hm2.ne_row e3 hc.symm
      · cases ho
        have h7 := he { on := 7, ground := .data } (by simp) (by rfl)
        obtain ⟨m, rfl, hm1, hm2⟩ := h.p7 h7
        obtain ⟨w2, hrun, hM2, hg2⟩ := hm2.put67 (by have := Bool.toNat_le (l 8); have := Bool.toNat_le (l 9); omega) 2 (by decide)
        refine wpOp_plain rfl rfl ?_
        clear he
        generalize hK : (fun (a' : Act) (w' : World) => ∃ u1 u5 u6 u7 u8 u9 u10 u11 u12 u13 u14, _ ∧ S1 _ _ _ _ _ _ _ _ _ u1 u5 u6 u7 u8 u9 u10 u11 u12 u13 u14 w') = K
        unfold Oper.wp
        simp [execOp, go_sem, hrun]
        rw [← hK]
        refine ⟨_, _, _, _, _, _, _, _, _, _, _, rfl, ?_⟩
        clear hK
        constructor
        · exact h.gl.grown hg2 (by omega) (fun r hr => by cases hr; omega)
        · exact grown_row h.gr hg2 (by simpa using hm1)
        · first | (simp; done) | (simpa using h.p0)
        · first | (simp; done) | (simpa using h.p1)
        · intro e; obtain ⟨m2, rfl, e2, e3⟩ := h.p2 (by simpa using e); by_cases hc : m2 = m; (· subst hc; exact ⟨m2, rfl, e2, hM2.mono (by first | (simp [hl]; done) | (simp [hl]; omega))⟩); (· exact ⟨m2, rfl, e2, (e3.kept hg2 (by simpa using hc)).mono (by first | (simp [hl]; done) | (simp [hl]; omega))⟩)
        · first | (simp; done) | (simpa using h.p3)
        · first | (simp; done) | (simpa using h.p4)
        · first | (simp; done) | (simpa using h.p5)
        · intro e; obtain ⟨m2, rfl, e2, e3⟩ := h.p6 (by simpa using e); refine ⟨m2, rfl, e2, e3.kept hg2 ?_⟩; intro hc; injection hc with hc; subst hc; exact h.d (by simpa using e) h7 rfl
        · intro e; exact ⟨m, rfl, hm1, hM2.mono (by first | (simp [hl]; done) | (simp [hl]; omega))⟩
        · first | (simp; done) | (simpa using h.d)
        · first | (simp; done) | (simpa using h.d2)
        · first | (simp; done) | (simpa using h.p10)
        · first | (simp; done) | (simpa using h.p11)
        · first | (simp; done) | (simpa using h.q8)
        · intro _; simpa using h7
        · first | (simp; done) | (simpa using h.q10) | (intro e; have hq := h.q10 (by simpa using e); simp [hq])
        · first | (simp; done) | (simpa using h.q11) | (intro e; have hq := h.q11 (by simpa using e); simp [hq])
        · first | (simp; done) | (simpa using h.q13) | (intro e; have hq := h.q13 (by simpa using e); simp [hq])
        · intro e; obtain ⟨b, e1, e2, f, e3, e4⟩ := h.p12 (by simpa using e); refine ⟨b, e1, e2, f, row_kept e3 hg2 ?_, by simpa using e4⟩; intro hc; injection hc with hc; exact hm2.ne_row e3 hc.symm
      · cases ho
        have h7 := he { on := 7, ground := .data } (by simp) (by rfl)
        have h8 := he { on := 8, ground := .data } (by simp) (by rfl)
        have h9 := he { on := 9, ground := .data } (by simp) (by rfl)
        refine wpOp_plain rfl rfl ?_
        clear he
        generalize hK : (fun (a' : Act) (w' : World) => ∃ u1 u5 u6 u7 u8 u9 u10 u11 u12 u13 u14, _ ∧ S1 _ _ _ _ _ _ _ _ _ u1 u5 u6 u7 u8 u9 u10 u11 u12 u13 u14 w') = K
        unfold Oper.wp
        simp [execOp, go_sem]
        rw [← hK]
        refine ⟨_, _, _, _, _, _, _, _, _, _, _, rfl, ?_⟩
        clear hK
        constructor
        · exact h.gl
        · exact h.gr
        · first | (simp; done) | (simpa using h.p0)
        · first | (simp; done) | (simpa using h.p1)
        · first | (simp; done) | (simpa using h.p2)
        · first | (simp; done) | (simpa using h.p3)
        · first | (simp; done) | (simpa using h.p4)
        · first | (simp; done) | (simpa using h.p5)
        · first | (simp; done) | (simpa using h.p6)
        · first | (simp; done) | (simpa using h.p7)
        · first | (simp; done) | (simpa using h.d)
        · first | (simp; done) | (simpa using h.d2)
        · exact fun _ => rfl
        · first | (simp; done) | (simpa using h.p11)
        · first | (simp; done) | (simpa using h.q8)
        · first | (simp; done) | (simpa using h.q9)
        · intro _; simp [h7, h8, h9]
        · first | (simp; done) | (simpa using h.q11) | (intro e; have hq := h.q11 (by simpa using e); simp [hq])
        · first | (simp; done) | (simpa using h.q13) | (intro e; have hq := h.q13 (by simpa using e); simp [hq])
        · first | (simp; done) | (simpa using h.p12)
      · cases ho
        have k2 := he { on := 2, ground := .data } (by simp) (by rfl)
        have k6 := he { on := 6, ground := .data } (by simp) (by rfl)
        have k10 := he { on := 10, ground := .data } (by simp) (by rfl)
        obtain rfl := h.p10 k10
        obtain ⟨m1, rfl, _, _⟩ := h.p2 k2
        obtain ⟨m2, rfl, _, _⟩ := h.p6 k6
        obtain ⟨m3, rfl, _, _⟩ := h.p7 (h.q10 k10).1
        refine wpOp_plain rfl rfl ?_
        clear he
        generalize hK : (fun (a' : Act) (w' : World) => ∃ u1 u5 u6 u7 u8 u9 u10 u11 u12 u13 u14, _ ∧ S1 _ _ _ _ _ _ _ _ _ u1 u5 u6 u7 u8 u9 u10 u11 u12 u13 u14 w') = K
        unfold Oper.wp
        simp [execOp, go_sem]
        rw [← hK]
        refine ⟨_, _, _, _, _, _, _, _, _, _, _, rfl, ?_⟩
        clear hK
        constructor
        · exact h.gl
        · exact h.gr
        · first | (simp; done) | (simpa using h.p0)
        · first | (simp; done) | (simpa using h.p1)
        · first | (simp; done) | (simpa using h.p2)
        · first | (simp; done) | (simpa using h.p3)
        · first | (simp; done) | (simpa using h.p4)
        · first | (simp; done) | (simpa using h.p5)
        · first | (simp; done) | (simpa using h.p6)
        · first | (simp; done) | (simpa using h.p7)
        · first | (simp; done) | (simpa using h.d)
        · first | (simp; done) | (simpa using h.d2)
        · first | (simp; done) | (simpa using h.p10)
        · exact fun _ => rfl
        · first | (simp; done) | (simpa using h.q8)
        · first | (simp; done) | (simpa using h.q9)
        · first | (simp; done) | (simpa using h.q10) | (intro e; have hq := h.q10 (by simpa using e); simp [hq])
        · intro _; simp [k2, k6, k10]
        · first | (simp; done) | (simpa using h.q13) | (intro e; have hq := h.q13 (by simpa using e); simp [hq])
        · first | (simp; done) | (simpa using h.p12)
      · cases ho
        have hgB := h.grow hNs (World.grownBy_alloc w' (.cells #[.int .i64 0, .map none, .map none, .map none] 70) none)
        refine wpOp_plain rfl rfl ?_
        clear he
        generalize hK : (fun (a' : Act) (w' : World) => ∃ u1 u5 u6 u7 u8 u9 u10 u11 u12 u13 u14, _ ∧ S1 _ _ _ _ _ _ _ _ _ u1 u5 u6 u7 u8 u9 u10 u11 u12 u13 u14 w') = K
        unfold Oper.wp
        simp [execOp, go_sem]
        rw [← hK]
        refine ⟨_, _, _, _, _, _, _, _, _, _, _, rfl, ?_⟩
        clear hK
        constructor
        · exact hgB.gl
        · exact hgB.gr
        · first | (simp; done) | (simpa using hgB.p0)
        · first | (simp; done) | (simpa using hgB.p1)
        · first | (simp; done) | (simpa using hgB.p2)
        · first | (simp; done) | (simpa using hgB.p3)
        · first | (simp; done) | (simpa using hgB.p4)
        · first | (simp; done) | (simpa using hgB.p5)
        · first | (simp; done) | (simpa using hgB.p6)
        · first | (simp; done) | (simpa using hgB.p7)
        · first | (simp; done) | (simpa using hgB.d)
        · first | (simp; done) | (simpa using hgB.d2)
        · first | (simp; done) | (simpa using hgB.p10)
        · first | (simp; done) | (simpa using hgB.p11)
        · first | (simp; done) | (simpa using hgB.q8)
        · first | (simp; done) | (simpa using hgB.q9)
        · first | (simp; done) | (simpa using hgB.q10) | (intro e; have hq := hgB.q10 (by simpa using e); simp [hq])
        · first | (simp; done) | (simpa using hgB.q11) | (intro e; have hq := hgB.q11 (by simpa using e); simp [hq])
        · first | (simp; done) | (simpa using hgB.q13) | (intro e; have hq := hgB.q13 (by simpa using e); simp [hq])
        · intro _; refine ⟨w'.heap.size, rfl, hN1, (fun j => match j with | 0 => .int .i64 0 | _ => .map none), World.rowIs_alloc w' #[.int .i64 0, .map none, .map none, .map none] 70 _ (fun i hi => by rcases i with _ | _ | _ | _ | i <;> first | rfl | (simp at hi; omega)), fun e5 => absurd (h.q13 (by simpa using e5)).2 (by rw [hl]; simp)⟩
      · cases ho
        have k12 := he { on := 12, ground := .data } (by simp) (by rfl)
        have k11 := he { on := 11, ground := .data } (by simp) (by rfl)
        have k2 := (h.q11 k11).1
        have k6 := (h.q11 k11).2.1
        have k10 := (h.q11 k11).2.2
        have k7 := (h.q10 k10).1
        obtain rfl := h.p11 k11
        obtain ⟨m1, rfl, n1, M1⟩ := h.p2 k2
        obtain ⟨m2, rfl, n2, M2⟩ := h.p6 k6
        obtain ⟨m3, rfl, n3, M3⟩ := h.p7 k7
        obtain ⟨b, rfl, nb, f, rb, _⟩ := h.p12 k12
        have x0 := rb.cell (i := 0) (by omega)
        have x1 := rb.cell (i := 1) (by omega)
        have x2 := rb.cell (i := 2) (by omega)
        have x3 := rb.cell (i := 3) (by omega)
        have y0 := rb.frozen 0
        have y1 := rb.frozen 1
        have y2 := rb.frozen 2
        have y3 := rb.frozen 3
        refine wpOp_plain rfl rfl ?_
        clear he
        generalize hK : (fun (a' : Act) (w' : World) => ∃ u1 u5 u6 u7 u8 u9 u10 u11 u12 u13 u14, _ ∧ S1 _ _ _ _ _ _ _ _ _ u1 u5 u6 u7 u8 u9 u10 u11 u12 u13 u14 w') = K
        unfold Oper.wp
        simp [execOp, go_sem, x0, x1, x2, x3, y0, y1, y2, y3]
        rw [← hK]
        refine ⟨_, _, _, _, _, _, _, _, _, _, _, rfl, ?_⟩
        clear hK
        have hg2 : w'.grownBy ((((w'.setCell ⟨b, 0, none⟩ (.int .i64 0)).setCell ⟨b, 1, none⟩ (.map (some m1))).setCell ⟨b, 2, none⟩ (.map (some m2))).setCell ⟨b, 3, none⟩ (.map (some m3))) (some b) :=
          grown_sets (grown_sets (grown_sets (grown_setCell w' ⟨b, 0, none⟩ (.int .i64 0)) 1 (.map (some m1))) 2 (.map (some m2))) 3 (.map (some m3))
        have rb2 : ((((w'.setCell ⟨b, 0, none⟩ (.int .i64 0)).setCell ⟨b, 1, none⟩ (.map (some m1))).setCell ⟨b, 2, none⟩ (.map (some m2))).setCell ⟨b, 3, none⟩ (.map (some m3))).rowIs b 70 4 (fun j => match j with | 0 => .int .i64 0 | 1 => .map (some m1) | 2 => .map (some m2) | _ => .map (some m3)) :=
          ((((rb.set 0 _).set 1 _).set 2 _).set 3 _).congr (fun j hj => by rcases j with _ | _ | _ | _ | j <;> first | rfl | omega)
        constructor
        · exact h.gl.grown hg2 (by omega) (fun r hr => by cases hr; omega)
        · exact grown_row h.gr hg2 (by simpa using nb)
        · first | (simp; done) | (simpa using h.p0)
        · first | (simp; done) | (simpa using h.p1)
        · intro _; exact ⟨m1, rfl, n1, by simpa using M1.kept hg2 (by intro hc; injection hc with hc; exact M1.ne_row rb hc)⟩
        · first | (simp; done) | (simpa using h.p3)
        · first | (simp; done) | (simpa using h.p4)
        · first | (simp; done) | (simpa using h.p5)
        · intro _; exact ⟨m2, rfl, n2, by simpa using M2.kept hg2 (by intro hc; injection hc with hc; exact M2.ne_row rb hc)⟩
        · intro _; exact ⟨m3, rfl, n3, by simpa using M3.kept hg2 (by intro hc; injection hc with hc; exact M3.ne_row rb hc)⟩
        · first | (simp; done) | (simpa using h.d)
        · first | (simp; done) | (simpa using h.d2)
        · first | (simp; done) | (simpa using h.p10)
        · first | (simp; done) | (simpa using h.p11)
        · first | (simp; done) | (simpa using h.q8)
        · first | (simp; done) | (simpa using h.q9)
        · first | (simp; done) | (simpa using h.q10) | (intro e; have hq := h.q10 (by simpa using e); simp [hq])
        · first | (simp; done) | (simpa using h.q11) | (intro e; have hq := h.q11 (by simpa using e); simp [hq])
        · intro _; simp [k11, k12]
        · intro _; exact ⟨b, rfl, nb, _, rb2, fun _ => ⟨rfl, rfl, rfl, rfl⟩⟩
      · omega
    case hend =>
      intro l a w' hI hall
      obtain ⟨u1, u5, u6, u7, u8, u9, u10, u11, u12, u13, u14, rfl, h⟩ := hI
      obtain ⟨m1, rfl, n1, M1⟩ := h.p2 (hall 2 (by decide))
      obtain ⟨m2, rfl, n2, M2⟩ := h.p6 (hall 6 (by decide))
      have hne12 : m1 ≠ m2 := fun e => h.d2 (hall 2 (by decide)) (hall 6 (by decide)) (by rw [e])
      obtain ⟨m3, rfl, n3, M3⟩ := h.p7 (hall 7 (by decide))
      obtain ⟨b, rfl, nb, f, rb, hf⟩ := h.p12 (hall 12 (by decide))
      obtain ⟨f0, f1, f2, f3⟩ := hf (hall 13 (by decide))
      rw [hall 8 (by decide), hall 9 (by decide)] at M1
      have HF : Hid (LW (w.alloc (.cells #[.int .i64 0, .map none, .map none, .map none] 70)) w' b m1 m2 m3 2 0) := hide ⟨h.gr, M1, M2, M1.ne_row rb, M2.ne_row rb, hne12, f, rb, f0, f1, f2, f3⟩
      clear h hall M1 M2 M3 rb f0 f1 f2 f3
      refine hK' _ _ (Met.intro (hJ _ _ ?_))
      (repeat apply Exists.intro)
      refine ⟨⟨b, m1, m2, m3, rfl, nb, n1, n2, HF⟩, rfl⟩
  case rest =>
    obtain ⟨b, m1, m2, m3, rfl, nb, n1, n2, HF⟩ := hcut
    have g0 := World.grownBy_alloc w (.cells #[.int .i64 0, .map none, .map none, .map none] 70) none
    have hG1 := hG.grown g0 hN (fun r hr => by cases hr)
    have hN1 : N ≤ (w.alloc (.cells #[.int .i64 0, .map none, .map none, .map none] 70)).heap.size := by simp; omega
    have HG : Hid (∀ wx : World, (w.alloc (.cells #[.int .i64 0, .map none, .map none, .map none] 70)).grownBy wx none → Glob N wx g o c0 a1 c1) := hide (fun wx hx => hG1.grown hx hN1 (fun r hr => by cases hr))
    have HR : Hid (∀ wx : World, (w.alloc (.cells #[.int .i64 0, .map none, .map none, .map none] 70)).grownBy wx none → wx.rowIs w.heap.size 70 4 (fun j => match j with | 0 => .int .i64 0 | _ => .map none)) :=
      hide (fun wx hx => row_kept (World.rowIs_alloc w #[.int .i64 0, .map none, .map none, .map none] 70 _ (fun i hi => by rcases i with _ | _ | _ | _ | i <;> first | rfl | (simp at hi; omega))) hx (by simp))
    have HW : Hid (∀ wx : World, (w.alloc (.cells #[.int .i64 0, .map none, .map none, .map none] 70)).grownBy wx none → w.grownBy wx none) := hide (fun wx hx => grown_trans g0 hx)
    clear hG1 hN1 g0 hG
    have v0 := (unhide HG wc (unhide HF).gr).v0
    go_wp2_with fail
    clear v0
    go_loopw [17] (fun i wr => ∃ k : Nat, k ≤ 3 ∧ i = .int .i64 k ∧ Hid (LW (w.alloc (.cells #[.int .i64 0, .map none, .map none, .map none] 70)) wr b m1 m2 m3 (2 + k) 0)) (fun i _ => 3 - (intOf i).toNat)
    case atStart => exact ⟨0, by omega, rfl, HF⟩
    case round =>
      clear HF
      obtain ⟨k, hk, rfl, HL⟩ := hrel
      have hL := unhide HL
      by_cases hlt : k < 3
      · have hlt' : (k : Int) < 3 := by omega
        have ge := (unhide HG wr hL.gr).e k hlt
        obtain ⟨f, rb, f0, f1, f2, f3⟩ := hL.row
        have c1 := rb.cell (i := 1) (by omega)
        rw [f1] at c1
        obtain ⟨w2, hrun, hM2, hg2⟩ := hL.m1.put67 (by omega) (3 + (k : Int)) (by simp [Lit.wf, IntKind.min, IntKind.max, IntKind.signed, IntKind.bits]; omega)
        have HN : Hid (LW (w.alloc (.cells #[.int .i64 0, .map none, .map none, .map none] 70)) w2 b m1 m2 m3 (2 + (k + 1)) 0) := hide (hL.upd1 hM2 hg2 (by simp; omega))
        clear hL HL rb f0 f1 f2 f3 hM2 hg2
        go_wp2_with fail
        go_roundw
        case rel => exact ⟨k + 1, by omega, by go_num, HN⟩
        case measure => simp [intOf]; omega
      · have hk3 : k = 3 := by omega
        subst hk3
        clear hlt hk hL
        go_wp2_with fail
        go_loopw [4] (fun c wr => ∃ k : Nat, 1 ≤ k ∧ k ≤ 4 ∧ c = .int .u8 k ∧ Hid (LW (w.alloc (.cells #[.int .i64 0, .map none, .map none, .map none] 70)) wr b m1 m2 m3 5 k)) (fun c _ => 4 - (intOf c).toNat)
        case atStart => exact ⟨1, by omega, by omega, rfl, hide ((unhide HL).mono2 (by omega))⟩
        case round =>
          clear HL
          obtain ⟨k, hk1, hk, rfl, HL⟩ := hrel
          have hL := unhide HL
          have v1 := (unhide HG wr hL.gr).v1
          obtain ⟨f, rb, f0, f1, f2, f3⟩ := hL.row
          by_cases hlt : k < 4
          · have hlt' : (k : Int) < 4 := by omega
            have c2 := rb.cell (i := 2) (by omega)
            rw [f2] at c2
            obtain ⟨w2, hrun, hM2, hg2⟩ := hL.m2.put68 (by omega) (k : Int) (by simp [Lit.wf, IntKind.min, IntKind.max, IntKind.signed, IntKind.bits]; omega)
            have HN : Hid (LW (w.alloc (.cells #[.int .i64 0, .map none, .map none, .map none] 70)) w2 b m1 m2 m3 5 (k + 1)) := hide (hL.upd2 hM2 hg2 (by simp; omega))
            clear hL HL rb f0 f1 f2 f3 hM2 hg2
            go_wp2_with fail
            go_roundw
            case rel => exact ⟨k + 1, by omega, by omega, by go_num, HN⟩
            case measure => simp [intOf]; omega
          · have hk4 : k = 4 := by omega
            subst hk4
            have r0 := unhide HR wr hL.gr
            have x0 : wr.cell? ⟨b, 0, none⟩ = some (.int .i64 0) := by rw [← f0]; exact rb.cell (i := 0) (by omega)
            have x1 : wr.cell? ⟨b, 1, none⟩ = some (.map (some m1)) := by rw [← f1]; exact rb.cell (i := 1) (by omega)
            have x2 : wr.cell? ⟨b, 2, none⟩ = some (.map (some m2)) := by rw [← f2]; exact rb.cell (i := 2) (by omega)
            have x3 : wr.cell? ⟨b, 3, none⟩ = some (.map (some m3)) := by rw [← f3]; exact rb.cell (i := 3) (by omega)
            have y0 : wr.cell? ⟨w.heap.size, 0, none⟩ = some (.int .i64 0) := r0.cell (i := 0) (by omega)
            have y1 : wr.cell? ⟨w.heap.size, 1, none⟩ = some (.map none) := r0.cell (i := 1) (by omega)
            have y2 : wr.cell? ⟨w.heap.size, 2, none⟩ = some (.map none) := r0.cell (i := 2) (by omega)
            have y3 : wr.cell? ⟨w.heap.size, 3, none⟩ = some (.map none) := r0.cell (i := 3) (by omega)
            have z0 := r0.frozen 0
            have z1 := r0.frozen 1
            have z2 := r0.frozen 2
            have z3 := r0.frozen 3
            have HGW := hide (unhide HW wr hL.gr)
            clear hL HL rb f0 f1 f2 f3 r0 hlt hk hk1
            go_wp2_with fail
            refine bodyPost_ret (v := .agg #[.int .i64 0, .map (some m1), .map (some m2), .map (some m3)]) (by simp [results, Tryd.results18, go_sem, y0, y1, y2, y3]) rfl ⟨⟨_, _, _, rfl⟩, ?_⟩
            exact grown_set (grown_set (grown_set (grown_set (unhide HGW) _ (Nat.le_refl _) _) _ (Nat.le_refl _) _) _ (Nat.le_refl _) _) _ (Nat.le_refl _) _
end Go.Proofs.Qxb6614342aDoor.Leaves
