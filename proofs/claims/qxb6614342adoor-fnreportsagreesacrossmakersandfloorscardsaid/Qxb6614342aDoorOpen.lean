/-
  What the two rows of seat b6614342aD share: the laid variables opened, a slice of strings opened, the variables read again behind the call, a start that meets the condition.
-/
import Derived.Test.Qxb6614342aDoorRows
import Derived.Test.Qxb6614342aDoorLawOne
import Derived.ProofKit
import Derived.OpenShut
import Derived.ShutString
import Derived.ChangeOld
import Derived.Below
import Derived.SliceStrings
import Derived.LaidMore
import Derived.LaidHandle
import Derived.LaidLaws
import Derived.Stop.Joined
namespace Go.Proofs.Qxb6614342aDoor.Open
open Go.ChangeShapes Go.WideShapes Go.ChangeAt Go.RowKit Go.Proofs.Qxb6614342aDoor
open Go.ChangeMaps (open_string shut_string)
open Go.Proofs.Qxb6614342aDoor.Leaves
set_option linter.unusedVariables false

theorem own : ownKnob Tryd.prog.godebug = none := by kernel_rfl
theorem laidOut : laidOutB Tryd.prog = true := by kernel_rfl

/-- the two listed variables' names: finalStates and causeNames of the package lock -/
def n0 : String := Rows.fnReportsFollowsLastDetectAmongSpec.vars.headD ""
def n1 : String := Rows.fnReportsFollowsLastDetectAmongSpec.vars.tail.headD ""
/-- the list that both rows bear -/
def laid2 : List (String × DataW Unit) := [(n0, Rows.laid_example_com_lockwright_lockwright_internal_lock_finalStates), (n1, Rows.laid_example_com_lockwright_lockwright_internal_lock_causeNames)]

theorem g0 : Tryd.prog.globalNamed n0 = some 0 := by kernel_rfl
theorem g1 : Tryd.prog.globalNamed n1 = some 1 := by kernel_rfl
theorem t0 : (Tryd.prog.globals[0]?).map (·.type) = some 80 := by kernel_rfl
theorem t1 : (Tryd.prog.globals[1]?).map (·.type) = some 22 := by kernel_rfl

theorem add_plain (b off j : Nat) : (⟨b, off, none⟩ : Addr).add j = ⟨b, off + j, none⟩ := by
  unfold Addr.add
  split
  · next h => subst h; rfl
  · rfl

theorem cell_in {w : World} {a : Addr} {v : Value} (h : w.cell? a = some v) : a.block < w.heap.size := by
  unfold World.cell? at h
  by_cases hl : a.block < w.heap.size
  · exact hl
  · rw [Array.getElem?_eq_none (Nat.le_of_not_lt hl)] at h
    cases h

/-- What the listed condition gives the walks: the two cells, and the three states. -/
theorem glob_of_laid {W : World} (h : laidMetH Tryd.prog laid2 W) : ∃ g o c0 a1 c1, Glob W.heap.size W g o c0 a1 c1 := by
  rw [MakeChecks.laidMetH_plain _ _ _ (by kernel_rfl)] at h
  obtain ⟨ps, ⟨x0, y0, cs0, f0, p0, q0, hg0, ht0, hv0, hd0, ⟨x1, y1, cs1, f1, p1, q1, hg1, ht1, hv1, hd1, _, _⟩, _⟩, _, _⟩ := h
  obtain rfl := Option.some.inj (g0.symm.trans hg0)
  obtain rfl := Option.some.inj (g1.symm.trans hg1)
  obtain rfl := Option.some.inj (t0.symm.trans ht0)
  obtain rfl := Option.some.inj (t1.symm.trans ht1)
  obtain ⟨a0, c0, hc0, _, he0⟩ := open_row Tryd.underlying80 (by kernel_rfl) hd0
  obtain ⟨a1, c1, hc1, _, _⟩ := open_row Tryd.underlying22 (by kernel_rfl) hd1
  have k0 : W.cell? ⟨0, 0, none⟩ = some (.slice (some a0) 3 c0) := by
    have := World.var?_cell hg0 hv0 0
    rw [Array.eq_one_of_toList hc0] at this
    simpa using this
  have k1 : W.cell? ⟨1, 0, none⟩ = some (.slice (some a1) 4 c1) := by
    have := World.var?_cell hg1 hv1 0
    rw [Array.eq_one_of_toList hc1] at this
    simpa using this
  have each : ∀ (j : Nat) (z : Int), ([.lit (.int .u8 3), .lit (.int .u8 4), .lit (.int .u8 5)] : List (DataW Unit))[j]? = some (.lit (.int .u8 z)) → W.cell? (a0.add j) = some (.int .u8 z) := by
    intro j z hz
    obtain ⟨v, n, q, hv, hr⟩ := he0 j _ hz
    obtain ⟨k, e1, e2, _⟩ := DataW.trod_int Tryd.underlying81 hr
    simp only [Prod.mk.injEq, DataW.lit.injEq, Lit.int.injEq] at e2
    obtain ⟨⟨_, rfl⟩, _⟩ := e2
    rw [hv]
    simpa using e1
  obtain ⟨g, o, sp⟩ := a0
  have c3 := each 0 3 rfl
  have hsp : sp = none := World.cell?_spot c3
  subst hsp
  refine ⟨g, o, c0, some a1, c1, k0, k1, ?_, cell_in k1, cell_in c3⟩
  intro j hj
  match j, hj with
  | 0, _ => exact c3
  | 1, _ => exact add_plain g o 1 ▸ each 1 4 rfl
  | 2, _ => exact add_plain g o 2 ▸ each 2 5 rfl

/-- A slice of strings that came in. -/
theorem sl_of {H : Type} {enc : TypeId × Value → H} {W : World} {a : Option Addr} {len cap : Nat} {d : DataW H} {ps : List MemPlace}
    (h : DataW.Trod enc Tryd.prog W 0 (fun _ => true) true 22 (.slice a len cap) d ps) : Sl W.heap.size W (.slice a len cap) len := by
  obtain ⟨fuel, hf⟩ := h
  rcases open_strings Tryd.underlying22 Tryd.underlying9 (by kernel_rfl) hf with ⟨hcs, _⟩ | ⟨x, l, c, ss, hcs, _, hl, hm, hz, _, hcell, hws⟩
  · simp [Value.cells] at hcs
    obtain ⟨rfl, rfl, rfl⟩ := hcs
    exact .inl ⟨_, _, rfl, rfl⟩
  · simp [Value.cells] at hcs
    obtain ⟨rfl, rfl, rfl⟩ := hcs
    by_cases h0 : len = 0
    · subst h0
      exact .inl ⟨_, _, rfl, rfl⟩
    · have hz' : ss.length = cap := by simpa using hz
      obtain ⟨b, off, sp⟩ := x
      have c0 := hcell 0 (by omega)
      have hsp : sp = none := World.cell?_spot c0
      subst hsp
      refine .inr ⟨b, off, cap, rfl, cell_in c0, by unfold maxLen at hm; omega, ?_⟩
      intro j hj
      refine ⟨_, add_plain b off j ▸ hcell j (by omega), ?_⟩
      have hj' : j < ss.length := by omega
      have : ss.getD j ByteArray.empty ∈ ss := by
        rw [List.getD, List.getElem?_eq_getElem hj']
        exact List.getElem_mem hj'
      have := hws _ this
      unfold maxLen at this
      omega

theorem var_below {P : Program} {w w' : World} {n : String} {g B : Nat} {cs : Array Value} (h : w.var? P n = some cs) (hg : P.globalNamed n = some g) (hb : Below B w w') (hlt : g < B) : w'.var? P n = some cs := by
  unfold World.var? at h ⊢
  rw [hg] at h ⊢
  simp only [Option.bind_some] at h ⊢
  rw [hb.block g hlt]
  exact h

theorem var_in {P : Program} {w : World} {n : String} {g : Nat} {cs : Array Value} (h : w.var? P n = some cs) (hg : P.globalNamed n = some g) : g < w.heap.size := by
  unfold World.var? at h
  rw [hg] at h
  simp only [Option.bind_some] at h
  by_cases hl : g < w.heap.size
  · exact hl
  · rw [Array.getElem?_eq_none (Nat.le_of_not_lt hl)] at h
    cases h

/-- one variable read again behind the call -/
theorem again {H : Type} {enc : TypeId × Value → H} {P : Program} {t : TypeId} (hl : laidOutB P = true) (hr : P.readableRec t = true) (hrow : t < P.types.size) {W W' : World} {n : Nat} {cs : List Value} {d : DataW H} {ps : List MemPlace}
    (h : DataW.trod enc P W 0 (fun _ => true) true n t cs = some (d, ps)) (hb : Below W.heap.size W W') :
    DataW.trod enc P W' 0 (fun b => decide (b < W.heap.size)) true n t cs = some (d, ps) := by
  have hlt := DataW.trod_lt _ _ _ _ h
  exact DataW.trod_stays (kids_book hl hr) (book_sized hr) (fun h => by cases h) ⟨hrow, book_self t⟩ h (fun x hx => hb.same (hlt x hx)) (fun x hx => by simpa using hlt x hx)

/-- the two variables read again behind the call -/
theorem vars_again {H : Type} {enc : TypeId × Value → H} {W W' : World} {gs : List (DataW H)} {q : List MemPlace} (h : DataW.TrodVars enc Tryd.prog W (fun _ => true) [n0, n1] gs q) (hb : Below W.heap.size W W') :
    DataW.TrodVars enc Tryd.prog W' (fun b => decide (b < W.heap.size)) [n0, n1] gs q := by
  obtain ⟨x0, y0, cs0, f0, d0, p0, x1, y1, cs1, f1, d1, p1, rfl, hg0, ht0, hv0, hd0, hg1, ht1, hv1, hd1, rfl⟩ := trodVars_two h
  obtain rfl := Option.some.inj (t0.symm.trans ((Option.some.inj (g0.symm.trans hg0)) ▸ ht0))
  obtain rfl := Option.some.inj (t1.symm.trans ((Option.some.inj (g1.symm.trans hg1)) ▸ ht1))
  refine ⟨x0, 80, cs0, f0, p0, _, hg0, ht0, var_below hv0 hg0 hb (var_in hv0 hg0), again laidOut (by kernel_rfl) (of_decide_eq_true (by kernel_rfl)) hd0 hb,
    trodVars_mk1 hg1 ht1 (var_below hv1 hg1 hb (var_in hv1 hg1)) (again laidOut (by kernel_rfl) (of_decide_eq_true (by kernel_rfl)) hd1 hb), ?_⟩
  simp

/-- The door's own heap meets the condition. -/
theorem door_met (os : Os) (args : Array Value) : laidMetH Tryd.prog laid2 ((World.doorLaid Tryd.prog 400 os).forCall (fun _ _ => 0) ⟨#[], args, []⟩).memory :=
  laidMetH_of_parts3 (fuel := 8) (laidMet_of_run' 8 (by kernel_rfl) (by kernel_rfl)) (by kernel_rfl) (by kernel_rfl)

end Go.Proofs.Qxb6614342aDoor.Open
