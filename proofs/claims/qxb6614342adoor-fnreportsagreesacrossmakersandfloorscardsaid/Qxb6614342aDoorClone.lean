/-
  slices.Clone at []string and (*Manager).DetectAmong, by contracts. (Seat b6614342aD.)
-/
import Derived.Test.Qxb6614342aDoorLeaves
namespace Go.Proofs.Qxb6614342aDoor.Leaves
open Go.RowKit Go.Deep Go.Proofs.Qxb6614342aDoor
set_option linter.unusedVariables false

theorem info9 : (Tryd.prog.info? 9).map (fun i => (i.zero, i.size, i.bytes)) = some (some (.string ⟨#[]⟩), 1, 16) := by kernel_rfl

/-- the call has answered a slice of n cells -/
def IsSlice (e : Ending) (n : Nat) : Prop := ∃ a c, e = .returned (.slice a n c)

/-- of what was there nothing has turned -/
theorem grown_none {w w' : World} {o : Obj} (h : (w.alloc o).grownBy w' (some w.heap.size)) : w.grownBy w' none :=
  ⟨h.os, h.tape, h.output, by have := h.size; simp at this; omega, fun k hk _ => (h.block k (by simp; omega) (by intro e; injection e with e; omega)).trans (Below.heap_alloc _ _ _ hk)⟩

theorem clone_nil (c : Nat) (w : World) : Calls Tryd.prog 15 #[.slice none 0 c] w fun e w' => IsSlice e 0 ∧ w.grownBy w' none := by
  have q := fun wx => Lib.run_eql_slice_nil (P := Tryd.prog) wx 22 9 none 0 c 0 0 Tryd.underlying22
  go_enter Tryd.func15, Tryd.ntmps15
  go_wp2
  go_ret
  exact ⟨⟨_, _, rfl⟩, ⟨rfl, rfl, rfl, Nat.le_refl _, fun _ _ _ => rfl⟩⟩

theorem clone_empty (x : Addr) (c : Nat) (w : World) : Calls Tryd.prog 15 #[.slice (some x) 0 c] w fun e w' => IsSlice e 0 ∧ w.grownBy w' none := by
  have q := fun wx => Lib.run_eql_slice_nil (P := Tryd.prog) wx 22 9 (some x) 0 c 0 0 Tryd.underlying22
  go_enter Tryd.func15, Tryd.ntmps15
  go_wp2
  go_ret
  exact ⟨⟨_, _, rfl⟩, World.grownBy_alloc w _ none⟩

set_option maxHeartbeats 1000000 in
theorem clone_some (b off n c : Nat) (w : World) (hb : b < w.heap.size) (h0 : 0 < n) (hn : n ≤ 65536)
    (hc : ∀ j, j < n → ∃ s : ByteArray, w.cell? ⟨b, off + j, none⟩ = some (.string s) ∧ s.size ≤ 9223372036854775807) :
    Calls Tryd.prog 15 #[.slice (some ⟨b, off, none⟩) n c] w fun e w' => IsSlice e n ∧ w.grownBy w' none := by
  have q := fun wx => Lib.run_eql_slice_nil (P := Tryd.prog) wx 22 9 (some ⟨b, off, none⟩) n c 0 0 Tryd.underlying22
  obtain ⟨i0, hi, hz0, hz1, hz2⟩ := info_parts info9
  -- the cells to be copied, as a list
  obtain ⟨news, hl, hnews⟩ : ∃ news : List Value, news.length = n ∧ ∀ j u, news[j]? = some u → w.cell? ⟨b, off + j, none⟩ = some u ∧ u.oneCell' = true := by
    refine ⟨(List.range n).map (fun j => (w.cell? ⟨b, off + j, none⟩).getD undef), by simp, fun j u hj => ?_⟩
    rw [List.getElem?_map] at hj
    obtain ⟨j', hj', rfl⟩ := Option.map_eq_some_iff.1 hj
    have hlt : j < n := by
      have := (List.getElem?_eq_some_iff.1 hj').1
      simpa using this
    have : j' = j := by
      rw [List.getElem?_range hlt] at hj'
      exact (Option.some.inj hj').symm
    subst this
    obtain ⟨s, e1, _⟩ := hc j' hlt
    rw [e1]
    exact ⟨rfl, rfl⟩
  clear hc
  have HN := hide hnews
  clear hnews
  go_enter Tryd.func15, Tryd.ntmps15
  go_wp2_with (at_builtin; refine wpList_append_lies _ rfl _ _ 22 rfl w.heap.size 9 i0 (.string ⟨#[]⟩) 1 16 Tryd.underlying22 hi hz0 hz1 hz2 rfl (by decide) (.slice (some ⟨w.heap.size, 0, none⟩) 0 0) 0 [] rfl ?hown ⟨b, off, none⟩ n c news rfl ?hl ?hnews ?h1 h0 ?h63 ?hby ?hbase (w.heap.size + 1) (by simp) ?_)
  case hown => exact ⟨rfl, .inr ⟨w.heap.size, 0, #[], rfl, Nat.le_refl _, (MapKept.heap_alloc w _).1, Nat.le_refl _, by decide, rfl, rfl⟩⟩
  case hl => simp [hl]
  case hnews =>
    intro j u hj
    rw [Go.WideShapes.add_plain, World.cell?_alloc_lt _ _ _ hb]
    exact (unhide HN j u hj).1
  case h1 =>
    intro u hu
    obtain ⟨j, hj⟩ := List.getElem?_of_mem hu
    exact (unhide HN j u hj).2
  case h63 => unfold maxLen; omega
  case hby => omega
  case hbase => simp
  intro g cap w' hown' hg hor hlt
  clear hown' hor
  go_wp2_with fail
  go_ret
  exact ⟨⟨_, _, rfl⟩, grown_none hg⟩

theorem clone_any (N n : Nat) (v : Value) (w : World) (h : Sl N w v n) (hN : N ≤ w.heap.size) (hn : n ≤ 65536) :
    Calls Tryd.prog 15 #[v] w fun e w' => IsSlice e n ∧ w.grownBy w' none := by
  rcases h with ⟨a, c, rfl, rfl⟩ | ⟨b, off, c, rfl, hb, _, hc⟩
  · cases a with
    | none => exact clone_nil c w
    | some x => exact clone_empty x c w
  · by_cases h0 : n = 0
    · subst h0; exact clone_empty _ c w
    · exact clone_some b off n c w (by omega) (by omega) hn hc

theorem Mgr.lt {w : World} {b n : Nat} {p : Int} (h : Mgr w b p n) : b < w.heap.size := by obtain ⟨f, hr, _⟩ := h; exact hr.lt
theorem Mgr.of_block {w w' : World} {b n : Nat} {p : Int} (h : Mgr w b p n) (e : w'.heap[b]? = w.heap[b]?) : Mgr w' b p n := by
  obtain ⟨f, hr, r⟩ := h; exact ⟨f, hr.of_block e, r⟩
theorem Mgr.grown {w w' : World} {b n : Nat} {p : Int} {row : Option Nat} (h : Mgr w b p n) (g : w.grownBy w' row) (hne : some b ≠ row) : Mgr w' b p n :=
  h.of_block (g.block b h.lt hne)
theorem Sl.below {N B : Nat} {w w' : World} {v : Value} {n : Nat} (h : Sl N w v n) (hb : Below B w w') (hN : N ≤ B) : Sl N w' v n := by
  rcases h with h | ⟨b, off, c, rfl, hlt, hn, hc⟩
  · exact .inl h
  · exact .inr ⟨b, off, c, rfl, hlt, hn, fun j hj => by
      obtain ⟨s, e1, e2⟩ := hc j hj
      exact ⟨s, (hb.cell (by show b < B; omega)).trans e1, e2⟩⟩
theorem Mgr.set20 {w : World} {b n : Nat} {p : Int} (h : Mgr w b p n) (a : Option Addr) (m c : Nat) : Mgr (w.setCell ⟨b, 20, none⟩ (.slice a m c)) b p m := by
  obtain ⟨f, hr, h2, h20, h15, h17⟩ := h
  exact ⟨_, hr.set 20 _, by simpa using h2, ⟨a, c, by simp⟩, by simpa using h15, by simpa using h17⟩
theorem Mgr.set15 {w : World} {b n : Nat} {p : Int} (h : Mgr w b p n) (x : Int) : Mgr (w.setCell ⟨b, 15, none⟩ (.int .u64 x)) b p n := by
  obtain ⟨f, hr, h2, h20, h15, h17⟩ := h
  exact ⟨_, hr.set 15 _, by simpa using h2, by simpa using h20, ⟨x, by simp⟩, by simpa using h17⟩
theorem Mgr.set17 {w : World} {b n : Nat} {p : Int} (h : Mgr w b p n) (x : Int) : Mgr (w.setCell ⟨b, 17, none⟩ (.int .u64 x)) b p n := by
  obtain ⟨f, hr, h2, h20, h15, h17⟩ := h
  exact ⟨_, hr.set 17 _, by simpa using h2, by simpa using h20, by simpa using h15, ⟨x, by simp⟩⟩
theorem grown_setCell (w : World) (a : Addr) (v : Value) : w.grownBy (w.setCell a v) (some a.block) :=
  ⟨rfl, rfl, rfl, by simp [World.setCell], fun k hk hne => Below.heap_setCell _ _ _ _ (fun e => hne (by rw [e]))⟩
theorem grown_trans {a b c : World} {row : Option Nat} (h : a.grownBy b none) (g : b.grownBy c row) : a.grownBy c row :=
  ⟨g.os.trans h.os, g.tape.trans h.tape, g.output.trans h.output, Nat.le_trans h.size g.size, fun k hk hne => (g.block k (Nat.lt_of_lt_of_le hk h.size) hne).trans (h.block k hk (by simp))⟩

set_option maxHeartbeats 1000000 in
theorem detect_any (N b n m : Nat) (p : Int) (v : Value) (w : World) (hM : Mgr w b p m) (h : Sl N w v n) (hN : N ≤ w.heap.size) (hn : n ≤ 65536) :
    Calls Tryd.prog 9 #[.pointer (some ⟨b, 0, none⟩), v] w fun e w' => e = .returned (.tuple #[]) ∧ Mgr w' b p n ∧ w.grownBy w' (some b) := by
  go_enter Tryd.func9, Tryd.ntmps9
  go_wp2_with fail
  refine (clone_any N n v _ h hN hn).mono ?_
  rintro e w1 ⟨⟨a, c, rfl⟩, g1⟩
  have hM1 := hM.grown g1 (by simp)
  obtain ⟨f, hr, hrest⟩ := hM1
  have c20 := hr.cell (i := 20) (by omega)
  obtain ⟨_, ⟨a', c', e20⟩, _⟩ := hrest
  rw [e20] at c20
  have f20 := hr.frozen 20
  have H := hide (hM.grown g1 (by simp))
  have G := hide g1
  clear hr e20 hM h g1
  go_wp2_with fail
  go_end0
  exact ⟨rfl, (unhide H).set20 a n c, grown_trans (unhide G) (grown_setCell _ _ _)⟩

set_option maxHeartbeats 1000000 in
theorem fences_any (b n : Nat) (p x : Int) (w : World) (hM : Mgr w b p n) :
    Calls Tryd.prog 12 #[.pointer (some ⟨b, 0, none⟩), .int .u64 x] w fun e w' => e = .returned (.tuple #[]) ∧ Mgr w' b p n ∧ w.grownBy w' (some b) := by
  obtain ⟨f, hr, _, _, ⟨y, e15⟩, _⟩ := id hM
  have c15 := hr.cell (i := 15) (by omega)
  rw [e15] at c15
  have f15 := hr.frozen 15
  have H := hide hM
  clear hr e15 hM
  go_enter Tryd.func12, Tryd.ntmps12
  go_wp2
  all_goals (go_end0; exact ⟨rfl, (unhide H).set15 _, grown_setCell _ _ _⟩)
set_option maxHeartbeats 1000000 in
theorem copies_any (b n : Nat) (p x : Int) (w : World) (hM : Mgr w b p n) :
    Calls Tryd.prog 13 #[.pointer (some ⟨b, 0, none⟩), .int .u64 x] w fun e w' => e = .returned (.tuple #[]) ∧ Mgr w' b p n ∧ w.grownBy w' (some b) := by
  obtain ⟨f, hr, _, _, _, ⟨y, e17⟩⟩ := id hM
  have c17 := hr.cell (i := 17) (by omega)
  rw [e17] at c17
  have f17 := hr.frozen 17
  have H := hide hM
  clear hr e17 hM
  go_enter Tryd.func13, Tryd.ntmps13
  go_wp2
  all_goals (go_end0; exact ⟨rfl, (unhide H).set17 _, grown_setCell _ _ _⟩)
end Go.Proofs.Qxb6614342aDoor.Leaves
