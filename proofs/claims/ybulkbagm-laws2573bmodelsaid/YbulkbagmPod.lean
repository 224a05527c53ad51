/-
  The pod that LawS2573BModel builds: what is known of memory while it is built.
-/
import Derived.Test.YbulkbagmBldW
import Derived.Maps.AppendAt
import Derived.Deep.RegionLaw
import Derived.Lib.SmallJoins
namespace Go.Proofs.Ybulkbagm
open Go.RowKit Go.Maps

/-- The overhead of the law's own kind. -/
structure OV where
  amt : Nat → Int
  has : Nat → Bool

def OV.cells (o : OV) : Array Value := #[.int .u32 (o.amt 0), .int .u32 (o.amt 1), .int .u32 (o.amt 2), .bool (o.has 0), .bool (o.has 1), .bool (o.has 2)]
def OV.ok (o : OV) : Prop := ∀ i, i < 3 → 0 ≤ o.amt i ∧ o.amt i ≤ 4294967295

theorem ov_amt (o : OV) (k : Nat) (hk : k < 3) : o.cells[k]? = some (.int .u32 (o.amt k)) := by
  have h : k = 0 ∨ k = 1 ∨ k = 2 := by omega
  rcases h with rfl | rfl | rfl <;> rfl
theorem ov_has (o : OV) (k : Nat) (hk : k < 3) : o.cells[3 + k]? = some (.bool (o.has k)) := by
  have h : k = 0 ∨ k = 1 ∨ k = 2 := by omega
  rcases h with rfl | rfl | rfl <;> rfl

/-- The container that is built of c; m: its two maps' blocks. -/
def mk (c : CV) (m : Option Nat × Option Nat) : Cn :=
  { name := ⟨#[]⟩, pol := polOf c.side, mq := m.1, ml := m.2, fq := part c.hasReq c.req 3, fl := part c.hasLim c.lim 3 }

def cellsOf (n : Cn) : List Value := [.string n.name, .map n.mq, .map n.ml, .string n.pol]
def flat (L : List Cn) : List Value := L.flatMap cellsOf
def Alive (w : World) (L : List Cn) : Prop := ∀ n ∈ L, ResV w n.mq n.fq ∧ ResV w n.ml n.fl

theorem flat_len (L : List Cn) : (flat L).length = L.length * 4 := by
  induction L with
  | nil => rfl
  | cons a r ih => simp [flat, cellsOf] at ih ⊢; omega

theorem flat_at : ∀ (L : List Cn) (i : Nat) (h : i < L.length), (flat L)[4 * i]? = some (.string L[i].name) ∧ (flat L)[4 * i + 1]? = some (.map L[i].mq) ∧ (flat L)[4 * i + 2]? = some (.map L[i].ml) ∧ (flat L)[4 * i + 3]? = some (.string L[i].pol)
  | [], i, h => by simp at h
  | a :: r, 0, h => ⟨rfl, rfl, rfl, rfl⟩
  | a :: r, i + 1, h => by
    have ih := flat_at r i (by simpa using h)
    have e : ∀ j, (flat (a :: r))[4 * (i + 1) + j]? = (flat r)[4 * i + j]? := fun j => by
      show (cellsOf a ++ flat r)[4 * (i + 1) + j]? = _
      rw [List.getElem?_append_right (by simp [cellsOf]; omega)]
      congr 1
      simp [cellsOf]
      omega
    have e0 := e 0
    simp only [Nat.add_zero] at e0
    rw [e0, e 1, e 2, e 3]
    exact ih

theorem flat_snoc (L : List Cn) (x : Cn) : flat (L ++ [x]) = flat L ++ cellsOf x := by simp [flat]

structure Ph (x y : Nat) (w wr : World) (o : OV) (Li La : List Cn) (ia aa : Option Addr) (ic ac : Nat) (mo : Option Nat) (fo : Fn) : Prop where
  oc : ∀ j, j < 6 → wr.cell? ⟨w.heap.size, j, none⟩ = o.cells[j]?
  px : wr.cell? ⟨w.heap.size + 1, x, none⟩ = some (.slice ia Li.length ic)
  py : wr.cell? ⟨w.heap.size + 1, y, none⟩ = some (.slice aa La.length ac)
  p8 : wr.cell? ⟨w.heap.size + 1, 8, none⟩ = some (.map mo)
  fz : ∀ j, wr.frozen? ⟨w.heap.size + 1, j, none⟩ = false
  ri : wr.ownsRow (w.heap.size + 2) 48 4 (.slice ia Li.length ic) Li.length (flat Li)
  ra : wr.ownsRow (w.heap.size + 2) 48 4 (.slice aa La.length ac) La.length (flat La)
  ap : ∀ g g' : Addr, ia = some g → aa = some g' → g.block ≠ g'.block
  vi : Alive wr Li
  va : Alive wr La
  vo : ResV wr mo fo
  bel : Below w.heap.size w wr
  sz : w.heap.size + 2 ≤ wr.heap.size

theorem Ph.swap {x y : Nat} {w wr : World} {o : OV} {Li La : List Cn} {ia aa : Option Addr} {ic ac : Nat} {mo : Option Nat} {fo : Fn} (h : Ph x y w wr o Li La ia aa ic ac mo fo) : Ph y x w wr o La Li aa ia ac ic mo fo :=
  ⟨h.oc, h.py, h.px, h.p8, h.fz, h.ra, h.ri, fun g g' e e' => (h.ap g' g e' e).symm, h.va, h.vi, h.vo, h.bel, h.sz⟩

theorem Res.ne_block {w : World} {b g : Nat} {f : Fn} {c : Array Value} {t : TypeId} {fr : Nat × Nat} (h : Res w b f) (hg : w.heap[g]? = some (.cells c t fr)) : b ≠ g := by
  obtain ⟨D, ⟨es, clock, hb, _⟩, _⟩ := h
  intro e
  rw [e, hg] at hb
  cases hb

theorem Res.ne_cell {w : World} {b g o : Nat} {f : Fn} {v : Value} (h : Res w b f) (hg : w.cell? ⟨g, o, none⟩ = some v) : b ≠ g := by
  unfold World.cell? at hg
  split at hg
  · rename_i hh
    exact h.ne_block hh
  · cases hg

theorem ResV.ne_cell {w : World} {m : Option Nat} {g o : Nat} {f : Fn} {v : Value} (h : ResV w m f) (hg : w.cell? ⟨g, o, none⟩ = some v) : ∀ b, m = some b → b ≠ g := by
  intro b e
  subst e
  exact (resV_some h).ne_cell hg

/-- Nothing that was there has turned. -/
theorem Ph.later {x y : Nat} {w wr w' : World} {o : OV} {Li La : List Cn} {ia aa : Option Addr} {ic ac : Nat} {mo : Option Nat} {fo : Fn} (h : Ph x y w wr o Li La ia aa ic ac mo fo) (hb : Below wr.heap.size wr w') : Ph x y w w' o Li La ia aa ic ac mo fo := by
  have hsz := h.sz
  have hg : wr.grownBy w' none := ⟨hb.os, hb.tape, hb.output, hb.size, fun i hi _ => hb.block i hi⟩
  have cell : ∀ z j, z < w.heap.size + 2 → w'.cell? ⟨z, j, none⟩ = wr.cell? ⟨z, j, none⟩ := fun z j hz => hb.cell (p := ⟨z, j, none⟩) (by show z < _; omega)
  refine ⟨fun j hj => by rw [cell _ _ (by omega)]; exact h.oc j hj, by rw [cell _ _ (by omega)]; exact h.px, by rw [cell _ _ (by omega)]; exact h.py, by rw [cell _ _ (by omega)]; exact h.p8,
    fun j => by rw [hb.frozen (by show w.heap.size + 1 < _; omega)]; exact h.fz j, h.ri.kept hg ?_, h.ra.kept hg ?_, h.ap, fun n hn => ?_, fun n hn => ?_, h.vo.below hb h.vo.lt, h.bel.trans (hb.mono (by omega)), by have := hb.size; omega⟩
  · cases ia <;> simp [Value.ownBlock]
  · cases aa <;> simp [Value.ownBlock]
  · exact ⟨(h.vi n hn).1.below hb (h.vi n hn).1.lt, (h.vi n hn).2.below hb (h.vi n hn).2.lt⟩
  · exact ⟨(h.va n hn).1.below hb (h.va n hn).1.lt, (h.va n hn).2.below hb (h.va n hn).2.lt⟩

/-- One container has been appended to the row of field x, and the slice stored back. -/
theorem Ph.app {x y : Nat} {w wr w2 : World} {o : OV} {Li La : List Cn} {ia aa : Option Addr} {ic ac : Nat} {mo : Option Nat} {fo : Fn} (h : Ph x y w wr o Li La ia aa ic ac mo fo) (hxy : x ≠ y) (hx8 : x ≠ 8) (n : Cn) (hn : ResV wr n.mq n.fq ∧ ResV wr n.ml n.fl)
    {g cap : Nat} (hrow : w2.ownsRow (w.heap.size + 2) 48 4 (.slice (some ⟨g, 0, none⟩) (Li.length + 1) cap) (Li.length + 1) (flat Li ++ cellsOf n)) (hg : wr.grownBy w2 (Value.ownBlock (.slice ia Li.length ic))) (hloc : some g = Value.ownBlock (.slice ia Li.length ic) ∨ g = wr.heap.size) :
    Ph x y w (w2.setCell ⟨w.heap.size + 1, x, none⟩ (.slice (some ⟨g, 0, none⟩) (Li.length + 1) cap)) o (Li ++ [n]) La (some ⟨g, 0, none⟩) aa cap ac mo fo := by
  have hsz := h.sz
  have hri := h.ri.lt
  have hra := h.ra.lt
  have hgb : w.heap.size + 2 ≤ g := (hrow.lt g rfl).1
  have old : ∀ z, z < w.heap.size + 2 → w2.heap[z]? = wr.heap[z]? := fun z hz => hg.block z (by omega) (fun e => by have := (hri z e.symm).1; omega)
  have cell : ∀ z j, z < w.heap.size + 2 → w2.cell? ⟨z, j, none⟩ = wr.cell? ⟨z, j, none⟩ := fun z j hz => World.cell?_of_block (w := wr) (old z hz)
  have frz : ∀ z j, z < w.heap.size + 2 → w2.frozen? ⟨z, j, none⟩ = wr.frozen? ⟨z, j, none⟩ := fun z j hz => World.frozen?_of_block (w := wr) (old z hz)
  have res : ∀ m f, ResV wr m f → ResV (w2.setCell ⟨w.heap.size + 1, x, none⟩ (.slice (some ⟨g, 0, none⟩) (Li.length + 1) cap)) m f := fun m f hm => by
    refine ResV.setCell (hm.kept hg (fun b e e' => ?_)) (fun b e => hm.ne_cell h.p8 b e) _
    subst e
    rcases h.ri.2 with ⟨hv, _⟩ | ⟨g', cap', cur, hv, _, hh, _⟩
    · rw [hv] at e'; cases e'
    · rw [hv] at e'
      simp only [Value.ownBlock, Option.some.injEq] at e'
      exact (resV_some hm).ne_block hh e'
  have len1 : (Li ++ [n]).length = Li.length + 1 := by simp
  refine ⟨fun j hj => ?_, ?_, ?_, ?_, fun j => ?_, ?_, ?_, ?_, fun n' hn' => ?_, fun n' hn' => ⟨res _ _ (h.va n' hn').1, res _ _ (h.va n' hn').2⟩, res _ _ h.vo, ?_, ?_⟩
  · rw [World.cell?_setCell_other _ _ _ _ (fun e => by simp at e), cell _ _ (by omega)]; exact h.oc j hj
  · rw [World.cell?_setCell_same _ _ _ ((cell _ _ (by omega)).trans h.px), len1]
  · rw [World.cell?_setCell_other _ _ _ _ (fun e => hxy (by cases e; rfl)), cell _ _ (by omega)]; exact h.py
  · rw [World.cell?_setCell_other _ _ _ _ (fun e => hx8 (by cases e; rfl)), cell _ _ (by omega)]; exact h.p8
  · rw [World.frozen?_setCell, frz _ _ (by omega)]; exact h.fz j
  · rw [len1, flat_snoc]
    exact ownsRow_setCell_below hrow (by show w.heap.size + 1 < _; omega) _
  · refine ownsRow_setCell_below (h.ra.kept hg ?_) (by show w.heap.size + 1 < _; omega) _
    cases aa with
    | none => exact Or.inl rfl
    | some g' =>
      refine Or.inr (fun e => ?_)
      cases ia with
      | none => simp [Value.ownBlock] at e
      | some g0 =>
        simp only [Value.ownBlock, Option.some.injEq] at e
        exact h.ap g0 g' rfl rfl e.symm
  · intro g1 g' e e'
    cases e
    show g ≠ g'.block
    rcases hloc with e1 | e1
    · cases ia with
      | none => simp [Value.ownBlock] at e1
      | some g0 =>
        simp only [Value.ownBlock, Option.some.injEq] at e1
        rw [e1]
        exact h.ap g0 g' rfl e'
    · subst e'
      have := (hra g'.block rfl).2
      omega
  · rcases List.mem_append.1 hn' with hm | hm
    · exact ⟨res _ _ (h.vi n' hm).1, res _ _ (h.vi n' hm).2⟩
    · simp at hm
      subst hm
      exact ⟨res _ _ hn.1, res _ _ hn.2⟩
  · refine (h.bel.grown hg (by omega) (fun j hj => ?_)).setCell (p := ⟨w.heap.size + 1, x, none⟩) (by show w.heap.size ≤ w.heap.size + 1; omega) _
    have := (hri j hj).1
    omega
  · have := hg.size
    have e : (w2.setCell ⟨w.heap.size + 1, x, none⟩ (.slice (some ⟨g, 0, none⟩) (Li.length + 1) cap)).heap.size = w2.heap.size := by simp [World.setCell]
    rw [e]
    omega

/-- An append onto the row of field x leaves the pod's own cells. -/
theorem Ph.grown_pod {x y : Nat} {w wr w2 : World} {o : OV} {Li La : List Cn} {ia aa : Option Addr} {ic ac : Nat} {mo : Option Nat} {fo : Fn} (h : Ph x y w wr o Li La ia aa ic ac mo fo) (hg : wr.grownBy w2 (Value.ownBlock (.slice ia Li.length ic))) :
    w2.cell? ⟨w.heap.size + 1, x, none⟩ = some (.slice ia Li.length ic) ∧ w2.frozen? ⟨w.heap.size + 1, x, none⟩ = false := by
  have hsz := h.sz
  have hri := h.ri.lt
  have old : w2.heap[w.heap.size + 1]? = wr.heap[w.heap.size + 1]? := hg.block _ (by omega) (fun e => by have := (hri _ e.symm).1; omega)
  exact ⟨(World.cell?_of_block (w := wr) (a := ⟨w.heap.size + 1, x, none⟩) old).trans h.px, (World.frozen?_of_block (w := wr) (a := ⟨w.heap.size + 1, x, none⟩) old).trans (h.fz x)⟩

/-- What 'requests' asks of the row. -/
theorem conts_of {wr : World} {base : Nat} {L : List Cn} {ia : Option Addr} {ic : Nat} (hr : wr.ownsRow base 48 4 (.slice ia L.length ic) L.length (flat L)) (hv : Alive wr L) : Conts wr ia L := by
  intro i hi
  rcases hr.2 with ⟨_, h0⟩ | ⟨g, cap, cur, he, _, hh, _⟩
  · omega
  · cases he
    have hcell := hr.cells (g := g) rfl
    have hadd : ∀ j, (⟨g, 0, none⟩ : Addr).add j = ⟨g, j, none⟩ := fun j => by unfold Addr.add; split <;> simp_all
    obtain ⟨f0, f1, f2, f3⟩ := flat_at L i hi
    have c0 := hcell _ _ f0
    have c1 := hcell _ _ f1
    have c2 := hcell _ _ f2
    have c3 := hcell _ _ f3
    rw [hadd] at c0 c1 c2 c3
    exact ⟨g, rfl, (Array.getElem?_eq_some_iff.1 hh).1, c0, c1, c2, c3, hv _ (List.getElem_mem hi)⟩

/-! ### the two calls of the appending statement, as steps of a region that draws -/
theorem enter6 (args : Array Value) (w : World) : (callFunc 6 args).run Yba.prog w = .ok (.enter 6 args) w := by kernel_rfl

theorem step_bld {ops : Array Oper} {o : Oper} {a : Act} {w : World} {K : Act → World → Prop} {Q : Exit → Act → World → Prop} {E : Prop}
    (hg : o.guard = none) (s : Operand) (hop : o.op = Op.call { callee := Callee.value (Operand.func 6), args := #[s], argTypes := #[46] }) (c : CV) (hc : c.ok) (hs : a.eval s = .agg c.cells)
    (hK : ∀ mq ml w', ResV w' mq (part c.hasReq c.req 3) → ResV w' ml (part c.hasLim c.lim 3) → Below w.heap.size w w' → K (a.put o.dst (.agg #[.string ⟨#[]⟩, .map mq, .map ml, .string (polOf c.side)])) w') :
    if Region.wanted o (yielded ops a.tmps) = true then Oper.wp Yba.prog o a w K Q else E := by
  have hw : Region.wanted o (yielded ops a.tmps) = true := by simp [Region.wanted, hg]
  rw [if_pos hw]
  unfold Oper.wp
  have hrun : (execOp a.eval o).run Yba.prog w = .ok (.enter 6 #[.agg c.cells]) w := by
    have e1 : a.eval (Operand.func 6) = .func (.func 6) #[] #[] := rfl
    simp only [execOp, hop, resolve, e1, Deferred.ofValue, List.map_toArray, List.map_cons, List.map_nil, hs, Sem.run_bind, Sem.run_pure, Result.andThen_ok, invoke, Array.empty_append, Array.append_empty]
    exact enter6 _ _
  rw [hrun, Oper.upon_enter]
  refine (bld_any c hc w).mono ?_
  rintro e w' ⟨mq, ml, rfl, h1, h2, h3⟩
  exact hK mq ml w' h1 h2 h3

theorem info48 : (Yba.prog.info? 48).map (fun i => (i.zero, i.size, i.bytes)) = some (some (.agg #[.string ⟨#[]⟩, .map none, .map none, .string ⟨#[]⟩]), 4, 48) := by kernel_rfl

theorem step_app {ops : Array Oper} {o : Oper} {a : Act} {w : World} {K : Act → World → Prop} {Q : Exit → Act → World → Prop} {E : Prop}
    (hg : o.guard = none) (s x : Operand) (hop : o.op = Op.call { callee := Callee.builtin Builtin.append, args := #[s, x], argTypes := #[30, 30] })
    (base : Nat) (ia : Option Addr) (ic n : Nat) (xs : List Value) (hs : a.eval s = .slice ia n ic) (hown : w.ownsRow base 48 4 (.slice ia n ic) n xs) (r : Nat) (hx : a.eval x = .slice (some ⟨r, 0, none⟩) 1 1)
    (m : Cn) (hr : ∀ j u, (cellsOf m)[j]? = some u → w.cell? ⟨r, j, none⟩ = some u) (hn : n ≤ 1024) (hbase : base ≤ w.heap.size)
    (hK : ∀ g cap w', w'.ownsRow base 48 4 (.slice (some ⟨g, 0, none⟩) (n + 1) cap) (n + 1) (xs ++ cellsOf m) → w.grownBy w' (Value.ownBlock (.slice ia n ic)) → (some g = Value.ownBlock (.slice ia n ic) ∨ g = w.heap.size) → K (a.put o.dst (.slice (some ⟨g, 0, none⟩) (n + 1) cap)) w') :
    if Region.wanted o (yielded ops a.tmps) = true then Oper.wp Yba.prog o a w K Q else E := by
  have hw : Region.wanted o (yielded ops a.tmps) = true := by simp [Region.wanted, hg]
  rw [if_pos hw]
  obtain ⟨i0, hi, hz0, hz1, hz2⟩ := info_parts info48
  have hadd : ∀ j, (⟨r, 0, none⟩ : Addr).add j = ⟨r, j, none⟩ := fun j => by unfold Addr.add; split <;> simp_all
  obtain ⟨v', w', hrun, r1, r2, _, r4⟩ := run_append_own_at (P := Yba.prog) w base 30 o.type 48 i0 _ 4 48 Yba.underlying30 hi hz0 hz1 hz2 rfl (by decide) (.slice ia n ic) n xs hown ⟨r, 0, none⟩ 1 1 (cellsOf m) (by simp [cellsOf]) (fun j u hj => by rw [hadd]; exact hr j u hj)
    (fun u hu => by simp [cellsOf] at hu; rcases hu with rfl | rfl | rfl | rfl <;> rfl) (by unfold maxLen; omega) (by omega) hbase
  obtain ⟨g, cap, rfl⟩ := Joins.ownsRow_form r1 (by omega)
  unfold Oper.wp execOp
  simp only [hop, resolve, invoke, builtin, Sem.run_bind, Sem.run_pure, Result.andThen_ok, List.map_toArray, List.map_cons, List.map_nil, hs, hx, hrun]
  refine hK g cap w' r1 r2 ?_
  rcases r4 with h | h
  · exact Or.inl h
  · exact Or.inr (by simpa [Value.ownBlock] using h)

end Go.Proofs.Ybulkbagm
