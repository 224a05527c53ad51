/-
  The overhead of the pod that LawS2573BModel builds: what is known of memory while it is laid in.
-/
import Derived.Test.YbulkbagmPod
namespace Go.Proofs.Ybulkbagm
open Go.RowKit Go.Maps

/-- w: the world as the call began; wB: as the overhead's loop began. -/
structure Oh (w wB wr : World) (has : Nat → Bool) (amt : Nat → Int) (k : Nat) (mo : Option Nat) : Prop where
  blk : ∀ i, i < wB.heap.size → i ≠ w.heap.size + 1 → wr.heap[i]? = wB.heap[i]?
  pod : ∀ j, j ≠ 8 → wr.cell? ⟨w.heap.size + 1, j, none⟩ = wB.cell? ⟨w.heap.size + 1, j, none⟩
  p8 : wr.cell? ⟨w.heap.size + 1, 8, none⟩ = some (.map mo)
  fz : ∀ j, wr.frozen? ⟨w.heap.size + 1, j, none⟩ = false
  vo : ResV wr mo (part has amt k)
  lo : ∀ b, mo = some b → wB.heap.size ≤ b
  bel : Below w.heap.size w wr
  size : wB.heap.size ≤ wr.heap.size
  sz : w.heap.size + 2 ≤ wB.heap.size

theorem oh_start {x y : Nat} {w wB : World} {o : OV} {Li La : List Cn} {ia aa : Option Addr} {ic ac : Nat} {f : Fn} (h : Ph x y w wB o Li La ia aa ic ac none f) (has : Nat → Bool) (amt : Nat → Int) : Oh w wB wB has amt 0 none :=
  ⟨fun _ _ _ => rfl, fun _ _ => rfl, h.p8, h.fz, ResV.nil _, fun b e => (by cases e), h.bel, Nat.le_refl _, h.sz⟩

theorem Oh.cell {w wB wr : World} {has : Nat → Bool} {amt : Nat → Int} {k : Nat} {mo : Option Nat} (h : Oh w wB wr has amt k mo) {i j : Nat} (hi : i < wB.heap.size) (hne : i ≠ w.heap.size + 1) : wr.cell? ⟨i, j, none⟩ = wB.cell? ⟨i, j, none⟩ :=
  World.cell?_of_block (w := wB) (a := ⟨i, j, none⟩) (h.blk i hi hne)

theorem Oh.skip {w wB wr : World} {has : Nat → Bool} {amt : Nat → Int} {k : Nat} {mo : Option Nat} (h : Oh w wB wr has amt k mo) (hh : has k = false) : Oh w wB wr has amt (k + 1) mo :=
  { h with vo := by rw [part_no hh]; exact h.vo }

theorem Oh.store {w wB wr w' : World} {has : Nat → Bool} {amt : Nat → Int} {k b : Nat} (h : Oh w wB wr has amt k (some b)) (hh : has k = true) (hr : Res w' b (fset (part has amt k) (nm k) (amt k))) (hg : wr.grownBy w' (some b)) : Oh w wB w' has amt (k + 1) (some b) := by
  have hsz := h.sz
  have hsize := h.size
  have hb := h.lo b rfl
  have old : ∀ i, i < wB.heap.size → w'.heap[i]? = wr.heap[i]? := fun i hi => hg.block i (by omega) (fun e => by have := Option.some.inj e; omega)
  have cell : ∀ i j, i < wB.heap.size → w'.cell? ⟨i, j, none⟩ = wr.cell? ⟨i, j, none⟩ := fun i j hi => World.cell?_of_block (w := wr) (a := ⟨i, j, none⟩) (old i hi)
  exact ⟨fun i hi hne => (old i hi).trans (h.blk i hi hne), fun j hj => by rw [cell _ _ (by omega)]; exact h.pod j hj, by rw [cell _ _ (by omega)]; exact h.p8,
    fun j => (World.frozen?_of_block (w := wr) (a := ⟨w.heap.size + 1, j, none⟩) (old (w.heap.size + 1) (by omega))).trans (h.fz j), by rw [part_yes hh]; exact hr.v, h.lo, h.bel.grown hg h.bel.size (fun j hj => by cases hj; omega), by have := hg.size; omega, h.sz⟩

theorem Oh.make {w wB wr : World} {has : Nat → Bool} {amt : Nat → Int} {k : Nat} (h : Oh w wB wr has amt k none) :
    Oh w wB ((wr.setCell ⟨w.heap.size + 1, 8, none⟩ (.map (some wr.heap.size))).alloc (.map #[] 0)) has amt k (some wr.heap.size) := by
  have hsz := h.sz
  have hsize := h.size
  have hz : (wr.setCell ⟨w.heap.size + 1, 8, none⟩ (.map (some wr.heap.size))).heap.size = wr.heap.size := by simp [World.setCell]
  have hnew : Res ((wr.setCell ⟨w.heap.size + 1, 8, none⟩ (.map (some wr.heap.size))).alloc (.map #[] 0)) wr.heap.size (fun _ => none) := by
    have := Res.made (wr.setCell ⟨w.heap.size + 1, 8, none⟩ (.map (some wr.heap.size)))
    rw [hz] at this
    exact this
  refine ⟨fun i hi hne => ?_, fun j hj => ?_, ?_, fun j => ?_, by rw [resV_none h.vo]; exact hnew.v, fun b e => by cases e; omega, ?_, by rw [World.size_alloc, hz]; omega, h.sz⟩
  · rw [Below.heap_alloc _ _ _ (by rw [hz]; omega), Below.heap_setCell _ _ _ _ hne]
    exact h.blk i hi hne
  · rw [World.cell?_alloc_past _ _ _ (by rw [hz]; omega), World.cell?_setCell_other _ _ _ _ (fun e => hj (by cases e; rfl))]
    exact h.pod j hj
  · rw [World.cell?_alloc_past _ _ _ (by rw [hz]; omega), World.cell?_setCell_same _ _ _ h.p8]
  · rw [World.frozen?_alloc_past _ _ _ (by rw [hz]; omega), World.frozen?_setCell]
    exact h.fz j
  · exact (h.bel.setCell (p := ⟨w.heap.size + 1, 8, none⟩) (by show w.heap.size ≤ w.heap.size + 1; omega) _).alloc (by rw [hz]; omega) _

theorem Oh.resV {w wB wr : World} {has : Nat → Bool} {amt : Nat → Int} {k : Nat} {mo m : Option Nat} {f : Fn} (h : Oh w wB wr has amt k mo) (hm : ResV wB m f) {v : Value} {j : Nat} (hp : wB.cell? ⟨w.heap.size + 1, j, none⟩ = some v) : ResV wr m f := by
  have hne := hm.ne_cell hp
  have hlt := hm.lt
  rcases hm with hm | ⟨b, e, D, ⟨es, clock, h1, h2⟩, h3⟩
  · exact Or.inl hm
  · exact Or.inr ⟨b, e, D, ⟨es, clock, (h.blk b (hlt b e) (hne b e)).trans h1, h2⟩, h3⟩

theorem Oh.conts {x y : Nat} {w wB wr : World} {o : OV} {Li La : List Cn} {ia aa : Option Addr} {ic ac : Nat} {f : Fn} {has : Nat → Bool} {amt : Nat → Int} {k : Nat} {mo : Option Nat} (h : Oh w wB wr has amt k mo) (hp : Ph x y w wB o Li La ia aa ic ac none f) : Conts wr ia Li := by
  have hri := hp.ri
  have hlt := hri.lt
  have hc := conts_of hp.ri hp.vi
  intro i hi
  obtain ⟨b, e, hb, c0, c1, c2, c3, r1, r2⟩ := hc i hi
  have hb2 : w.heap.size + 2 ≤ b := (hlt b (by rw [e]; rfl)).1
  have hsize := h.size
  exact ⟨b, e, by omega, by rw [h.cell hb (by omega)]; exact c0, by rw [h.cell hb (by omega)]; exact c1, by rw [h.cell hb (by omega)]; exact c2, by rw [h.cell hb (by omega)]; exact c3, h.resV r1 hp.p8, h.resV r2 hp.p8⟩

end Go.Proofs.Ybulkbagm
