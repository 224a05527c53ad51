/-
  zzs2573bbuild: the walk.
-/
import Derived.Test.YbulkbagmParts
import Derived.WalkSpells
import Derived.Deep.RegionWith
import Derived.Deep.DeepCutAuto
namespace Go.Proofs.Ybulkbagm
open Go.RowKit Go.Maps

/-- The amounts of the first k resources that are there. -/
def part (has : Nat → Bool) (amt : Nat → Int) : Nat → Fn
  | 0 => fun _ => none
  | k + 1 => if has k = true then fset (part has amt k) (nm k) (amt k) else part has amt k

theorem nm_names (k : Nat) (hk : k < 3) : (nmS k).data.toList ∈ names := by
  have h : k = 0 ∨ k = 1 ∨ k = 2 := by omega
  rcases h with rfl | rfl | rfl <;> decide

theorem nmS_list (k : Nat) : (nmS k).data.toList = nm k := by simp [nmS]

/-- 'm[k] = v' as an equation, behind a draw. -/
theorem Res.store {w : World} {b : Nat} {f : Fn} (h : Res w b f) (k : Nat) (hk : k < 3) (c : Int) (h0 : 0 ≤ c) (h1 : c ≤ top) :
    ∃ w', (Instr.mapUpdate 32 (.map (some b)) (.string (nmS k)) (.int .i64 c)).run Yba.prog w.drew = .ok () w' ∧ Res w' b (fset f (nm k) c) ∧ w.grownBy w' (some b) := by
  obtain ⟨D, ho, hview, hgood⟩ := h
  have hs := nm_names k hk
  obtain ⟨w', hrun, ho', hg'⟩ := ho.drew.update law9 Yba.underlying32 (by unfold maxLen; omega) (hkey9 hs) (plainElem_int Yba.underlying2 (wf_of h0 h1))
  have hv' := hview.put ho.isMap (nmS k).data.toList c
  have hg2 := hgood.set hs h0 h1
  have hsz := hv'.size_le (ho'.canon law9) hg2
  rw [nmS_list] at hv' hg2 ho'
  refine ⟨w', hrun, ⟨_, ?_, hv', hg2⟩, ⟨hg'.os, hg'.tape, hg'.output, hg'.size, hg'.block⟩⟩
  rw [nmS_list] at hsz
  obtain ⟨es, clock, e1, e2, e3, e4⟩ := ho'
  refine ⟨es, clock, e1, e2, ?_, e4⟩
  rw [e4] at hsz
  simpa [Maps.size, length_sorted] using hsz

/-- What is known behind k rounds. w: the world as the call began. -/
structure St (w wr : World) (c : CV) (pol : ByteArray) (kq kl : Nat) (mq ml : Option Nat) : Prop where
  q : ResV wr mq (part c.hasReq c.req kq)
  l : ResV wr ml (part c.hasLim c.lim kl)
  o0 : wr.cell? ⟨w.heap.size + 1 + 1, 0, none⟩ = some (.string ⟨#[]⟩)
  o1 : wr.cell? ⟨w.heap.size + 1 + 1, 1, none⟩ = some (.map mq)
  o2 : wr.cell? ⟨w.heap.size + 1 + 1, 2, none⟩ = some (.map ml)
  o3 : wr.cell? ⟨w.heap.size + 1 + 1, 3, none⟩ = some (.string pol)
  fo : ∀ j, wr.frozen? ⟨w.heap.size + 1 + 1, j, none⟩ = false
  bc : ∀ j, j < 12 → wr.cell? ⟨w.heap.size, j, none⟩ = c.cells[j]?
  br : ∀ j, wr.cell? ⟨w.heap.size + 1, j, none⟩ = (#[.string ⟨#[]⟩, .map none, .map none, .string ⟨#[]⟩] : Array Value)[j]?
  fr : ∀ j, wr.frozen? ⟨w.heap.size + 1, j, none⟩ = false
  apart : ∀ b, mq = some b → ml ≠ some b
  loq : ∀ b, mq = some b → w.heap.size + 3 ≤ b
  lol : ∀ b, ml = some b → w.heap.size + 3 ≤ b
  bel : Below w.heap.size w wr
  sz : w.heap.size + 3 ≤ wr.heap.size

theorem cv_req (c : CV) (k : Nat) (hk : k < 3) : c.cells[k]? = some (.int .u32 (c.req k)) := by
  have h : k = 0 ∨ k = 1 ∨ k = 2 := by omega
  rcases h with rfl | rfl | rfl <;> rfl
theorem cv_hasReq (c : CV) (k : Nat) (hk : k < 3) : c.cells[3 + k]? = some (.bool (c.hasReq k)) := by
  have h : k = 0 ∨ k = 1 ∨ k = 2 := by omega
  rcases h with rfl | rfl | rfl <;> rfl
theorem cv_lim (c : CV) (k : Nat) (hk : k < 3) : c.cells[6 + k]? = some (.int .u32 (c.lim k)) := by
  have h : k = 0 ∨ k = 1 ∨ k = 2 := by omega
  rcases h with rfl | rfl | rfl <;> rfl
theorem cv_hasLim (c : CV) (k : Nat) (hk : k < 3) : c.cells[9 + k]? = some (.bool (c.hasLim k)) := by
  have h : k = 0 ∨ k = 1 ∨ k = 2 := by omega
  rcases h with rfl | rfl | rfl <;> rfl

def polOf (b : Bool) : ByteArray := if b = true then ⟨#[65, 108, 119, 97, 121, 115]⟩ else ⟨#[]⟩

theorem part_yes {has : Nat → Bool} {amt : Nat → Int} {k : Nat} (h : has k = true) : part has amt (k + 1) = fset (part has amt k) (nm k) (amt k) := by
  unfold part; rw [if_pos h]; cases k <;> rfl
theorem part_no {has : Nat → Bool} {amt : Nat → Int} {k : Nat} (h : has k = false) : part has amt (k + 1) = part has amt k := by
  show (if has k = true then _ else _) = _
  rw [if_neg (by rw [h]; decide)]

/-- All that St says of blocks outlives a world that turns the one block b, a map's. -/
theorem St.turn {w wr w' : World} {c : CV} {pol : ByteArray} {kq kl kq' kl' : Nat} {mq ml : Option Nat} (h : St w wr c pol kq kl mq ml) {b : Nat} (hb : w.heap.size + 3 ≤ b) (hg : wr.grownBy w' (some b))
    (hq : ResV w' mq (part c.hasReq c.req kq')) (hl : ResV w' ml (part c.hasLim c.lim kl')) : St w w' c pol kq' kl' mq ml := by
  have hsz := h.sz
  have cell : ∀ x o, x < w.heap.size + 3 → w'.cell? ⟨x, o, none⟩ = wr.cell? ⟨x, o, none⟩ := fun x o hx =>
    World.cell?_of_block (w := wr) (hg.block x (by omega) (fun e => by have := Option.some.inj e; omega))
  have frz : ∀ x o, x < w.heap.size + 3 → w'.frozen? ⟨x, o, none⟩ = wr.frozen? ⟨x, o, none⟩ := fun x o hx =>
    World.frozen?_of_block (w := wr) (hg.block x (by omega) (fun e => by have := Option.some.inj e; omega))
  exact ⟨hq, hl, by rw [cell _ _ (by omega)]; exact h.o0, by rw [cell _ _ (by omega)]; exact h.o1, by rw [cell _ _ (by omega)]; exact h.o2, by rw [cell _ _ (by omega)]; exact h.o3,
    fun j => by rw [frz _ _ (by omega)]; exact h.fo j, fun j hj => by rw [cell _ _ (by omega)]; exact h.bc j hj, fun j => by rw [cell _ _ (by omega)]; exact h.br j, fun j => by rw [frz _ _ (by omega)]; exact h.fr j,
    h.apart, h.loq, h.lol, h.bel.grown hg h.bel.size (fun j hj => by cases hj; omega), by have := hg.size; omega⟩

theorem St.storeQ {w wr w' : World} {c : CV} {pol : ByteArray} {k kl b : Nat} {ml : Option Nat} (h : St w wr c pol k kl (some b) ml) (hh : c.hasReq k = true) (hr : Res w' b (fset (part c.hasReq c.req k) (nm k) (c.req k))) (hg : wr.grownBy w' (some b)) : St w w' c pol (k + 1) kl (some b) ml :=
  h.turn (h.loq b rfl) hg (by rw [part_yes hh]; exact hr.v) (h.l.kept hg (fun b' e e' => by cases e'; exact h.apart b rfl e))

theorem St.storeL {w wr w' : World} {c : CV} {pol : ByteArray} {kq k b : Nat} {mq : Option Nat} (h : St w wr c pol kq k mq (some b)) (hh : c.hasLim k = true) (hr : Res w' b (fset (part c.hasLim c.lim k) (nm k) (c.lim k))) (hg : wr.grownBy w' (some b)) : St w w' c pol kq (k + 1) mq (some b) :=
  h.turn (h.lol b rfl) hg (h.q.kept hg (fun b' e e' => by cases e'; exact h.apart b e rfl)) (by rw [part_yes hh]; exact hr.v)

theorem resV_none {w : World} {f : Fn} (h : ResV w none f) : f = fun _ => none := by
  rcases h with ⟨_, h⟩ | ⟨_, h, _⟩
  · exact h
  · cases h
theorem resV_some {w : World} {b : Nat} {f : Fn} (h : ResV w (some b) f) : Res w b f := by
  rcases h with ⟨h, _⟩ | ⟨_, h, h'⟩
  · cases h
  · cases h; exact h'

theorem ResV.setCell {w : World} {m : Option Nat} {f : Fn} (h : ResV w m f) {a : Addr} (ha : ∀ b, m = some b → b ≠ a.block) (u : Value) : ResV (w.setCell a u) m f := by
  rcases h with h | ⟨b, e, D, h1, h2⟩
  · exact Or.inl h
  · exact Or.inr ⟨b, e, D, h1.setCell (ha b e) u, h2⟩

/-- out.Requests | out.Limits = Resources{}. x: which of the two cells. -/
theorem St.make {w wr : World} {c : CV} {pol : ByteArray} {kq kl : Nat} {mq ml mq' ml' : Option Nat} (h : St w wr c pol kq kl mq ml) (x : Nat)
    (hx : (x = 1 ∧ mq = none ∧ mq' = some wr.heap.size ∧ ml' = ml) ∨ (x = 2 ∧ ml = none ∧ ml' = some wr.heap.size ∧ mq' = mq)) :
    St w ((wr.setCell ⟨w.heap.size + 1 + 1, x, none⟩ (.map (some wr.heap.size))).alloc (.map #[] 0)) c pol kq kl mq' ml' := by
  have hsz := h.sz
  have hz : (wr.setCell ⟨w.heap.size + 1 + 1, x, none⟩ (.map (some wr.heap.size))).heap.size = wr.heap.size := by simp [World.setCell]
  have hq0 : ResV ((wr.setCell ⟨w.heap.size + 1 + 1, x, none⟩ (.map (some wr.heap.size))).alloc (.map #[] 0)) mq (part c.hasReq c.req kq) := (h.q.setCell (fun b e => by have := h.loq b e; show b ≠ w.heap.size + 1 + 1; omega) _).alloc _
  have hl0 : ResV ((wr.setCell ⟨w.heap.size + 1 + 1, x, none⟩ (.map (some wr.heap.size))).alloc (.map #[] 0)) ml (part c.hasLim c.lim kl) := (h.l.setCell (fun b e => by have := h.lol b e; show b ≠ w.heap.size + 1 + 1; omega) _).alloc _
  have hnew : Res ((wr.setCell ⟨w.heap.size + 1 + 1, x, none⟩ (.map (some wr.heap.size))).alloc (.map #[] 0)) wr.heap.size (fun _ => none) := by
    have := Res.made (wr.setCell ⟨w.heap.size + 1 + 1, x, none⟩ (.map (some wr.heap.size)))
    rw [hz] at this
    exact this
  have cell : ∀ y o, y < w.heap.size + 3 → (y ≠ w.heap.size + 1 + 1 ∨ o ≠ x) → ((wr.setCell ⟨w.heap.size + 1 + 1, x, none⟩ (.map (some wr.heap.size))).alloc (.map #[] 0)).cell? ⟨y, o, none⟩ = wr.cell? ⟨y, o, none⟩ := fun y o hy hne => by
    rw [World.cell?_alloc_past _ _ _ (by rw [hz]; omega), World.cell?_setCell_other _ _ _ _ (fun e => by cases e; omega)]
  have frz : ∀ y o, y < w.heap.size + 3 → ((wr.setCell ⟨w.heap.size + 1 + 1, x, none⟩ (.map (some wr.heap.size))).alloc (.map #[] 0)).frozen? ⟨y, o, none⟩ = wr.frozen? ⟨y, o, none⟩ := fun y o hy => by
    rw [World.frozen?_alloc_past _ _ _ (by rw [hz]; omega), World.frozen?_setCell]
  have bel : Below w.heap.size w ((wr.setCell ⟨w.heap.size + 1 + 1, x, none⟩ (.map (some wr.heap.size))).alloc (.map #[] 0)) :=
    (h.bel.setCell (p := ⟨w.heap.size + 1 + 1, x, none⟩) (by show w.heap.size ≤ w.heap.size + 1 + 1; omega) _).alloc (by rw [hz]; omega) _
  have ltq := h.q.lt
  have ltl := h.l.lt
  rcases hx with ⟨rfl, rfl, rfl, rfl⟩ | ⟨rfl, rfl, rfl, rfl⟩
  · refine ⟨?_, hl0, by rw [cell _ _ (by omega) (by simp)]; exact h.o0, ?_, by rw [cell _ _ (by omega) (by simp)]; exact h.o2, by rw [cell _ _ (by omega) (by simp)]; exact h.o3,
      fun j => by rw [frz _ _ (by omega)]; exact h.fo j, fun j hj => by rw [cell _ _ (by omega) (Or.inl (by omega))]; exact h.bc j hj, fun j => by rw [cell _ _ (by omega) (Or.inl (by omega))]; exact h.br j, fun j => by rw [frz _ _ (by omega)]; exact h.fr j,
      fun b e e' => ?_, fun b e => by cases e; omega, h.lol, bel, by rw [World.size_alloc, hz]; omega⟩
    · rw [resV_none h.q]; exact hnew.v
    · rw [World.cell?_alloc_past _ _ _ (by rw [hz]; omega), World.cell?_setCell_same _ _ _ h.o1]
    · cases e; have := ltl _ e'; omega
  · refine ⟨hq0, ?_, by rw [cell _ _ (by omega) (by simp)]; exact h.o0, by rw [cell _ _ (by omega) (by simp)]; exact h.o1, ?_, by rw [cell _ _ (by omega) (by simp)]; exact h.o3,
      fun j => by rw [frz _ _ (by omega)]; exact h.fo j, fun j hj => by rw [cell _ _ (by omega) (Or.inl (by omega))]; exact h.bc j hj, fun j => by rw [cell _ _ (by omega) (Or.inl (by omega))]; exact h.br j, fun j => by rw [frz _ _ (by omega)]; exact h.fr j,
      fun b e e' => ?_, h.loq, fun b e => by cases e; omega, bel, by rw [World.size_alloc, hz]; omega⟩
    · rw [resV_none h.l]; exact hnew.v
    · rw [World.cell?_alloc_past _ _ _ (by rw [hz]; omega), World.cell?_setCell_same _ _ _ h.o2]
    · cases e'; have := ltq _ e; omega

theorem St.skipQ {w wr : World} {c : CV} {pol : ByteArray} {k kl : Nat} {mq ml : Option Nat} (h : St w wr c pol k kl mq ml) (hh : c.hasReq k = false) : St w wr c pol (k + 1) kl mq ml :=
  { h with q := by rw [part_no hh]; exact h.q }
theorem St.skipL {w wr : World} {c : CV} {pol : ByteArray} {kq k : Nat} {mq ml : Option Nat} (h : St w wr c pol kq k mq ml) (hh : c.hasLim k = false) : St w wr c pol kq (k + 1) mq ml :=
  { h with l := by rw [part_no hh]; exact h.l }

end Go.Proofs.Ybulkbagm
