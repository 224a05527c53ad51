/-
  A map from strings to pointers (map[string]*PriorityClass), told by a plain function from the name to the pointed block's number.
-/
import Derived.Test.YbulkbagmFmtRows
import Derived.WalkKit
import Derived.ProofKit
import Derived.Maps.OwnSet
namespace Go.Proofs.YbulkbagmFmt
open Go.RowKit Go.Maps
open Go.WideMaps (keyOf_string_mk)

theorem law9 : Keyed Ybaf.prog 9 := string_keyed Ybaf.underlying9
theorem zero25 (w : World) : (zeroValue 25).run Ybaf.prog w = .ok (.pointer none) w := by kernel_rfl

/-- How a pointer to a block's head reads: through no place. -/
def ptrElem : Value → Option (DataW Unit × List MemPlace)
  | .pointer none => some (.nil, [])
  | .pointer (some ⟨b, 0, none⟩) => some (.lit (.int .u64 b), [])
  | _ => none

/-- The pointer to the head of the block, or nil. -/
def ptrOf : Option Nat → Value
  | none => .pointer none
  | some b => .pointer (some ⟨b, 0, none⟩)

theorem ptrElem_nil : ptrElem (.pointer none) = some (.nil, []) := rfl
theorem ptrElem_some (b : Nat) : ptrElem (.pointer (some ⟨b, 0, none⟩)) = some (.lit (.int .u64 b), []) := rfl

theorem ptrElem_inv_nil {v : Value} {ps : List MemPlace} (h : ptrElem v = some (.nil, ps)) : v = .pointer none := by
  unfold ptrElem at h
  split at h
  · rfl
  · cases h
  · cases h

theorem ptrElem_inv_some {v : Value} {b : Nat} {ps : List MemPlace} (h : ptrElem v = some (.lit (.int .u64 b), ps)) : v = .pointer (some ⟨b, 0, none⟩) := by
  unfold ptrElem at h
  split at h
  · cases h
  · rename_i b'
    simp only [Option.some.injEq, Prod.mk.injEq, DataW.lit.injEq, Lit.int.injEq] at h
    have : b' = b := by omega
    rw [this]
  · cases h

abbrev Fn := List UInt8 → Option Nat

def fset (f : Fn) (k : List UInt8) (v : Nat) : Fn := fun z => if z = k then some v else f z

structure View (D : DataW Unit) (f : Fn) : Prop where
  keys : ∀ kl, has D kl = true → ∃ s, kl = .string s ∧ (f s).isSome = true
  vals : ∀ s v, f s = some v → ∀ z, D.atKey (.string s) z = .lit (.int .u64 (v : Int))

theorem View.has {D : DataW Unit} {f : Fn} (h : View D f) (s : List UInt8) : has D (.string s) = (f s).isSome := by
  cases e : f s with
  | none =>
    cases hh : Maps.has D (.string s) with
    | false => rfl
    | true => obtain ⟨s', e1, e2⟩ := h.keys _ hh; cases e1; rw [e] at e2; cases e2
  | some v => exact has_true_of_atKey (h.vals s v e)

theorem View.put {D : DataW Unit} {f : Fn} (h : View D f) (hm : IsMap D) (s : List UInt8) (v : Nat) : View (D.put (.string s) (.lit (.int .u64 (v : Int)))) (fset f s v) := by
  constructor
  · intro kl hk
    by_cases e : kl = .string s
    · exact ⟨s, e, by simp [fset]⟩
    · rw [has_put_other e] at hk
      obtain ⟨s', e1, e2⟩ := h.keys _ hk
      refine ⟨s', e1, ?_⟩
      unfold fset
      split
      · rfl
      · exact e2
  · intro s' v' hs z
    unfold fset at hs
    split at hs
    · rename_i e; subst e; cases hs; exact atKey_put_same hm (k := .string s') trivial _ _
    · rename_i e
      rw [atKey_put_other (fun e1 => e (by cases e1; rfl))]
      exact h.vals _ _ hs z

theorem View.empty : View (.map []) (fun _ => none) := ⟨fun _ h => (by cases h), fun _ _ h => (by cases h)⟩

/-- BLOCK b OF w IS A MAP OF AT MOST n ENTRIES THAT HOLDS f. -/
def Mp (w : World) (b n : Nat) (f : Fn) : Prop := ∃ D : DataW Unit, w.ownsMap Ybaf.prog 9 ptrElem b n D ∧ View D f

theorem Mp.lt {w : World} {b n : Nat} {f : Fn} (h : Mp w b n f) : b < w.heap.size := let ⟨_, o, _⟩ := h; o.lt
theorem Mp.alloc {w : World} {b n : Nat} {f : Fn} (h : Mp w b n f) (o : Obj) : Mp (w.alloc o) b n f := let ⟨D, h1, h2⟩ := h; ⟨D, h1.alloc o, h2⟩
theorem Mp.setCell {w : World} {b n : Nat} {f : Fn} (h : Mp w b n f) {a : Addr} (ha : b ≠ a.block) (u : Value) : Mp (w.setCell a u) b n f := let ⟨D, h1, h2⟩ := h; ⟨D, h1.setCell ha u, h2⟩
theorem Mp.heap {w w' : World} {b n : Nat} {f : Fn} (h : Mp w b n f) (hb : w'.heap[b]? = w.heap[b]?) : Mp w' b n f := by
  obtain ⟨D, ⟨es, clock, h1, h2⟩, hv⟩ := h
  exact ⟨D, ⟨es, clock, hb.trans h1, h2⟩, hv⟩
theorem Mp.made (w : World) : Mp (w.alloc (.map #[] 0)) w.heap.size 0 (fun _ => none) := ⟨.map [], World.ownsMap_made _ _ _ _, View.empty⟩

theorem turned_size {w w' : World} {b : Nat} (h : w.mapTurned w' b) : w'.heap.size = w.heap.size := by
  obtain ⟨es, clock, es', clock', _, rfl⟩ := h
  simp [ChangeMaps.setBlock]

/-- 'm[k]': the pointer that f names, or nil. -/
theorem Mp.look {w : World} {b n : Nat} {f : Fn} (h : Mp w b n f) {s : ByteArray} (hs : s.size ≤ maxLen) :
    (Instr.lookup 54 (.map (some b)) (.string s) false).run Ybaf.prog w = .ok (ptrOf (f s.data.toList)) w := by
  obtain ⟨D, ho, hview⟩ := h
  obtain ⟨v, ps, hrun, hv⟩ := ho.lookup law9 Ybaf.underlying54 (zero25 w) ptrElem_nil (keyOf_string_mk Ybaf.underlying9 hs)
  rw [hrun]
  cases e : f s.data.toList with
  | none =>
    rw [atKey_of_not_has (by rw [hview.has, e]; rfl)] at hv
    rw [ptrElem_inv_nil hv]
    rfl
  | some x =>
    rw [hview.vals _ _ e] at hv
    rw [ptrElem_inv_some hv]
    rfl

section
variable (w : World) {ops : Array Oper} {rest : List Oper} {o : Oper} {a : Act} {Q : Exit → Act → World → Prop}

/-- 'm[k] = p'. -/
theorem wpList_update_mp (hg : o.guard = none) (m x v : Operand) (hop : o.op = Op.mapUpdate 54 m x v) (b n : Nat) (f : Fn) (hm : a.eval m = .map (some b)) (h : Mp w b n f) (hn : n < maxLen) (s : ByteArray) (hx : a.eval x = .string s) (hs : s.size ≤ maxLen)
    (c : Nat) (hv : a.eval v = .pointer (some ⟨c, 0, none⟩))
    (hK : ∀ w', Mp w' b (n + 1) (fset f s.data.toList c) → w.mapTurned w' b → wpList Ybaf.prog ops Q rest (a.put o.dst undef) w') : wpList Ybaf.prog ops Q (o :: rest) a w := by
  obtain ⟨D, ho, hview⟩ := h
  refine wpList_mapUpdate_in w hg m x v 54 hop 9 25 law9 Ybaf.underlying54 _ b n D hm ho hn _ _ _ hx hv (keyOf_string_mk Ybaf.underlying9 hs) _ [] (ptrElem_some c) ?_
  intro w' ho' hg'
  exact hK w' ⟨_, ho', hview.put ho.isMap s.data.toList c⟩ hg'
end

end Go.Proofs.YbulkbagmFmt
