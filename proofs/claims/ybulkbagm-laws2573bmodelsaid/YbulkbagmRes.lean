/-
  THE RESOURCE MAPS OF THIS SEAT: a map[string]int64 whose keys are among three names, told by a plain function of the name.
-/
import Derived.Test.YbulkbagmRows
import Derived.WalkKit
import Derived.ProofKit
import Derived.Maps.RangeWalk
import Derived.Maps.Ext
namespace Go.Proofs.Ybulkbagm
open Go.RowKit Go.Maps
open Go.WideMaps (keyOf_string_mk)

theorem law9 : Keyed Yba.prog 9 := string_keyed Yba.underlying9
theorem zero2 (w : World) : (zeroValue 2).run Yba.prog w = .ok (.int .i64 0) w := by kernel_rfl

/-- The greatest int64. -/
def top : Int := 9223372036854775807

/-- The three names. -/
def nm : Nat → List UInt8
  | 0 => [99, 112, 117]
  | 1 => [109, 101, 109, 111, 114, 121]
  | _ => [101, 120, 97, 109, 112, 108, 101, 46, 99, 111, 109, 47, 103, 112, 117]
def names : List (List UInt8) := [nm 0, nm 1, nm 2]

abbrev Fn := List UInt8 → Option Int

def fset (f : Fn) (k : List UInt8) (v : Int) : Fn := fun z => if z = k then some v else f z

/-- The amounts are among the three names, each an int64 that is not negative. -/
def Good (f : Fn) : Prop := ∀ k v, f k = some v → k ∈ names ∧ 0 ≤ v ∧ v ≤ top

structure View (D : DataW Unit) (f : Fn) : Prop where
  keys : ∀ kl, has D kl = true → ∃ s, kl = .string s ∧ (f s).isSome = true
  vals : ∀ s v, f s = some v → ∀ z, D.atKey (.string s) z = .lit (.int .i64 v)

theorem View.has {D : DataW Unit} {f : Fn} (h : View D f) (s : List UInt8) : has D (.string s) = (f s).isSome := by
  cases e : f s with
  | none =>
    cases hh : Maps.has D (.string s) with
    | false => rfl
    | true => obtain ⟨s', e1, e2⟩ := h.keys _ hh; cases e1; rw [e] at e2; cases e2
  | some v => exact has_true_of_atKey (h.vals s v e)

theorem View.at {D : DataW Unit} {f : Fn} (h : View D f) (s : List UInt8) : D.atKey (.string s) (.lit (.int .i64 0)) = .lit (.int .i64 ((f s).getD 0)) := by
  cases e : f s with
  | none => exact atKey_of_not_has (by rw [h.has, e]; rfl) _
  | some v => exact h.vals s v e _

theorem View.put {D : DataW Unit} {f : Fn} (h : View D f) (hm : IsMap D) (s : List UInt8) (v : Int) : View (D.put (.string s) (.lit (.int .i64 v))) (fset f s v) := by
  constructor
  · intro kl hk
    by_cases e : kl = .string s
    · exact ⟨s, e, by simp [fset]⟩
    · rw [has_put_other e] at hk
      obtain ⟨s', e1, e2⟩ := h.keys _ hk
      refine ⟨s', e1, ?_⟩
      unfold fset
      split
      · rfl
      · exact e2
  · intro s' v' hs z
    unfold fset at hs
    split at hs
    · rename_i e; subst e; cases hs; exact atKey_put_same hm (k := .string s') trivial _ _
    · rename_i e
      rw [atKey_put_other (fun e1 => e (by cases e1; rfl))]
      exact h.vals _ _ hs z

theorem View.empty : View (.map []) (fun _ => none) := ⟨fun _ h => (by cases h), fun _ _ h => (by cases h)⟩

/-- No more entries than names. -/
theorem nodup_le {α : Type} [DecidableEq α] : ∀ (l m : List α), l.Pairwise (fun a b => a ≠ b) → (∀ x ∈ l, x ∈ m) → l.length ≤ m.length
  | [], _, _, _ => Nat.zero_le _
  | a :: r, m, hp, hs => by
    obtain ⟨h1, h2⟩ := List.pairwise_cons.1 hp
    have ha := hs a (by simp)
    have := nodup_le r (m.erase a) h2 (fun x hx => (List.mem_erase_of_ne (fun e => h1 x hx e.symm)).2 (hs x (by simp [hx])))
    rw [List.length_erase_of_mem ha] at this
    have hpos := List.length_pos_of_mem ha
    simp
    omega

/-- The name that a key is. -/
def strOf : Lit → List UInt8
  | .string s => s
  | _ => []

theorem View.names {es : List (Lit × DataW Unit)} {f : Fn} (h : View (.map es) f) (ht : es.Pairwise (fun p q => p.1 ≠ q.1)) (hk : ∀ p ∈ es, WideAt.IsKeyLit p.1) :
    (es.map (fun p => strOf p.1)).Pairwise (fun a b => a ≠ b) ∧ ∀ s, s ∈ es.map (fun p => strOf p.1) ↔ (f s).isSome = true := by
  have key : ∀ p ∈ es, ∃ s, p.1 = .string s ∧ (f s).isSome = true := fun p hp =>
    h.keys p.1 (List.any_eq_true.2 ⟨p, hp, WideAt.sameKey_self (hk p hp)⟩)
  refine ⟨?_, fun s => ⟨fun hs => ?_, fun hs => ?_⟩⟩
  · rw [List.pairwise_map]
    refine List.Pairwise.imp_of_mem ?_ ht
    intro p q hp hq hne e
    obtain ⟨s, e1, _⟩ := key p hp
    obtain ⟨s', e2, _⟩ := key q hq
    rw [e1, e2] at e
    exact hne (by rw [e1, e2]; simpa [strOf] using e)
  · obtain ⟨p, hp, e⟩ := List.mem_map.1 hs
    obtain ⟨s', e1, e2⟩ := key p hp
    rw [e1] at e
    simp only [strOf] at e
    rw [← e]
    exact e2
  · have h1 := h.has s
    rw [hs] at h1
    obtain ⟨p, hp, e⟩ := List.any_eq_true.1 h1
    exact List.mem_map.2 ⟨p, hp, by rw [WideAt.sameKey_eq e]; rfl⟩

theorem View.size_le {D : DataW Unit} {f : Fn} (h : View D f) (hc : Canon D) (hg : Good f) : Maps.size D ≤ 3 := by
  obtain ⟨es, rfl, hs, hk⟩ := hc
  obtain ⟨h1, h2⟩ := h.names (apart_of_rising hs) hk
  have := nodup_le _ Go.Proofs.Ybulkbagm.names h1 (fun x hx => by
    have := (h2 x).1 hx
    obtain ⟨v, hv⟩ := Option.isSome_iff_exists.1 this
    exact (hg x v hv).1)
  simpa [Maps.size, Go.Proofs.Ybulkbagm.names] using this

/-- How many of the three names f holds. -/
def cnt3 (f : Fn) : Nat := (if (f (nm 0)).isSome then 1 else 0) + (if (f (nm 1)).isSome then 1 else 0) + (if (f (nm 2)).isSome then 1 else 0)

theorem cnt3_filter (f : Fn) : (Go.Proofs.Ybulkbagm.names.filter (fun s => (f s).isSome)).length = cnt3 f := by
  unfold Go.Proofs.Ybulkbagm.names cnt3
  cases h0 : (f (nm 0)).isSome <;> cases h1 : (f (nm 1)).isSome <;> cases h2 : (f (nm 2)).isSome <;> simp [h0, h1, h2]

theorem names_apart : Go.Proofs.Ybulkbagm.names.Pairwise (fun a b => a ≠ b) := by decide

theorem View.size {D : DataW Unit} {f : Fn} (h : View D f) (hc : Canon D) (hg : Good f) : Maps.size D = cnt3 f := by
  obtain ⟨es, rfl, hs, hk⟩ := hc
  obtain ⟨h1, h2⟩ := h.names (apart_of_rising hs) hk
  have mem : ∀ x, x ∈ es.map (fun p => strOf p.1) ↔ x ∈ Go.Proofs.Ybulkbagm.names.filter (fun s => (f s).isSome) := fun x => by
    rw [h2 x, List.mem_filter]
    constructor
    · intro hx
      obtain ⟨v, hv⟩ := Option.isSome_iff_exists.1 hx
      exact ⟨(hg x v hv).1, hx⟩
    · exact fun hx => hx.2
  have a1 := nodup_le _ _ h1 (fun x hx => (mem x).1 hx)
  have a2 := nodup_le _ _ (names_apart.filter (fun s => (f s).isSome)) (fun x hx => (mem x).2 hx)
  rw [← cnt3_filter]
  simp only [List.length_map] at a1 a2
  show es.length = _
  omega

/-- BLOCK b OF w IS A RESOURCE MAP THAT HOLDS f. -/
def Res (w : World) (b : Nat) (f : Fn) : Prop := ∃ D : DataW Unit, w.ownsMap Yba.prog 9 (plainElem Yba.prog 2) b 3 D ∧ View D f ∧ Good f

/-- A LOOP OVER THE RESOURCE MAP b UNDER WAY: r: the iterator's block; 'left': which names are still to come. -/
def Rng (w : World) (b r : Nat) (f : Fn) (left : List UInt8 → Bool) (cnt : Nat) : Prop :=
  ∃ (D : DataW Unit) (lf : Lit → Bool), w.ranges Yba.prog 9 (plainElem Yba.prog 2) b r 3 D lf cnt ∧ View D f ∧ Good f ∧ (∀ s, lf (.string s) = left s) ∧ ∀ s, left s = true → (f s).isSome = true

theorem Good.set {f : Fn} (h : Good f) {k : List UInt8} (hk : k ∈ names) {v : Int} (h0 : 0 ≤ v) (h1 : v ≤ top) : Good (fset f k v) := by
  intro z u hz
  unfold fset at hz
  split at hz
  · rename_i e; cases hz; exact ⟨e ▸ hk, h0, h1⟩
  · exact h z u hz

theorem wf_of {v : Int} (h0 : 0 ≤ v) (h1 : v ≤ top) : (Lit.int .i64 v).wf = true := by
  unfold top at h1
  exact WalkArith.wf_i64 (by omega)

theorem Res.good {w : World} {b : Nat} {f : Fn} (h : Res w b f) : Good f := let ⟨_, _, _, g⟩ := h; g
theorem Res.lt {w : World} {b : Nat} {f : Fn} (h : Res w b f) : b < w.heap.size := let ⟨_, o, _, _⟩ := h; o.lt
theorem Res.kept {w w' : World} {b : Nat} {f : Fn} {row : Option Nat} (h : Res w b f) (hg : w.grownBy w' row) (hne : some b ≠ row) : Res w' b f :=
  let ⟨D, o, v, g⟩ := h; ⟨D, o.kept hg hne, v, g⟩
theorem Res.alloc {w : World} {b : Nat} {f : Fn} (h : Res w b f) (o : Obj) : Res (w.alloc o) b f := h.kept (World.grownBy_alloc w o none) (by simp)
theorem Res.below {w w' : World} {b B : Nat} {f : Fn} (h : Res w b f) (hb : Below B w w') (hlt : b < B) : Res w' b f := by
  obtain ⟨D, ⟨es, clock, h1, h2⟩, v, g⟩ := h
  exact ⟨D, ⟨es, clock, (hb.block b hlt).trans h1, h2⟩, v, g⟩
theorem Res.made (w : World) : Res (w.alloc (.map #[] 0)) w.heap.size (fun _ => none) :=
  ⟨.map [], (World.ownsMap_made _ _ _ _).mono (by omega), View.empty, fun _ _ h => (by cases h)⟩

theorem Rng.kept {w w' : World} {b r : Nat} {f : Fn} {left : List UInt8 → Bool} {cnt : Nat} {row : Option Nat} (h : Rng w b r f left cnt) (hg : w.grownBy w' row) (h1 : some b ≠ row) (h2 : some r ≠ row) : Rng w' b r f left cnt :=
  let ⟨D, lf, o, rest⟩ := h; ⟨D, lf, o.kept hg h1 h2, rest⟩
theorem Rng.left_eq {w : World} {b r : Nat} {f : Fn} {left : List UInt8 → Bool} {cnt : Nat} (h : Rng w b r f left cnt) : w.rangeLeft b r = cnt := let ⟨_, _, o, _⟩ := h; o.left_eq
theorem Rng.res {w : World} {b r : Nat} {f : Fn} {left : List UInt8 → Bool} {cnt : Nat} (h : Rng w b r f left cnt) : Res w b f := let ⟨D, _, o, v, g, _⟩ := h; ⟨D, o.owns, v, g⟩
theorem Rng.lt {w : World} {b r : Nat} {f : Fn} {left : List UInt8 → Bool} {cnt : Nat} (h : Rng w b r f left cnt) : r < w.heap.size := let ⟨_, _, o, _⟩ := h; o.lt

theorem names_len {s : List UInt8} (h : s ∈ names) : s.length ≤ 15 := by
  have : ∀ s ∈ names, s.length ≤ 15 := by decide
  exact this s h

theorem hkey9 {s : ByteArray} (h : s.data.toList ∈ names) : keyOf Yba.prog 9 (.string s) = some (.string s.data.toList) := by
  have := names_len h
  refine keyOf_string_mk Yba.underlying9 ?_
  unfold maxLen
  simp only [Array.length_toList] at this
  show s.data.size ≤ _
  omega

section
variable (w : World) {ops : Array Oper} {rest : List Oper} {o : Oper} {a : Act} {Q : Exit → Act → World → Prop}

/-- 'm[k] = v'. -/
theorem wpList_update_res (hg : o.guard = none) (m x v : Operand) (hop : o.op = Op.mapUpdate 32 m x v) (b : Nat) (f : Fn) (hm : a.eval m = .map (some b)) (h : Res w b f) (s : ByteArray) (hx : a.eval x = .string s) (hs : s.data.toList ∈ names)
    (c : Int) (hv : a.eval v = .int .i64 c) (h0 : 0 ≤ c) (h1 : c ≤ top)
    (hK : ∀ w', Res w' b (fset f s.data.toList c) → w.grownBy w' (some b) → wpList Yba.prog ops Q rest (a.put o.dst undef) w') : wpList Yba.prog ops Q (o :: rest) a w := by
  obtain ⟨D, ho, hview, hgood⟩ := h
  refine wpList_mapUpdate_own w hg m x v 32 hop 9 2 law9 Yba.underlying32 _ b 3 D hm ho (by unfold maxLen; omega) _ _ _ hx hv (hkey9 hs) _ [] (plainElem_int Yba.underlying2 (wf_of h0 h1)) ?_
  intro w' ho' hg'
  have hv' := hview.put ho.isMap s.data.toList c
  have hg2 := hgood.set hs h0 h1
  refine hK w' ⟨_, ?_, hv', hg2⟩ hg'
  have hsz := hv'.size_le (ho'.canon law9) hg2
  obtain ⟨es, clock, e1, e2, e3, e4⟩ := ho'
  refine ⟨es, clock, e1, e2, ?_, e4⟩
  rw [e4] at hsz
  simpa [Maps.size, length_sorted] using hsz

/-- 'm[k]'. -/
theorem wpList_lookup_res (hg : o.guard = none) (m x : Operand) (hop : o.op = Op.lookup 32 m x false) (b : Nat) (f : Fn) (hm : a.eval m = .map (some b)) (h : Res w b f) (s : ByteArray) (hx : a.eval x = .string s) (hs : s.data.toList ∈ names)
    (hK : wpList Yba.prog ops Q rest (a.put o.dst (.int .i64 ((f s.data.toList).getD 0))) w) : wpList Yba.prog ops Q (o :: rest) a w := by
  obtain ⟨D, ho, hview, hgood⟩ := h
  refine wpList_lookup_own_int w hg m x 32 hop 9 2 .i64 law9 Yba.underlying32 Yba.underlying2 (zero2 w) b 3 D hm ho _ _ hx (hkey9 hs) ?_
  intro c hat _
  rw [hview.at] at hat
  cases hat
  exact hK

/-- 'v, ok := m[k]'. -/
theorem wpList_lookup_ok_res (hg : o.guard = none) (m x : Operand) (hop : o.op = Op.lookup 32 m x true) (b : Nat) (f : Fn) (hm : a.eval m = .map (some b)) (h : Res w b f) (s : ByteArray) (hx : a.eval x = .string s) (hs : s.data.toList ∈ names)
    (hK : wpList Yba.prog ops Q rest (a.put o.dst (.tuple #[.int .i64 ((f s.data.toList).getD 0), .bool (f s.data.toList).isSome])) w) : wpList Yba.prog ops Q (o :: rest) a w := by
  obtain ⟨D, ho, hview, hgood⟩ := h
  refine wpList_lookup_own_ok_int w hg m x 32 hop 9 2 .i64 law9 Yba.underlying32 Yba.underlying2 (zero2 w) b 3 D hm ho _ _ hx (hkey9 hs) ?_
  intro c hat _
  rw [hview.at] at hat
  cases hat
  rw [hview.has]
  exact hK

/-- 'len(m)'. -/
theorem wpList_len_res (hg : o.guard = none) (m : Operand) (hop : o.op = Op.call { callee := Callee.builtin Builtin.len, args := #[m], argTypes := #[32] }) (b : Nat) (f : Fn) (hm : a.eval m = .map (some b)) (h : Res w b f)
    (hK : wpList Yba.prog ops Q rest (a.put o.dst (.int .i64 (cnt3 f))) w) : wpList Yba.prog ops Q (o :: rest) a w := by
  obtain ⟨D, ho, hview, hgood⟩ := h
  refine wpList_len_own w hg m 32 hop 9 2 Yba.underlying32 _ b 3 D hm ho ?_
  rw [hview.size (ho.canon law9) hgood]
  exact hK

/-- 'range m'. -/
theorem wpList_range_res (hg : o.guard = none) (m : Operand) (hop : o.op = Op.range 32 m) (b : Nat) (f : Fn) (hm : a.eval m = .map (some b)) (h : Res w b f)
    (hK : ∀ w' cnt, Rng w' b w.heap.size f (fun s => (f s).isSome) cnt → w.grownBy w' none → w'.heap.size = w.heap.size + 1 → wpList Yba.prog ops Q rest (a.put o.dst (.pointer (some ⟨w.heap.size, 0, none⟩))) w') : wpList Yba.prog ops Q (o :: rest) a w := by
  obtain ⟨D, ho, hview, hgood⟩ := h
  refine wpList_range_own w hg m 32 hop 9 2 law9 Yba.underlying32 _ b 3 D hm ho ?_
  intro w' hr hgr hsz
  exact hK w' _ ⟨D, _, hr, hview, hgood, fun s => hview.has s, fun s hs => hs⟩ hgr hsz

theorem keyOf_str9 {key : Value} {kl : Lit} (h : keyOf Yba.prog 9 key = some kl) : ∃ s, key = .string s ∧ kl = .string s.data.toList := by
  cases key <;> simp [keyOf, Yba.underlying9, mapKey] at h
  obtain ⟨_, rfl⟩ := h
  exact ⟨_, rfl, rfl⟩

/-- THE STEP. -/
theorem wpList_next_res (hg : o.guard = none) (it : Operand) (hop : o.op = Op.next it false) (b r : Nat) (f : Fn) (left : List UInt8 → Bool) (cnt : Nat) (hit : a.eval it = .pointer (some ⟨r, 0, none⟩)) (h : Rng w b r f left cnt)
    (hDone : (∀ s, left s = false) → wpList Yba.prog ops Q rest (a.put o.dst (.tuple #[.bool false])) w)
    (hMore : ∀ (s : ByteArray) (c : Int) (w' : World) (cnt' : Nat), s.data.toList ∈ names → left s.data.toList = true → f s.data.toList = some c → 0 ≤ c → c ≤ top → Rng w' b r f (fun z => left z && !decide (z = s.data.toList)) cnt' → cnt' < cnt →
      w.grownBy w' (some r) → w'.heap.size = w.heap.size → (Instr.entry (.pointer (some ⟨r, 0, none⟩))).run Yba.prog w' = .ok (.tuple #[.string s, .int .i64 c]) w' → wpList Yba.prog ops Q rest (a.put o.dst (.tuple #[.bool true, .string s, .int .i64 c])) w') :
    wpList Yba.prog ops Q (o :: rest) a w := by
  obtain ⟨D, lf, hr, hview, hgood, hlf, hsub⟩ := h
  refine wpList_next_ranges w hg it hop 9 law9 (plainElem Yba.prog 2) Value.string (Value.int .i64) (fun key kl hkey => by obtain ⟨s, rfl, _⟩ := keyOf_str9 hkey; exact ⟨s, rfl⟩) (fun v y hv => by obtain ⟨c, rfl, _⟩ := plainElem_int_inv Yba.underlying2 hv; exact ⟨c, rfl⟩) b r 3 D lf cnt hit hr ?_ ?_
  · intro _ hl
    exact hDone (fun s => by rw [← hlf]; exact hl _)
  · intro s c kl y w' cnt' hkey hlk hv hat hr' hlt hgr hsz hen
    obtain ⟨s', e1, rfl⟩ := keyOf_str9 hkey
    cases e1
    obtain ⟨c', e2, rfl, _⟩ := plainElem_int_inv Yba.underlying2 hv
    cases e2
    have hl : left s.data.toList = true := by rw [← hlf]; exact hlk
    obtain ⟨v, hfv⟩ := Option.isSome_iff_exists.1 (hsub _ hl)
    have hc : v = c := by
      have := hat .nil
      rw [hview.vals _ _ hfv] at this
      cases this
      rfl
    subst hc
    have hg3 := hgood _ _ hfv
    refine hMore s v w' cnt' hg3.1 hl hfv hg3.2.1 hg3.2.2 ⟨D, _, hr', hview, hgood, fun z => ?_, fun z hz => ?_⟩ hlt hgr hsz hen
    · show (lf (.string z) && !(Lit.string z).sameKey (.string s.data.toList)) = _
      rw [hlf]
      by_cases e : z = s.data.toList
      · rw [e, WideAt.sameKey_self (a := .string s.data.toList) trivial]
        simp
      · rw [sameKey_ne (fun e1 => e (by cases e1; rfl))]
        simp [e]
    · simp at hz
      exact hsub z hz.1

/-! ### a map VALUE, nil or not -/
/-- A map VALUE, nil or not, that holds f. -/
def ResV (w : World) (m : Option Nat) (f : Fn) : Prop := (m = none ∧ f = fun _ => none) ∨ ∃ b, m = some b ∧ Res w b f

/-- A loop over such a value under way. -/
def RngV (w : World) (m : Option Nat) (r : Nat) (f : Fn) (left : List UInt8 → Bool) (cnt : Nat) : Prop :=
  (m = none ∧ f = (fun _ => none) ∧ (∀ s, left s = false) ∧ cnt = 0 ∧ (∃ c s d, w.heap[r]? = some (.mapIter none c s d))) ∨ ∃ b, m = some b ∧ Rng w b r f left cnt

def leftV (w : World) (m : Option Nat) (r : Nat) : Nat := match m with
  | none => 0
  | some b => w.rangeLeft b r

theorem ResV.nil (w : World) : ResV w none (fun _ => none) := Or.inl ⟨rfl, rfl⟩
theorem Res.v {w : World} {b : Nat} {f : Fn} (h : Res w b f) : ResV w (some b) f := Or.inr ⟨b, rfl, h⟩
theorem ResV.good {w : World} {m : Option Nat} {f : Fn} (h : ResV w m f) : Good f := by
  rcases h with ⟨_, rfl⟩ | ⟨b, _, h⟩
  · exact fun _ _ h => (by cases h)
  · exact h.good
theorem ResV.kept {w w' : World} {m : Option Nat} {f : Fn} {row : Option Nat} (h : ResV w m f) (hg : w.grownBy w' row) (hne : ∀ b, m = some b → some b ≠ row) : ResV w' m f := by
  rcases h with h | ⟨b, e, h⟩
  · exact Or.inl h
  · exact Or.inr ⟨b, e, h.kept hg (hne b e)⟩
theorem ResV.alloc {w : World} {m : Option Nat} {f : Fn} (h : ResV w m f) (o : Obj) : ResV (w.alloc o) m f := h.kept (World.grownBy_alloc w o none) (by simp)
theorem ResV.below {w w' : World} {m : Option Nat} {B : Nat} {f : Fn} (h : ResV w m f) (hb : Below B w w') (hlt : ∀ b, m = some b → b < B) : ResV w' m f := by
  rcases h with h | ⟨b, e, h⟩
  · exact Or.inl h
  · exact Or.inr ⟨b, e, h.below hb (hlt b e)⟩
theorem ResV.lt {w : World} {m : Option Nat} {f : Fn} (h : ResV w m f) : ∀ b, m = some b → b < w.heap.size := by
  rcases h with ⟨rfl, _⟩ | ⟨b, e, h⟩
  · exact fun _ h => (by cases h)
  · intro b' e'
    rw [e] at e'
    cases e'
    exact h.lt

theorem RngV.kept {w w' : World} {m : Option Nat} {r : Nat} {f : Fn} {left : List UInt8 → Bool} {cnt : Nat} {row : Option Nat} (h : RngV w m r f left cnt) (hg : w.grownBy w' row) (hlt : r < w.heap.size) (h1 : ∀ b, m = some b → some b ≠ row) (h2 : some r ≠ row) : RngV w' m r f left cnt := by
  rcases h with ⟨e1, e2, e3, e4, c, s, d, e5⟩ | ⟨b, e, h⟩
  · exact Or.inl ⟨e1, e2, e3, e4, c, s, d, (hg.block r hlt h2).trans e5⟩
  · exact Or.inr ⟨b, e, h.kept hg (h1 b e) h2⟩
theorem RngV.left_eq {w : World} {m : Option Nat} {r : Nat} {f : Fn} {left : List UInt8 → Bool} {cnt : Nat} (h : RngV w m r f left cnt) : leftV w m r = cnt := by
  rcases h with ⟨rfl, _, _, rfl, _⟩ | ⟨b, rfl, h⟩
  · rfl
  · exact h.left_eq
theorem RngV.lt {w : World} {m : Option Nat} {r : Nat} {f : Fn} {left : List UInt8 → Bool} {cnt : Nat} (h : RngV w m r f left cnt) : r < w.heap.size := by
  rcases h with ⟨_, _, _, _, c, s, d, e5⟩ | ⟨b, rfl, h⟩
  · exact (Array.getElem?_eq_some_iff.1 e5).1
  · exact h.lt

theorem wpList_len_resV (hg : o.guard = none) (x : Operand) (hop : o.op = Op.call { callee := Callee.builtin Builtin.len, args := #[x], argTypes := #[32] }) (m : Option Nat) (f : Fn) (hm : a.eval x = .map m) (h : ResV w m f)
    (hK : wpList Yba.prog ops Q rest (a.put o.dst (.int .i64 (cnt3 f))) w) : wpList Yba.prog ops Q (o :: rest) a w := by
  rcases h with ⟨rfl, rfl⟩ | ⟨b, rfl, h⟩
  · refine wpList_plain hg fun K' hK' => ?_
    unfold Oper.wp
    simp [execOp, hop, resolve, invoke, builtin, hm, Maps.len_nil (w := w) Yba.underlying32 o.type, Result.andThen]
    exact hK' _ _ hK
  · exact wpList_len_res w hg x hop b f hm h hK

theorem wpList_range_resV (hg : o.guard = none) (x : Operand) (hop : o.op = Op.range 32 x) (m : Option Nat) (f : Fn) (hm : a.eval x = .map m) (h : ResV w m f)
    (hK : ∀ w' cnt, RngV w' m w.heap.size f (fun s => (f s).isSome) cnt → w.grownBy w' none → w'.heap.size = w.heap.size + 1 → wpList Yba.prog ops Q rest (a.put o.dst (.pointer (some ⟨w.heap.size, 0, none⟩))) w') : wpList Yba.prog ops Q (o :: rest) a w := by
  rcases h with ⟨rfl, rfl⟩ | ⟨b, rfl, h⟩
  · refine wpList_plain hg fun K' hK' => ?_
    unfold Oper.wp
    simp [execOp, hop, hm, run_range_nilMap (P := Yba.prog) w 32 9 2 Yba.underlying32, Result.andThen]
    exact hK' _ _ (hK _ 0 (Or.inl ⟨rfl, rfl, fun _ => rfl, rfl, _, _, _, (MapKept.heap_alloc w _).1⟩) (World.grownBy_alloc _ _ _) (by simp))
  · exact wpList_range_res w hg x hop b f hm h (fun w' cnt h1 h2 h3 => hK w' cnt (Or.inr ⟨b, rfl, h1⟩) h2 h3)

theorem run_next_nilAt {P : Program} (w : World) (ty : TypeId) (r a b : Nat) (s : Array Nat) (h : w.heap[r]? = some (.mapIter none a s b)) :
    (Instr.next (.pointer (some ⟨r, 0, none⟩)) false ty).run P w = .ok (.tuple #[.bool false]) w := by
  simp only [Instr.next, getObj, Sem.run_bind, Sem.run, h, Result.andThen]
  rfl

theorem wpList_next_resV (hg : o.guard = none) (it : Operand) (hop : o.op = Op.next it false) (m : Option Nat) (r : Nat) (f : Fn) (left : List UInt8 → Bool) (cnt : Nat) (hit : a.eval it = .pointer (some ⟨r, 0, none⟩)) (h : RngV w m r f left cnt)
    (hDone : (∀ s, left s = false) → wpList Yba.prog ops Q rest (a.put o.dst (.tuple #[.bool false])) w)
    (hMore : ∀ (s : ByteArray) (c : Int) (w' : World) (cnt' : Nat), s.data.toList ∈ names → left s.data.toList = true → f s.data.toList = some c → 0 ≤ c → c ≤ top → RngV w' m r f (fun z => left z && !decide (z = s.data.toList)) cnt' → cnt' < cnt →
      w.grownBy w' (some r) → w'.heap.size = w.heap.size → (Instr.entry (.pointer (some ⟨r, 0, none⟩))).run Yba.prog w' = .ok (.tuple #[.string s, .int .i64 c]) w' → wpList Yba.prog ops Q rest (a.put o.dst (.tuple #[.bool true, .string s, .int .i64 c])) w') :
    wpList Yba.prog ops Q (o :: rest) a w := by
  rcases h with ⟨rfl, rfl, e3, e4, c, s, d, e5⟩ | ⟨b, rfl, h⟩
  · refine wpList_plain hg fun K' hK' => ?_
    unfold Oper.wp
    simp [execOp, hop, hit, run_next_nilAt (P := Yba.prog) w o.type r c d s e5, Result.andThen]
    exact hK' _ _ (hDone e3)
  · exact wpList_next_res w hg it hop b r f left cnt hit h hDone (fun s c w' cnt' h1 h2 h3 h4 h5 h6 h7 h8 h9 h10 => hMore s c w' cnt' h1 h2 h3 h4 h5 (Or.inr ⟨b, rfl, h6⟩) h7 h8 h9 h10)
end

end Go.Proofs.Ybulkbagm
