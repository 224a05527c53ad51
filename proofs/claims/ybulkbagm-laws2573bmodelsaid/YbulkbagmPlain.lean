/-
  LawS2573BModel: the plain law: what 'requests' answers is what the law's own reckoning says, name by name.
-/
import Derived.Test.YbulkbagmPod
namespace Go.Proofs.Ybulkbagm
open Go.RowKit

def lst (cs : List CV) (M : List (Option Nat × Option Nat)) : List Cn := List.zipWith mk cs M

theorem lst_len {cs : List CV} {M : List (Option Nat × Option Nat)} (h : M.length = cs.length) : (lst cs M).length = cs.length := by simp [lst, h]

theorem lst_snoc {cs : List CV} {M : List (Option Nat × Option Nat)} {k : Nat} (hk : k < cs.length) (h : M.length = k) (m : Option Nat × Option Nat) : lst (cs.take k) M ++ [mk cs[k] m] = lst (cs.take (k + 1)) (M ++ [m]) := by
  unfold lst
  rw [List.take_succ_eq_append_getElem hk, List.zipWith_append (by simp; omega)]
  rfl

theorem nm_inj {i j : Nat} (hi : i < 3) (hj : j < 3) (h : nm i = nm j) : i = j := by
  have h1 : i = 0 ∨ i = 1 ∨ i = 2 := by omega
  have h2 : j = 0 ∨ j = 1 ∨ j = 2 := by omega
  rcases h1 with rfl | rfl | rfl <;> rcases h2 with rfl | rfl | rfl <;> first | rfl | (simp [nm] at h)

theorem part_at (has : Nat → Bool) (amt : Nat → Int) : ∀ (k i : Nat), k ≤ 3 → i < 3 → part has amt k (nm i) = if i < k ∧ has i = true then some (amt i) else none
  | 0, i, _, _ => by simp [part]
  | k + 1, i, hk, hi => by
    have ih := part_at has amt k i (by omega) hi
    cases hh : has k
    · rw [part_no hh, ih]
      by_cases e : i = k
      · subst e; simp [hh]
      · have : i < k + 1 ↔ i < k := by omega
        simp [this]
    · rw [part_yes hh]
      unfold fset
      by_cases e : i = k
      · subst e; simp [hh]
      · rw [if_neg (fun e1 => e (nm_inj hi (by omega) e1)), ih]
        have : i < k + 1 ↔ i < k := by omega
        simp [this]

/-- What the container says of the resource i. -/
def CV.askO (c : CV) (i : Nat) : Option Int := if c.hasReq i = true then some (c.req i) else if c.hasLim i = true then some (c.lim i) else none

theorem ov_at (c : CV) (m : Option Nat × Option Nat) (i : Nat) (hi : i < 3) : ov (mk c m).fl (mk c m).fq (nm i) = c.askO i := by
  unfold ov mk CV.askO
  simp only [part_at _ _ 3 i (Nat.le_refl _) hi]
  cases c.hasReq i <;> cases c.hasLim i <;> simp [hi]

theorem askO_ask (c : CV) (i : Nat) : (c.askO i).getD 0 = c.ask i := by
  unfold CV.askO CV.ask
  cases c.hasReq i <;> cases c.hasLim i <;> simp
theorem askO_some (c : CV) (i : Nat) : (c.askO i).isSome = (c.hasReq i || c.hasLim i) := by
  unfold CV.askO
  cases c.hasReq i <;> cases c.hasLim i <;> simp

def big : Int := 4294967295

theorem ask_bd {c : CV} (hc : c.ok) {i : Nat} (hi : i < 3) : 0 ≤ c.ask i ∧ c.ask i ≤ big := by
  have h1 := hc.1 i hi
  have h2 := hc.2 i hi
  unfold CV.ask big
  split
  · exact h1
  · split
    · exact h2
    · omega

def accO (a b : Option Int) : Option Int := match b with
  | none => a
  | some v => some (satp (a.getD 0) v)
def mxO (a b : Option Int) : Option Int := match b with
  | none => a
  | some v => some (mx (a.getD 0) v)

theorem pol_side (b : Bool) : ((polOf b).toList == [65, 108, 119, 97, 121, 115]) = b := by cases b <;> decide +kernel

/-- The law's own reckoning, an init container. -/
def stepS (i : Nat) (s : Bool × Int × Int) (c : CV) : Bool × Int × Int :=
  if c.side = true then (s.1 || (c.hasReq i || c.hasLim i), s.2.1 + c.ask i, s.2.2) else (s.1 || (c.hasReq i || c.hasLim i), s.2.1, if s.2.2 < s.2.1 + c.ask i then s.2.1 + c.ask i else s.2.2)
/-- .. another container. -/
def stepT (i : Nat) (s : Bool × Int × Int) (c : CV) : Bool × Int × Int := (s.1 || (c.hasReq i || c.hasLim i), s.2.1 + c.ask i, s.2.2)

def lawI (o : OV) (i : Nat) (cs : List CV) : Bool × Int × Int := cs.foldl (stepS i) (o.has i, 0, 0)
def lawA (s : Bool × Int × Int) (i : Nat) (cs : List CV) : Bool × Int × Int := cs.foldl (stepT i) s

theorem lawI_snoc (o : OV) (i : Nat) (cs : List CV) (k : Nat) (h : k < cs.length) : lawI o i (cs.take (k + 1)) = stepS i (lawI o i (cs.take k)) cs[k] := by
  rw [List.take_succ_eq_append_getElem h]
  unfold lawI
  rw [List.foldl_append]
  rfl
theorem lawA_snoc (s : Bool × Int × Int) (i : Nat) (cs : List CV) (k : Nat) (h : k < cs.length) : lawA s i (cs.take (k + 1)) = stepT i (lawA s i (cs.take k)) cs[k] := by
  rw [List.take_succ_eq_append_getElem h]
  unfold lawA
  rw [List.foldl_append]
  rfl

section
variable {i : Nat} {a : Bool} {s q : Int} {c : CV}
theorem stS1 (h : c.hasReq i = true ∨ c.hasLim i = true) (hs : c.side = true) : stepS i (a, s, q) c = (true, s + c.ask i, q) := by
  unfold stepS
  rcases h with h | h <;> simp [h, hs]
theorem stS2 (h : c.hasReq i = true ∨ c.hasLim i = true) (hs : c.side = false) (hq : q < s + c.ask i) : stepS i (a, s, q) c = (true, s, s + c.ask i) := by
  unfold stepS
  rcases h with h | h <;> simp [h, hs, hq]
theorem stS3 (h : c.hasReq i = true ∨ c.hasLim i = true) (hs : c.side = false) (hq : s + c.ask i ≤ q) : stepS i (a, s, q) c = (true, s, q) := by
  have hq' : ¬ q < s + c.ask i := by omega
  unfold stepS
  rcases h with h | h <;> simp [h, hs, hq']
theorem stS4 (h : ¬ c.hasReq i = true) (h' : c.hasLim i = false) (hs : c.side = true) : stepS i (a, s, q) c = (a, s + c.ask i, q) := by
  unfold stepS
  simp [h, h', hs]
theorem stS5 (h : ¬ c.hasReq i = true) (h' : c.hasLim i = false) (hs : c.side = false) (hq : q < s + c.ask i) : stepS i (a, s, q) c = (a, s, s + c.ask i) := by
  unfold stepS
  simp [h, h', hs, hq]
theorem stS6 (h : ¬ c.hasReq i = true) (h' : c.hasLim i = false) (hs : c.side = false) (hq : s + c.ask i ≤ q) : stepS i (a, s, q) c = (a, s, q) := by
  have hq' : ¬ q < s + c.ask i := by omega
  unfold stepS
  simp [h, h', hs, hq']
theorem stT1 (h : c.hasReq i = true ∨ c.hasLim i = true) : stepT i (a, s, q) c = (true, s + c.ask i, q) := by
  unfold stepT
  rcases h with h | h <;> simp [h]
theorem stT2 (h : ¬ c.hasReq i = true) (h' : c.hasLim i = false) : stepT i (a, s, q) c = (a, s + c.ask i, q) := by
  unfold stepT
  simp [h, h']
end

/-- What 'requests' holds and what the law holds, behind n containers. -/
structure Inv (h0 : Bool) (n : Nat) (t p : Option Int) (s : Bool × Int × Int) : Prop where
  et : t.getD 0 = s.2.1
  ep : p.getD 0 = s.2.2
  s0 : 0 ≤ s.2.1
  s1 : s.2.1 ≤ n * big
  k0 : 0 ≤ s.2.2
  k1 : s.2.2 ≤ n * big
  pr : s.1 = (h0 || (t.isSome || p.isSome))

theorem satp_small {a b : Int} (h : a + b ≤ top) : satp a b = a + b := by unfold satp; rw [if_neg (by omega)]

theorem inv_side {h0 : Bool} {n : Nat} {t p : Option Int} {s : Bool × Int × Int} (h : Inv h0 n t p s) (hn : n ≤ 2048) {c : CV} (hc : c.ok) {i : Nat} (hi : i < 3) :
    Inv h0 (n + 1) (accO t (c.askO i)) p (s.1 || (c.hasReq i || c.hasLim i), s.2.1 + c.ask i, s.2.2) := by
  have hb := ask_bd hc hi
  have h1 := h.et
  have h2 := h.s0
  have h3 := h.s1
  have h4 := h.k0
  have h5 := h.k1
  have e1 := askO_ask c i
  have e2 := askO_some c i
  have e3 : ((n + 1 : Nat) : Int) * big = n * big + big := by rw [Int.natCast_add, Int.add_mul]; simp
  have e4 : (n : Int) * big ≤ 2048 * big := Int.mul_le_mul_of_nonneg_right (by omega) (by decide)
  have e5 : 2048 * big + big ≤ top := by decide
  cases ha : c.askO i with
  | none =>
    rw [ha] at e1 e2
    simp at e1 e2
    refine ⟨?_, h.ep, by simp; omega, by simp only [e3]; omega, h4, by simp only [e3]; omega, ?_⟩
    · show t.getD 0 = _; simp; omega
    · rw [h.pr]; simp [accO, e2]
  | some v =>
    rw [ha] at e1 e2
    simp at e1
    have hs : satp (t.getD 0) v = s.2.1 + c.ask i := by rw [satp_small (by omega)]; omega
    refine ⟨?_, h.ep, by simp; omega, by simp only [e3]; omega, h4, by simp only [e3]; omega, ?_⟩
    · show (some (satp (t.getD 0) v)).getD 0 = _; simp [hs]
    · have : (c.hasReq i || c.hasLim i) = true := by rw [← e2]; rfl
      simp [accO, this]

theorem inv_peak {h0 : Bool} {n : Nat} {t p : Option Int} {s : Bool × Int × Int} (h : Inv h0 n t p s) (hn : n ≤ 2048) {c : CV} (hc : c.ok) {i : Nat} (hi : i < 3) :
    Inv h0 (n + 1) t (mxO p (accO (c.askO i) t)) (s.1 || (c.hasReq i || c.hasLim i), s.2.1, if s.2.2 < s.2.1 + c.ask i then s.2.1 + c.ask i else s.2.2) := by
  have hb := ask_bd hc hi
  have h1 := h.et
  have h1p := h.ep
  have h2 := h.s0
  have h3 := h.s1
  have h4 := h.k0
  have h5 := h.k1
  have e1 := askO_ask c i
  have e2 := askO_some c i
  have e3 : ((n + 1 : Nat) : Int) * big = n * big + big := by rw [Int.natCast_add, Int.add_mul]; simp
  have e4 : (n : Int) * big ≤ 2048 * big := Int.mul_le_mul_of_nonneg_right (by omega) (by decide)
  have e5 : 2048 * big + big ≤ top := by decide
  have b1 : 0 ≤ (if s.2.2 < s.2.1 + c.ask i then s.2.1 + c.ask i else s.2.2) := by split <;> omega
  have b2 : (if s.2.2 < s.2.1 + c.ask i then s.2.1 + c.ask i else s.2.2) ≤ (n + 1 : Nat) * big := by rw [e3]; split <;> omega
  refine ⟨h1, ?_, h2, by simp only [e3]; omega, b1, b2, ?_⟩
  · cases ht : t with
    | none =>
      rw [ht] at h1
      simp at h1
      cases ha : c.askO i with
      | none =>
        rw [ha] at e1
        simp at e1
        show p.getD 0 = _
        rw [if_neg (by omega)]
        exact h1p
      | some v =>
        rw [ha] at e1
        simp at e1
        show (some (mx (p.getD 0) v)).getD 0 = _
        simp only [Option.getD_some, mx, h1p]
        have : s.2.1 + c.ask i = v := by omega
        rw [this]
    | some x =>
      rw [ht] at h1
      simp at h1
      show (some (mx (p.getD 0) (satp ((c.askO i).getD 0) x))).getD 0 = _
      rw [e1, satp_small (by omega)]
      simp only [Option.getD_some, mx, h1p]
      have : c.ask i + x = s.2.1 + c.ask i := by omega
      rw [this]
  · simp only [h.pr]
    cases ht : t with
    | none =>
      cases ha : c.askO i with
      | none =>
        rw [ha] at e2
        simp at e2
        simp [mxO, accO, e2]
      | some v =>
        rw [ha] at e2
        have : (c.hasReq i || c.hasLim i) = true := by rw [← e2]; rfl
        simp [mxO, accO, this]
    | some x => simp

/-- The two folds, name by name. -/
def stepP (i : Nat) (tp : Option Int × Option Int) (c : CV) : Option Int × Option Int :=
  if c.side = true then (accO tp.1 (c.askO i), tp.2) else (tp.1, mxO tp.2 (accO (c.askO i) tp.1))

theorem stepI_at (tp : Fn × Fn) (c : CV) (m : Option Nat × Option Nat) (i : Nat) (hi : i < 3) : ((stepI tp (mk c m)).1 (nm i), (stepI tp (mk c m)).2 (nm i)) = stepP i (tp.1 (nm i), tp.2 (nm i)) c := by
  have e := ov_at c m i hi
  have hp : ((mk c m).pol.toList == [65, 108, 119, 97, 121, 115]) = c.side := pol_side c.side
  unfold stepI stepP
  rw [hp]
  cases c.side
  · simp only [Bool.false_eq_true, if_false, Prod.mk.injEq, true_and]
    unfold mxF accF mxO accO
    rw [e]
    cases tp.1 (nm i) <;> rfl
  · simp only [if_true, Prod.mk.injEq, and_true]
    unfold accF accO
    rw [e]
    cases c.askO i <;> rfl

theorem foldI_at (i : Nat) (hi : i < 3) : ∀ (cs : List CV) (M : List (Option Nat × Option Nat)) (tp : Fn × Fn), M.length = cs.length →
    (((lst cs M).foldl stepI tp).1 (nm i), ((lst cs M).foldl stepI tp).2 (nm i)) = cs.foldl (stepP i) (tp.1 (nm i), tp.2 (nm i))
  | [], [], tp, _ => rfl
  | [], _ :: _, tp, h => by cases h
  | _ :: _, [], tp, h => by cases h
  | c :: cs, m :: M, tp, h => by
    have ih := foldI_at i hi cs M (stepI tp (mk c m)) (by simpa using h)
    show (((lst cs M).foldl stepI (stepI tp (mk c m))).1 (nm i), ((lst cs M).foldl stepI (stepI tp (mk c m))).2 (nm i)) = cs.foldl (stepP i) (stepP i (tp.1 (nm i), tp.2 (nm i)) c)
    rw [ih, stepI_at tp c m i hi]

theorem foldA_at (i : Nat) (hi : i < 3) : ∀ (cs : List CV) (M : List (Option Nat × Option Nat)) (t : Fn), M.length = cs.length →
    foldA t (lst cs M) (nm i) = cs.foldl (fun t c => accO t (c.askO i)) (t (nm i))
  | [], [], t, _ => rfl
  | [], _ :: _, t, h => by cases h
  | _ :: _, [], t, h => by cases h
  | c :: cs, m :: M, t, h => by
    have ih := foldA_at i hi cs M (stepA t (mk c m)) (by simpa using h)
    have e := ov_at c m i hi
    show foldA (stepA t (mk c m)) (lst cs M) (nm i) = cs.foldl (fun t c => accO t (c.askO i)) (accO (t (nm i)) (c.askO i))
    rw [ih]
    have : stepA t (mk c m) (nm i) = accO (t (nm i)) (c.askO i) := by
      unfold stepA accF accO
      rw [e]
      cases c.askO i <;> rfl
    rw [this]

theorem inv_foldI {h0 : Bool} (i : Nat) (hi : i < 3) : ∀ (cs : List CV) (n : Nat) (tp : Option Int × Option Int) (s : Bool × Int × Int), (∀ c ∈ cs, c.ok) → n + cs.length ≤ 2048 → Inv h0 n tp.1 tp.2 s →
    Inv h0 (n + cs.length) (cs.foldl (stepP i) tp).1 (cs.foldl (stepP i) tp).2 (cs.foldl (stepS i) s)
  | [], n, tp, s, _, _, h => h
  | c :: cs, n, tp, s, hc, hn, h => by
    have hn' : n + (cs.length + 1) ≤ 2048 := by simpa using hn
    have hs : Inv h0 (n + 1) (stepP i tp c).1 (stepP i tp c).2 (stepS i s c) := by
      unfold stepP stepS
      by_cases e : c.side = true
      · rw [if_pos e, if_pos e]; exact inv_side h (by omega) (hc c (by simp)) hi
      · rw [if_neg e, if_neg e]; exact inv_peak h (by omega) (hc c (by simp)) hi
    have ih := inv_foldI i hi cs (n + 1) (stepP i tp c) (stepS i s c) (fun x hx => hc x (by simp [hx])) (by omega) hs
    have e : n + (c :: cs).length = n + 1 + cs.length := by simp; omega
    rw [e]
    exact ih

theorem inv_foldA {h0 : Bool} (i : Nat) (hi : i < 3) (p : Option Int) : ∀ (cs : List CV) (n : Nat) (t : Option Int) (s : Bool × Int × Int), (∀ c ∈ cs, c.ok) → n + cs.length ≤ 2048 → Inv h0 n t p s →
    Inv h0 (n + cs.length) (cs.foldl (fun t c => accO t (c.askO i)) t) p (cs.foldl (stepT i) s)
  | [], n, t, s, _, _, h => h
  | c :: cs, n, t, s, hc, hn, h => by
    have hn' : n + (cs.length + 1) ≤ 2048 := by simpa using hn
    have hs := inv_side h (by omega) (hc c (by simp)) hi
    have ih := inv_foldA i hi p cs (n + 1) _ _ (fun x hx => hc x (by simp [hx])) (by omega) hs
    have e : n + (c :: cs).length = n + 1 + cs.length := by simp; omega
    rw [e]
    exact ih

/-- The law's amount. -/
def lawV (o : OV) (i : Nat) (s : Bool × Int × Int) : Int := (if s.2.1 < s.2.2 then s.2.2 else s.2.1) + (if o.has i = true then o.amt i else 0)

theorem plain_law {ci ca : List CV} {Mi Ma : List (Option Nat × Option Nat)} (o : OV) (ho : o.ok) (hMi : Mi.length = ci.length) (hMa : Ma.length = ca.length) (hli : ci.length ≤ 1024) (hla : ca.length ≤ 1024) (hi : ∀ c ∈ ci, c.ok) (ha : ∀ c ∈ ca, c.ok) (i : Nat) (h3 : i < 3) :
    (reqF (lst ci Mi) (lst ca Ma) (part o.has o.amt 3) (nm i)).isSome = (lawA (lawI o i ci) i ca).1 ∧ (reqF (lst ci Mi) (lst ca Ma) (part o.has o.amt 3) (nm i)).getD 0 = lawV o i (lawA (lawI o i ci) i ca) := by
  have f1 := foldI_at i h3 ci Mi (fun _ => none, fun _ => none) hMi
  have i1 := inv_foldI (h0 := o.has i) i h3 ci 0 (none, none) (o.has i, 0, 0) hi (by omega) ⟨rfl, rfl, by simp, by simp, by simp, by simp, by simp⟩
  rw [← f1] at i1
  have f2 := foldA_at i h3 ca Ma (foldI (lst ci Mi)).1 hMa
  have i2 := inv_foldA i h3 _ ca _ _ _ ha (by omega) i1
  have f2' : List.foldl (fun t c => accO t (c.askO i)) ((List.foldl stepI (fun _ => none, fun _ => none) (lst ci Mi)).1 (nm i)) ca = foldA (foldI (lst ci Mi)).1 (lst ca Ma) (nm i) := f2.symm
  rw [f2'] at i2
  have hinv : Inv (o.has i) (0 + ci.length + ca.length) (foldA (foldI (lst ci Mi)).1 (lst ca Ma) (nm i)) ((foldI (lst ci Mi)).2 (nm i)) (lawA (lawI o i ci) i ca) := i2
  clear i1 i2 f1 f2 f2'
  obtain ⟨t, ht⟩ : ∃ t, t = foldA (foldI (lst ci Mi)).1 (lst ca Ma) (nm i) := ⟨_, rfl⟩
  obtain ⟨p, hp⟩ : ∃ p, p = (foldI (lst ci Mi)).2 (nm i) := ⟨_, rfl⟩
  obtain ⟨s, hs⟩ : ∃ s, s = lawA (lawI o i ci) i ca := ⟨_, rfl⟩
  rw [← ht, ← hp, ← hs] at hinv
  rw [← hs]
  have hF : reqF (lst ci Mi) (lst ca Ma) (part o.has o.amt 3) (nm i) = accO (mxO t p) (if o.has i = true then some (o.amt i) else none) := by
    unfold reqF accF mxF accO mxO
    rw [part_at _ _ 3 i (Nat.le_refl _) h3, ← ht, ← hp]
    simp only [h3, true_and]
    cases o.has i <;> cases p <;> rfl
  rw [hF]
  have h1 := hinv.et
  have h2 := hinv.ep
  have h4 := hinv.s0
  have h5 := hinv.s1
  have h6 := hinv.k0
  have h7 := hinv.k1
  have hpr := hinv.pr
  have hoa := ho i h3
  have e4 : ((0 + ci.length + ca.length : Nat) : Int) * big ≤ 2048 * big := Int.mul_le_mul_of_nonneg_right (by omega) (by decide)
  have e5 : 2048 * big + 4294967295 ≤ top := by decide
  have hm : (mxO t p).getD 0 = if s.2.1 < s.2.2 then s.2.2 else s.2.1 := by
    cases hpp : p with
    | none =>
      rw [hpp] at h2
      simp at h2
      rw [if_neg (by omega)]
      exact h1
    | some x =>
      rw [hpp] at h2
      simp at h2
      show (some (mx (t.getD 0) x)).getD 0 = _
      simp only [Option.getD_some, mx, h1, h2]
  have hms : (mxO t p).isSome = (t.isSome || p.isSome) := by cases p <;> simp [mxO]
  unfold lawV
  cases hh : o.has i
  · simp only [Bool.false_eq_true, if_false]
    refine ⟨?_, ?_⟩
    · show (mxO t p).isSome = _
      rw [hms, hpr, hh]
      simp
    · show (mxO t p).getD 0 = _
      rw [hm]
      omega
  · simp only [if_true]
    refine ⟨?_, ?_⟩
    · rw [hpr, hh]; rfl
    · show (some (satp ((mxO t p).getD 0) (o.amt i))).getD 0 = _
      rw [hm, satp_small (by split <;> omega)]
      rfl

/-- How many of the first k names p holds. -/
def cntP (p : Nat → Bool) : Nat → Nat
  | 0 => 0
  | k + 1 => cntP p k + (if p k = true then 1 else 0)

theorem cntP_le (p : Nat → Bool) : ∀ k, cntP p k ≤ k
  | 0 => Nat.le_refl _
  | k + 1 => by
    have := cntP_le p k
    unfold cntP
    split <;> omega

section
variable {o : OV} {i : Nat} {a : Bool} {s q : Int}
theorem lawV1 (h : s < q) (hh : o.has i = true) : lawV o i (a, s, q) = q + o.amt i := by simp [lawV, h, hh]
theorem lawV2 (h : s < q) (hh : o.has i = false) : lawV o i (a, s, q) = q := by simp [lawV, h, hh]
theorem lawV3 (h : ¬ s < q) (hh : o.has i = true) : lawV o i (a, s, q) = s + o.amt i := by simp [lawV, h, hh]
theorem lawV4 (h : ¬ s < q) (hh : o.has i = false) : lawV o i (a, s, q) = s := by simp [lawV, h, hh]
end

theorem cnt3_cntP (f : Fn) : cnt3 f = cntP (fun i => (f (nm i)).isSome) 3 := by
  unfold cnt3
  simp only [cntP]
  omega

/-- Bounds of the law's own sums. -/
theorem lawI_bd (o : OV) (i : Nat) (hi : i < 3) (cs : List CV) (hc : ∀ c ∈ cs, c.ok) (hn : cs.length ≤ 1024) : 0 ≤ (lawI o i cs).2.1 ∧ (lawI o i cs).2.1 ≤ 4398046510080 ∧ 0 ≤ (lawI o i cs).2.2 ∧ (lawI o i cs).2.2 ≤ 4398046510080 := by
  have h := inv_foldI (h0 := o.has i) i hi cs 0 (none, none) (o.has i, 0, 0) hc (by omega) ⟨rfl, rfl, by simp, by simp, by simp, by simp, by simp⟩
  have e4 : ((0 + cs.length : Nat) : Int) * big ≤ 1024 * big := Int.mul_le_mul_of_nonneg_right (by omega) (by decide)
  have e5 : 1024 * big = 4398046510080 := by decide
  have h1 := h.s0
  have h2 := h.s1
  have h3 := h.k0
  have h4 := h.k1
  unfold lawI
  omega

theorem lawA_bd (o : OV) (i : Nat) (hi : i < 3) (ci cs : List CV) (hci : ∀ c ∈ ci, c.ok) (hni : ci.length ≤ 1024) (hc : ∀ c ∈ cs, c.ok) (hn : cs.length ≤ 1024) : 0 ≤ (lawA (lawI o i ci) i cs).2.1 ∧ (lawA (lawI o i ci) i cs).2.1 ≤ 8796093020160 ∧ 0 ≤ (lawA (lawI o i ci) i cs).2.2 ∧ (lawA (lawI o i ci) i cs).2.2 ≤ 8796093020160 := by
  have h0 := inv_foldI (h0 := o.has i) i hi ci 0 (none, none) (o.has i, 0, 0) hci (by omega) ⟨rfl, rfl, by simp, by simp, by simp, by simp, by simp⟩
  have h := inv_foldA i hi _ cs _ _ _ hc (by omega) h0
  have e4 : ((0 + ci.length + cs.length : Nat) : Int) * big ≤ 2048 * big := Int.mul_le_mul_of_nonneg_right (by omega) (by decide)
  have e5 : 2048 * big = 8796093020160 := by decide
  have h1 := h.s0
  have h2 := h.s1
  have h3 := h.k0
  have h4 := h.k1
  unfold lawA lawI
  omega

end Go.Proofs.Ybulkbagm
