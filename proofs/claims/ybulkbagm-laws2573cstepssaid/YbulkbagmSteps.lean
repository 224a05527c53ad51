/-
  lineBreaks: the walk, and what it counts.
-/
import Derived.Test.YbulkbagmBreaks
namespace Go.Proofs.Ybulkbagm
open Go.RowKit Go.Maps

/-- The last line break among s .. e-1 (s is one). -/
def lastN (g : Nat → Int) (s : Nat) : Nat → Nat
  | 0 => s
  | e + 1 => if s < e ∧ g e = 10 then e else lastN g s e

/-- How many of the line breaks among s .. e-1 are no text breaks. -/
def cntN (g : Nat → Int) (h : Nat → Bool) (s : Nat) : Nat → Nat
  | 0 => 0
  | e + 1 => if (e = s ∨ (s < e ∧ g e = 10)) ∧ h e = false then cntN g h s e + 1 else cntN g h s e

theorem lastN_low (g : Nat → Int) (s : Nat) : ∀ e, e ≤ s + 1 → lastN g s e = s
  | 0, _ => rfl
  | e + 1, he => by
    unfold lastN
    rw [if_neg (by omega)]
    exact lastN_low g s e (by omega)

theorem cntN_low (g : Nat → Int) (h : Nat → Bool) (s : Nat) : ∀ e, e ≤ s → cntN g h s e = 0
  | 0, _ => rfl
  | e + 1, he => by
    unfold cntN
    rw [if_neg (by omega)]
    exact cntN_low g h s e (by omega)

theorem lastN_at {g : Nat → Int} {s k : Nat} (hk : k = s ∨ (s < k ∧ g k = 10)) : lastN g s (k + 1) = k := by
  rcases hk with rfl | hk
  · exact lastN_low g k _ (Nat.le_refl _)
  · show (if _ then _ else _) = _
    rw [if_pos hk]

theorem cntN_at {g : Nat → Int} {h : Nat → Bool} {s k : Nat} (hk : k = s ∨ (s < k ∧ g k = 10)) : cntN g h s (k + 1) = if h k = true then cntN g h s k else cntN g h s k + 1 := by
  show (if _ then _ else _) = _
  cases hh : h k
  · rw [if_pos ⟨hk, rfl⟩]; simp
  · simp

theorem lastN_none {g : Nat → Int} {s k : Nat} (hk : g k ≠ 10) : lastN g s (k + 1) = lastN g s k := by
  show (if _ then _ else _) = _
  rw [if_neg (fun h => hk h.2)]

theorem cntN_none {g : Nat → Int} {h : Nat → Bool} {s k : Nat} (hs : s < k) (hk : g k ≠ 10) : cntN g h s (k + 1) = cntN g h s k := by
  show (if _ then _ else _) = _
  rw [if_neg]
  rintro ⟨h1 | h1, _⟩
  · omega
  · exact hk h1.2

theorem lastN_skip {g : Nat → Int} {s k : Nat} : ∀ j, (∀ i, k ≤ i → i < k + j → g i ≠ 10) → lastN g s (k + j) = lastN g s k
  | 0, _ => rfl
  | j + 1, hj => by
    rw [← Nat.add_assoc, lastN_none (hj _ (by omega) (by omega))]
    exact lastN_skip j (fun i h1 h2 => hj i h1 (by omega))

theorem cntN_skip {g : Nat → Int} {h : Nat → Bool} {s k : Nat} (hs : s < k) : ∀ j, (∀ i, k ≤ i → i < k + j → g i ≠ 10) → cntN g h s (k + j) = cntN g h s k
  | 0, _ => rfl
  | j + 1, hj => by
    rw [← Nat.add_assoc, cntN_none (by omega) (hj _ (by omega) (by omega))]
    exact cntN_skip hs j (fun i h1 h2 => hj i h1 (by omega))

theorem sp_ne {c : Int} (h : sp c = true) : c ≠ 10 := by
  rintro rfl
  exact absurd h (by decide)
theorem sp_ws {c : Int} (h : sp c = true) : ws c = true := by
  have e : ws c = (sp c || c == 10) := rfl
  rw [e, h]
  rfl
theorem nl_ws : ws 10 = true := by decide
theorem ws_false {c : Int} (h : sp c = false) (hc : c ≠ 10) : ws c = false := by
  have e : ws c = (sp c || c == 10) := rfl
  rw [e, h]
  simp [hc]

theorem wrap_line (line : Int) (c : Nat) (b : Bool) : (if b = true then wrap64 (line + c) else wrap64 (wrap64 (line + c) + 1)) = wrap64 (line + ((if b = true then c else c + 1 : Nat) : Int)) := by
  cases b
  · simp
    unfold wrap64
    omega
  · simp

/-- Where lineBreaks stops: q. -/
def Stops (n : Nat) (g : Nat → Int) (s q : Nat) : Prop := s < q ∧ (q ≤ n ∨ q = s + 1) ∧ (∀ i, s < i → i < q → ws (g i) = true) ∧ (q < n → ws (g q) = false)

theorem Stops.unique {n : Nat} {g : Nat → Int} {s q q' : Nat} (h : Stops n g s q) (h' : Stops n g s q') : q = q' := by
  obtain ⟨a1, a2, a3, a4⟩ := h
  obtain ⟨b1, b2, b3, b4⟩ := h'
  rcases Nat.lt_trichotomy q q' with hl | hl | hl
  · have h1 := a4 (by omega)
    rw [b3 q a1 hl] at h1
    cases h1
  · exact hl
  · have h1 := b4 (by omega)
    rw [a3 q' b1 hl] at h1
    cases h1

section
variable {w : World} {p d n : Nat} {g : Nat → Int} {m : Option Nat} {N : Nat} {h : Nat → Bool} {pos : Nat} {line ls : Int}

set_option maxHeartbeats 1000000 in
theorem lineBreaks_any (P : Psr w p d n g m N h pos line ls) (hd : d < w.heap.size) (hn : n ≤ 1024) (hp : pos ≤ n) (hl : wrap64 line = line) :
    Calls Yba.prog 11 #[.pointer (some ⟨p, 0, none⟩)] w fun e w' => e = .returned (.tuple #[]) ∧ (∃ q, Psr w' p d n g m N h q (wrap64 (line + (cntN g h pos q : Nat))) ((lastN g pos q + 1 : Nat) : Int) ∧ Stops n g pos q) ∧ w.grownBy w' (some p) := by
  go_enter Yba.func11, Yba.ntmps11
  go_wp2_with fail
  go_loopw [] (fun wr => ∃ k lx, Psr wr p d n g m N h k (wrap64 (line + (cntN g h pos k : Nat))) lx ∧ (k = pos ∨ (pos < k ∧ g k = 10)) ∧ (k < n ∨ k = pos) ∧ (∀ i, pos < i → i < k → ws (g i) = true) ∧ w.grownBy wr (some p)) (fun wr => n - Ybulkbagm.posOf wr p)
  case atStart =>
    refine ⟨pos, ls, ?_, Or.inl rfl, Or.inr rfl, fun i _ _ => by omega, World.grownBy.refl _ _⟩
    rw [cntN_low g h pos pos (Nat.le_refl _)]
    simpa [hl] using P
  case round =>
    obtain ⟨k, lx, Q, hk, hkn, hws, hg⟩ := hrel
    have hdr : d < wr.heap.size := Nat.lt_of_lt_of_le hd hg.size
    have hkp : pos ≤ k := by omega
    go_wp2_with fail
    refine (newline_any Q hdr hn (by omega)).mono ?_
    rintro e w1 ⟨rfl, Q1, hg1⟩
    rw [wrap_line, ← cntN_at hk] at Q1
    have hd1 : d < w1.heap.size := Nat.lt_of_lt_of_le hdr hg1.size
    go_wp2_with fail
    refine (skipSpace_any Q1 hd1 hn (by omega)).mono ?_
    rintro e w2 ⟨rfl, ⟨q, Q2, ⟨hq1, hq2, hq3⟩, hq4⟩, hg2⟩
    have hne : ∀ i, k + 1 ≤ i → i < q → g i ≠ 10 := fun i h1 h2 => sp_ne (hq3 i h1 h2)
    have hc : cntN g h pos (k + 1) = cntN g h pos q := by
      have := cntN_skip (g := g) (h := h) (s := pos) (k := k + 1) (by omega) (q - (k + 1)) (fun i h1 h2 => hne i h1 (by omega))
      rw [show k + 1 + (q - (k + 1)) = q by omega] at this
      exact this.symm
    have hla : k = lastN g pos q := by
      have := lastN_skip (g := g) (s := pos) (k := k + 1) (q - (k + 1)) (fun i h1 h2 => hne i h1 (by omega))
      rw [show k + 1 + (q - (k + 1)) = q by omega, lastN_at hk] at this
      exact this.symm
    have hw2 : ∀ i, pos < i → i < q → ws (g i) = true := by
      intro i h1 h2
      by_cases e1 : i < k
      · exact hws i h1 e1
      · by_cases e2 : i = k
        · rcases hk with rfl | hk
          · omega
          · rw [e2, hk.2]; exact nl_ws
        · exact sp_ws (hq3 i (by omega) h2)
    have hgw := (hg.trans hg1).trans hg2
    go_wp2_with fail
    by_cases hnl : q < n ∧ g q = 10
    · refine (peek_any Q2 hn (by omega) 10 (by rw [if_pos hnl.1]; exact hnl.2)).mono ?_
      rintro e w3 ⟨rfl, j, rfl⟩
      have Q3 := Q2.drewN j
      rw [hc] at Q3
      go_wp2_with fail
      go_roundw
      case rel =>
        exact ⟨q, _, Q3, Or.inr ⟨by omega, hnl.2⟩, Or.inl hnl.1, hw2, hgw.trans (grown_drewN _ _ _)⟩
      case measure =>
        rw [Q3.posOf, Q.posOf]
        omega
    · obtain ⟨c, hcc⟩ : ∃ c, (if q < n then g q else 0) = c := ⟨_, rfl⟩
      have hc10 : c ≠ 10 := by
        rw [← hcc]
        split
        · exact fun e => hnl ⟨by assumption, e⟩
        · omega
      have hcd : (c == 10) = false := by simpa using hc10
      refine (peek_any Q2 hn (by omega) c hcc).mono ?_
      rintro e w3 ⟨rfl, j, rfl⟩
      have Q3 := Q2.drewN j
      clear hcc
      rw [hc] at Q3
      go_wp2_with fail
      refine bodyPost_ret (results_none rfl _ _ _) rfl ?_
      refine ⟨rfl, ⟨q, ?_, by omega, by omega, hw2, fun hqn => ws_false (hq4 hqn) (fun e => hnl ⟨hqn, e⟩)⟩, hgw.trans (grown_drewN _ _ _)⟩
      rw [← hla]
      exact Q3

end
end Go.Proofs.Ybulkbagm
