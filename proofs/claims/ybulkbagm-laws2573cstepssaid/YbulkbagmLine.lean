/-
  isSpace, zzs2573cws, zzs2573cbrk, ahead, peek: the walks; the map of the text breaks.
-/
import Derived.Test.YbulkbagmRows
import Derived.WalkKit
import Derived.ProofKit
import Derived.Maps.Own
import Derived.Maps.OwnSet
import Derived.Below
import Derived.BigQuiet
import Derived.Deep.QuietTactic
namespace Go.Proofs.Ybulkbagm
open Go.RowKit Go.Maps

theorem law3 : Keyed Yba.prog 3 := int_keyed Yba.underlying3
theorem zero9 (w : World) : (zeroValue 9).run Yba.prog w = .ok (.string ⟨#[]⟩) w := by kernel_rfl

def sp (c : Int) : Bool := c == 32 || c == 9
def ws (c : Int) : Bool := c == 32 || c == 9 || c == 10

set_option maxHeartbeats 400000 in
theorem isSpace_any (c : Int) (w : World) : Calls Yba.prog 20 #[.int .u8 c] w fun e w' => e = .returned (.bool (sp c)) ∧ w' = w := by
  go_enter Yba.func20, Yba.ntmps20
  go_wp2
  all_goals
    go_ret
    exact ⟨by first | rfl | (subst_vars; rfl), rfl⟩

set_option maxHeartbeats 400000 in
theorem cws_any (c : Int) (w : World) : Calls Yba.prog 12 #[.int .u8 c] w fun e w' => e = .returned (.bool (ws c)) ∧ w' = w := by
  go_enter Yba.func12, Yba.ntmps12
  go_wp2
  all_goals
    go_ret
    exact ⟨by first | rfl | (subst_vars; rfl), rfl⟩

/-- A row of bools that came in. -/
def BRow (w : World) (a : Option Addr) (len : Nat) (b : Nat → Bool) : Prop :=
  len = 0 ∨ ∃ x, a = some x ∧ x.block < w.heap.size ∧ ∀ i, i < len → w.cell? (x.add i) = some (.bool (b i))

theorem add_block (a : Addr) (i : Nat) : (a.add i).block = a.block := by unfold Addr.add; split <;> rfl

theorem BRow.below {w w' : World} {a : Option Addr} {len : Nat} {b : Nat → Bool} {B : Nat} (h : BRow w a len b) (hb : Below B w w') (hB : w.heap.size ≤ B) : BRow w' a len b := by
  rcases h with e | ⟨x, e, hx, hc⟩
  · exact Or.inl e
  · exact Or.inr ⟨x, e, Nat.lt_of_lt_of_le hx hb.size, fun i hi => (hb.cell (p := x.add i) (by rw [add_block]; omega)).trans (hc i hi)⟩

/-- A text break stands at i. -/
def brkAt (n len : Nat) (b : Nat → Bool) (i : Nat) : Bool := decide (i < n) && (decide (i < len) && b i)

set_option maxHeartbeats 400000 in
theorem cbrk_any (a : Option Addr) (len cap : Nat) (b : Nat → Bool) (n i : Nat) (w : World) (hb : BRow w a len b) :
    Calls Yba.prog 13 #[.slice a len cap, .int .i64 n, .int .i64 i] w fun e w' => e = .returned (.bool (brkAt n len b i)) ∧ w' = w := by
  have h0 : (0 : Int) ≤ (i : Int) := by omega
  unfold brkAt
  by_cases h1 : i < n
  · have h1' : (i : Int) < (n : Int) := by omega
    have d1 : decide (i < n) = true := decide_eq_true h1
    by_cases h2 : i < len
    · have h2' : (i : Int) < (len : Int) := by omega
      have d2 : decide (i < len) = true := decide_eq_true h2
      rcases hb with rfl | ⟨x, rfl, _, hx⟩
      · omega
      have hxi := hx i h2
      clear hx
      rw [d1, d2]
      go_enter Yba.func13, Yba.ntmps13
      go_wp2
      go_ret
      exact ⟨rfl, rfl⟩
    · have h2' : decide ((i : Int) < (len : Int)) = false := decide_eq_false (by omega)
      have d2 : decide (i < len) = false := decide_eq_false h2
      rw [d1, d2]
      clear hb
      go_enter Yba.func13, Yba.ntmps13
      go_wp2
      go_ret
      exact ⟨rfl, rfl⟩
  · have h1' : decide ((i : Int) < (n : Int)) = false := decide_eq_false (by omega)
    have d1 : decide (i < n) = false := decide_eq_false h1
    rw [d1]
    clear hb
    go_enter Yba.func13, Yba.ntmps13
    go_wp2
    go_ret
    exact ⟨rfl, rfl⟩

/-- A map value that holds the keys h, at most N of them. -/
def MapV (w : World) (m : Option Nat) (N : Nat) (h : Nat → Bool) : Prop :=
  (m = none ∧ ∀ i, h i = false) ∨ ∃ b, ∃ D : DataW Unit, m = some b ∧ w.ownsMap Yba.prog 3 (plainElem Yba.prog 9) b N D ∧ ∀ i : Nat, has D (.int .i64 i) = h i

theorem wf_nat {i : Nat} (h : i ≤ 4096) : (Lit.int .i64 (i : Int)).wf = true := WalkArith.wf_i64 (by omega)

theorem MapV.look {w : World} {m : Option Nat} {N : Nat} {h : Nat → Bool} (hm : MapV w m N h) {i : Nat} (hi : i ≤ 4096) :
    ∃ v, (Instr.lookup 60 (.map m) (.int .i64 i) true).run Yba.prog w = .ok (.tuple #[v, .bool (h i)]) w := by
  have hkey := keyOf_int_mk Yba.underlying3 (wf_nat hi)
  rcases hm with ⟨rfl, h0⟩ | ⟨b, D, rfl, ho, hh⟩
  · rw [h0]
    exact ⟨_, look_nil (w := w) true law3 Yba.underlying60 (zero9 w) hkey⟩
  · obtain ⟨v, ps, hrun, _⟩ := ho.look_ok law3 Yba.underlying60 (zero9 w) (plainElem_string Yba.underlying9 (by simp [ByteArray.size])) hkey
    rw [hh] at hrun
    exact ⟨v, hrun⟩

theorem MapV.drewN {w : World} {m : Option Nat} {N : Nat} {h : Nat → Bool} (hm : MapV w m N h) (k : Nat) : MapV (w.drewN k) m N h := hm

theorem plain_str {P : Program} {e : TypeId} (he : P.underlying e = some .string) {v v' : Value} {d : DataW Unit} {ps ps' : List MemPlace} (h : plainElem (H := Unit) P e v = some (d, ps)) (h' : plainElem (H := Unit) P e v' = some (d, ps')) : v = v' := by
  unfold plainElem at h h'
  rw [he] at h h'
  cases v <;> simp at h
  cases v' <;> simp at h'
  rename_i s s'
  obtain ⟨_, h, _⟩ := h
  obtain ⟨_, h', _⟩ := h'
  rw [← h] at h'
  simp at h'
  cases s; cases s'
  simp_all

theorem MapV.lookN {w : World} {m : Option Nat} {N : Nat} {h : Nat → Bool} (hm : MapV w m N h) {i : Nat} (hi : i ≤ 4096) :
    ∃ v : Value, ∀ k, (Instr.lookup 60 (.map m) (.int .i64 i) true).run Yba.prog (w.drewN k) = .ok (.tuple #[v, .bool (h i)]) (w.drewN k) := by
  have hkey := keyOf_int_mk Yba.underlying3 (wf_nat hi)
  rcases hm with ⟨rfl, h0⟩ | ⟨b, D, rfl, ho, hh⟩
  · rw [h0]
    exact ⟨_, fun k => look_nil (w := w.drewN k) true law3 Yba.underlying60 (zero9 _) hkey⟩
  · have hd : ∀ k, (w.drewN k).ownsMap Yba.prog 3 (plainElem Yba.prog 9) b N D := fun _ => ho
    have hs := plainElem_string (H := Unit) (s := ⟨#[]⟩) Yba.underlying9 (by simp [ByteArray.size])
    obtain ⟨v, ps, _, hv⟩ := ho.look_ok law3 Yba.underlying60 (zero9 w) hs hkey
    refine ⟨v, fun k => ?_⟩
    obtain ⟨v', ps', hrun, hv'⟩ := (hd k).look_ok law3 Yba.underlying60 (zero9 _) hs hkey
    rw [plain_str Yba.underlying9 hv hv', ← hh]
    exact hrun

theorem MapV.kept {w w' : World} {m : Option Nat} {N : Nat} {h : Nat → Bool} {row : Option Nat} (hm : MapV w m N h) (hg : w.grownBy w' row) (hne : ∀ b, m = some b → some b ≠ row) : MapV w' m N h := by
  rcases hm with e | ⟨b, D, e, ho, hh⟩
  · exact Or.inl e
  · exact Or.inr ⟨b, D, e, ho.kept hg (hne b e), hh⟩

theorem drewN_two (w : World) (a b : Nat) : (w.drewN a).drewN b = w.drewN (a + b) := by
  induction b with
  | zero => rfl
  | succ b ih => exact congrArg World.drew ih

/-- THE PARSER AT BLOCK p. -/
structure Psr (w : World) (p d n : Nat) (g : Nat → Int) (m : Option Nat) (N : Nat) (h : Nat → Bool) (pos : Nat) (line ls : Int) : Prop where
  c0 : w.cell? ⟨p, 0, none⟩ = some (.slice (some ⟨d, 0, none⟩) n n)
  c1 : w.cell? ⟨p, 1, none⟩ = some (.int .i64 pos)
  c2 : w.cell? ⟨p, 2, none⟩ = some (.int .i64 line)
  c3 : w.cell? ⟨p, 3, none⟩ = some (.int .i64 ls)
  c4 : w.cell? ⟨p, 4, none⟩ = some (.map m)
  fz : ∀ j, w.frozen? ⟨p, j, none⟩ = false
  txt : ∀ i, i < n → w.cell? ⟨d, i, none⟩ = some (.int .u8 (g i))
  mp : MapV w m N h
  dp : d ≠ p
  mne : ∀ b, m = some b → b ≠ p

set_option maxHeartbeats 400000 in
theorem ahead_any {w : World} {p d n : Nat} {g : Nat → Int} {m : Option Nat} {N : Nat} {h : Nat → Bool} {pos : Nat} {line ls : Int} (P : Psr w p d n g m N h pos line ls) (hn : n ≤ 1024) (hp : pos ≤ n + 1) :
    Calls Yba.prog 21 #[.pointer (some ⟨p, 0, none⟩), .int .i64 0] w fun e w' => e = .returned (.int .u8 (if pos < n then g pos else 0)) ∧ ∃ k, w' = w.drewN k := by
  have c0 := P.c0
  have c1 := P.c1
  have q0 : (0 : Int) ≤ (pos : Int) := by omega
  by_cases h1 : pos < n
  · have h1' : (pos : Int) < (n : Int) := by omega
    have ct := P.txt pos h1
    rw [if_pos h1]
    clear P
    go_enter Yba.func21, Yba.ntmps21
    go_wp2_with fail
    go_quiet (fail)
    go_wp2_with fail
    go_quiet (fail)
    go_wp2_with fail
    go_ret
    exact ⟨rfl, _, drewN_two _ _ _⟩
  · have h1' : decide ((pos : Int) < (n : Int)) = false := decide_eq_false (by omega)
    rw [if_neg h1]
    clear P
    go_enter Yba.func21, Yba.ntmps21
    go_wp2_with fail
    go_quiet (fail)
    go_wp2_with fail
    go_ret
    exact ⟨rfl, _, rfl⟩

end Go.Proofs.Ybulkbagm
