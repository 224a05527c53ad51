/-
  peek, newline, skipSpace, lineBreaks: the walks.
-/
import Derived.Test.YbulkbagmLine
import Derived.Maps.AppendAt
namespace Go.Proofs.Ybulkbagm
open Go.RowKit Go.Maps

section
variable {w : World} {p d n : Nat} {g : Nat → Int} {m : Option Nat} {N : Nat} {h : Nat → Bool} {pos : Nat} {line ls : Int}

theorem Psr.drewN (P : Psr w p d n g m N h pos line ls) (k : Nat) : Psr (w.drewN k) p d n g m N h pos line ls :=
  ⟨P.c0, P.c1, P.c2, P.c3, P.c4, P.fz, P.txt, P.mp, P.dp, P.mne⟩

theorem grown_drewN (w : World) (k : Nat) (row : Option Nat) : w.grownBy (w.drewN k) row := ⟨rfl, rfl, rfl, Nat.le_refl _, fun _ _ _ => rfl⟩

theorem grown_setCell (w : World) (p j : Nat) (v : Value) : w.grownBy (w.setCell ⟨p, j, none⟩ v) (some p) :=
  have b : Below 0 w (w.setCell ⟨p, j, none⟩ v) := (Below.refl 0 w).setCell (Nat.zero_le _) v
  ⟨b.os, b.tape, b.output, b.size, fun i _ hne => Below.heap_setCell w ⟨p, j, none⟩ v i (fun e => hne (by rw [e]))⟩

/-- A world in which only block p has turned, and in it the three numbers. -/
theorem Psr.turn {w' : World} {pos' : Nat} {line' ls' : Int} (P : Psr w p d n g m N h pos line ls) (hg : w.grownBy w' (some p)) (hd : d < w.heap.size) (h0 : w'.cell? ⟨p, 0, none⟩ = w.cell? ⟨p, 0, none⟩) (h4 : w'.cell? ⟨p, 4, none⟩ = w.cell? ⟨p, 4, none⟩)
    (h1 : w'.cell? ⟨p, 1, none⟩ = some (.int .i64 pos')) (h2 : w'.cell? ⟨p, 2, none⟩ = some (.int .i64 line')) (h3 : w'.cell? ⟨p, 3, none⟩ = some (.int .i64 ls')) (hf : ∀ j, w'.frozen? ⟨p, j, none⟩ = false) :
    Psr w' p d n g m N h pos' line' ls' :=
  ⟨h0.trans P.c0, h1, h2, h3, h4.trans P.c4, hf, fun i hi => (World.cell?_of_block (w := w) (hg.block d hd (fun e => P.dp (Option.some.inj e)))).trans (P.txt i hi),
    P.mp.kept hg (fun b e e2 => P.mne b e (Option.some.inj e2)), P.dp, P.mne⟩

theorem Psr.frozen_set (P : Psr w p d n g m N h pos line ls) (j : Nat) (v : Value) : ∀ i, (w.setCell ⟨p, j, none⟩ v).frozen? ⟨p, i, none⟩ = false := fun i => by
  rw [World.frozen?_setCell]; exact P.fz i

theorem Psr.setPos (P : Psr w p d n g m N h pos line ls) (hd : d < w.heap.size) (pos' : Nat) : Psr (w.setCell ⟨p, 1, none⟩ (.int .i64 pos')) p d n g m N h pos' line ls :=
  P.turn (grown_setCell w p 1 _) hd (World.cell?_setCell_other _ _ _ _ (by simp)) (World.cell?_setCell_other _ _ _ _ (by simp)) (World.cell?_setCell_same _ _ _ P.c1)
    ((World.cell?_setCell_other _ _ _ _ (by simp)).trans P.c2) ((World.cell?_setCell_other _ _ _ _ (by simp)).trans P.c3) (P.frozen_set _ _)
theorem Psr.setLine (P : Psr w p d n g m N h pos line ls) (hd : d < w.heap.size) (line' : Int) : Psr (w.setCell ⟨p, 2, none⟩ (.int .i64 line')) p d n g m N h pos line' ls :=
  P.turn (grown_setCell w p 2 _) hd (World.cell?_setCell_other _ _ _ _ (by simp)) (World.cell?_setCell_other _ _ _ _ (by simp)) ((World.cell?_setCell_other _ _ _ _ (by simp)).trans P.c1)
    (World.cell?_setCell_same _ _ _ P.c2) ((World.cell?_setCell_other _ _ _ _ (by simp)).trans P.c3) (P.frozen_set _ _)
theorem Psr.setLs (P : Psr w p d n g m N h pos line ls) (hd : d < w.heap.size) (ls' : Int) : Psr (w.setCell ⟨p, 3, none⟩ (.int .i64 ls')) p d n g m N h pos line ls' :=
  P.turn (grown_setCell w p 3 _) hd (World.cell?_setCell_other _ _ _ _ (by simp)) (World.cell?_setCell_other _ _ _ _ (by simp)) ((World.cell?_setCell_other _ _ _ _ (by simp)).trans P.c1)
    ((World.cell?_setCell_other _ _ _ _ (by simp)).trans P.c2) (World.cell?_setCell_same _ _ _ P.c3) (P.frozen_set _ _)

theorem set_size (w : World) (a : Addr) (v : Value) : (w.setCell a v).heap.size = w.heap.size := by simp

theorem peek_any (P : Psr w p d n g m N h pos line ls) (hn : n ≤ 1024) (hp : pos ≤ n + 1) (c : Int) (hc : (if pos < n then g pos else 0) = c) :
    Calls Yba.prog 18 #[.pointer (some ⟨p, 0, none⟩)] w fun e w' => e = .returned (.int .u8 c) ∧ ∃ k, w' = w.drewN k := by
  have ha := ahead_any P hn hp
  rw [hc] at ha
  clear hc
  go_enter Yba.func18, Yba.ntmps18
  go_wp2_with fail
  refine ha.mono ?_
  rintro e w1 ⟨rfl, k, rfl⟩
  go_wp2_with fail
  go_ret
  exact ⟨rfl, k, rfl⟩

theorem natc (pos : Nat) : ((pos : Int) + 1) = ((pos + 1 : Nat) : Int) := by omega

set_option maxHeartbeats 1000000 in
theorem newline_any (P : Psr w p d n g m N h pos line ls) (hd : d < w.heap.size) (hn : n ≤ 1024) (hp : pos ≤ n) :
    Calls Yba.prog 16 #[.pointer (some ⟨p, 0, none⟩)] w fun e w' => e = .returned (.tuple #[]) ∧ Psr w' p d n g m N h (pos + 1) (if h pos = true then line else wrap64 (line + 1)) ((pos + 1 : Nat) : Int) ∧ w.grownBy w' (some p) := by
  obtain ⟨v, hv⟩ := P.mp.lookN (i := pos) (by omega)
  have c1 := P.c1
  have c4 := P.c4
  have c2 := P.c2
  have c3 := P.c3
  have f1 := P.fz 1
  have f2 := P.fz 2
  have f3 := P.fz 3
  cases hh : h pos
  · rw [hh] at hv
    simp only [Bool.false_eq_true, if_false]
    go_enter Yba.func16, Yba.ntmps16
    go_wp2_with fail
    go_quiet (fail)
    go_wp2_with fail
    go_end0
    rw [natc]
    exact ⟨rfl, (((P.drewN nq).setLine hd _).setPos (by rw [set_size]; exact hd) _).setLs (by rw [set_size, set_size]; exact hd) _,
      (((grown_drewN w nq _).trans (grown_setCell _ _ _ _)).trans (grown_setCell _ _ _ _)).trans (grown_setCell _ _ _ _)⟩
  · rw [hh] at hv
    simp only [if_true]
    go_enter Yba.func16, Yba.ntmps16
    go_wp2_with fail
    go_quiet (fail)
    go_wp2_with fail
    go_end0
    rw [natc]
    exact ⟨rfl, (((P.drewN nq).setPos hd _)).setLs (by rw [set_size]; exact hd) _,
      (((grown_drewN w nq _)).trans (grown_setCell _ _ _ _)).trans (grown_setCell _ _ _ _)⟩

def posOf (w : World) (p : Nat) : Nat := match w.cell? ⟨p, 1, none⟩ with
  | some (.int _ x) => x.toNat
  | _ => 0

theorem Psr.posOf (P : Psr w p d n g m N h pos line ls) : posOf w p = pos := by
  unfold Ybulkbagm.posOf
  rw [P.c1]
  simp

theorem isSpace_eq {c : Int} {b : Bool} (hb : sp c = b) (w : World) : Calls Yba.prog 20 #[.int .u8 c] w fun e w' => e = .returned (.bool b) ∧ w' = w := by
  rw [← hb]; exact isSpace_any c w

/-- Where skipSpace stops. -/
def Skips (n : Nat) (g : Nat → Int) (pos q : Nat) : Prop := pos ≤ q ∧ (q ≤ n ∨ q = pos) ∧ ∀ i, pos ≤ i → i < q → sp (g i) = true

set_option maxHeartbeats 1000000 in
theorem skipSpace_any (P : Psr w p d n g m N h pos line ls) (hd : d < w.heap.size) (hn : n ≤ 1024) (hp : pos ≤ n + 1) :
    Calls Yba.prog 17 #[.pointer (some ⟨p, 0, none⟩)] w fun e w' => e = .returned (.tuple #[]) ∧ (∃ q, Psr w' p d n g m N h q line ls ∧ Skips n g pos q ∧ (q < n → sp (g q) = false)) ∧ w.grownBy w' (some p) := by
  go_enter Yba.func17, Yba.ntmps17
  go_wp2_with fail
  go_loopw [] (fun wr => ∃ q, Psr wr p d n g m N h q line ls ∧ Skips n g pos q ∧ w.grownBy wr (some p)) (fun wr => n - Ybulkbagm.posOf wr p)
  case atStart =>
    exact ⟨pos, P, ⟨Nat.le_refl _, Or.inr rfl, fun i _ _ => by omega⟩, World.grownBy.refl _ _⟩
  case round =>
    obtain ⟨q, Q, hs, hg⟩ := hrel
    have hdr : d < wr.heap.size := Nat.lt_of_lt_of_le hd hg.size
    have c0 := Q.c0
    have c1 := Q.c1
    have f1 := Q.fz 1
    have q0 : (0 : Int) ≤ (q : Int) := by omega
    have hq1 : q ≤ n + 1 := by have := hs.2.1; omega
    by_cases h1 : q < n
    · have h1' : (q : Int) < (n : Int) := by omega
      have ct := Q.txt q h1
      cases hsp : sp (g q)
      · have hcall := fun w => isSpace_eq hsp w
        go_wp2_with fail
        go_quiet ((go_at_call 20; exact Calls.quiet_of_same (hcall _)))
        go_wp2_with fail
        go_end0
        exact ⟨rfl, ⟨q, Q.drewN _, hs, fun _ => hsp⟩, hg.trans (grown_drewN _ _ _)⟩
      · have hcall := fun w => isSpace_eq hsp w
        go_wp2_with fail
        go_quiet ((go_at_call 20; exact Calls.quiet_of_same (hcall _)))
        go_wp2_with fail
        have Q2 := (Q.drewN nq).setPos hdr (q + 1)
        rw [← natc] at Q2
        go_roundw
        case rel =>
          refine ⟨q + 1, Q2, ⟨by have := hs.1; omega, Or.inl h1, fun i hi hlt => ?_⟩, (hg.trans (grown_drewN _ _ _)).trans (grown_setCell _ _ _ _)⟩
          by_cases e : i = q
          · rw [e]; exact hsp
          · exact hs.2.2 i hi (by omega)
        case measure =>
          rw [Q2.posOf, Q.posOf]
          omega
    · have h1' : decide ((q : Int) < (n : Int)) = false := decide_eq_false (by omega)
      go_wp2_with fail
      go_quiet (fail)
      go_wp2_with fail
      go_end0
      exact ⟨rfl, ⟨q, Q.drewN _, hs, fun hh => absurd hh h1⟩, hg.trans (grown_drewN _ _ _)⟩

end
end Go.Proofs.Ybulkbagm
