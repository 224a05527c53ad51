/-
  containerRequests: the walk.
-/
import Derived.Test.YbulkbagmAcc
namespace Go.Proofs.Ybulkbagm
open Go.RowKit Go.Maps

/-- fr laid over ft. -/
def ov (ft fr : Fn) : Fn := fun k => match fr k with
  | none => ft k
  | some v => some v

/-- .. while 'left' is still to come. -/
def ovL (ft fr : Fn) (left : List UInt8 → Bool) : Fn := fun k => if left k then ft k else ov ft fr k

theorem ovL_start (ft fr : Fn) : ovL ft fr (fun s => (fr s).isSome) = ft := by
  funext k
  unfold ovL ov
  cases h : fr k <;> simp [h]

theorem ovL_end (ft fr : Fn) {left : List UInt8 → Bool} (h : ∀ s, left s = false) : ovL ft fr left = ov ft fr := by
  funext k
  unfold ovL
  rw [h]
  rfl

theorem ovL_step (ft fr : Fn) {left : List UInt8 → Bool} {k : List UInt8} {c : Int} (hc : fr k = some c) :
    fset (ovL ft fr left) k c = ovL ft fr (fun z => left z && !decide (z = k)) := by
  funext z
  unfold fset ovL
  by_cases e : z = k
  · subst e
    simp [ov, hc]
  · simp [e]

theorem ov_none (fr : Fn) : ov (fun _ => none) fr = fr := by
  funext k
  unfold ov
  cases fr k <;> rfl

theorem hmk32 (w : World) (n : Int) : (Instr.makeMap 32 (some (.int .i64 n))).run Yba.prog w = .ok (.map (some w.heap.size)) (w.alloc (.map #[] 0)) := by
  simp [Instr.makeMap, run_underlying Yba.underlying32, asInt]
  rfl

set_option maxRecDepth 100000 in
set_option maxHeartbeats 1000000 in
theorem container_any (nmS pol : ByteArray) (mq ml : Option Nat) (fq fl : Fn) (w : World) (hq : ResV w mq fq) (hl : ResV w ml fl) :
    Calls Yba.prog 14 #[.agg #[.string nmS, .map mq, .map ml, .string pol]] w fun e w' => e = .returned (.map (some (w.heap.size + 1))) ∧ Res w' (w.heap.size + 1) (ov fl fq) ∧ Below w.heap.size w w' := by
  have hmk := hmk32
  have hqlt := hq.lt
  have hllt := hl.lt
  have e1 : ∀ o, (w.alloc o).heap.size = w.heap.size + 1 := by simp
  go_enter Yba.func14, Yba.ntmps14
  go_wp2_with (first
    | (at_len; refine wpList_len_resV _ rfl _ rfl _ _ rfl (by first | exact hq.alloc _ | exact hl.alloc _) ?_)
    | (at_range; refine wpList_range_resV _ rfl _ rfl ml fl rfl ((hl.alloc _).alloc _) ?_; intro w0 cnt0 hrg0 hg0 hs0)
    | go_in)
  go_frame
  have e2 : ∀ o o', ((w.alloc o).alloc o').heap.size = w.heap.size + 2 := by simp
  rw [e2] at hrg0 hs0 ⊢
  have hb0 : Below w.heap.size w w0 := (((Below.refl _ _).alloc (Nat.le_refl _) _).alloc (by simp) _).grown hg0 (by simp; omega) (fun j hj => by cases hj)
  have hres0 : Res w0 (w.heap.size + 1) (fun _ => none) := by
    have := Res.made (w.alloc (.cells #[.string nmS, .map mq, .map ml, .string pol] 48))
    rw [e1] at this
    exact this.kept hg0 (by simp)
  have hc0 : w0.cell? ⟨w.heap.size, 1, none⟩ = some (.map mq) := hg0.cell (by go_simp) (by simp)
  have hq0 : ResV w0 mq fq := ((hq.alloc _).alloc _).kept hg0 (by simp)
  clear hg0 hs0 e1 e2
  go_loopw [4] (fun _ wr => ∃ (left : List UInt8 → Bool) (cnt : Nat), RngV wr ml (w.heap.size + 2) fl left cnt ∧ Res wr (w.heap.size + 1) (ovL (fun _ => none) fl left) ∧ ResV wr mq fq ∧ wr.cell? ⟨w.heap.size, 1, none⟩ = some (.map mq) ∧ Below w.heap.size w wr)
    (fun _ wr => leftV wr ml (w.heap.size + 2))
  case atStart => exact ⟨_, _, hrg0, by rw [ovL_start]; exact hres0, hq0, hc0, hb0⟩
  case round =>
    obtain ⟨left, cnt, hrg, hres, hqr, hcr, hbr⟩ := hrel
    obtain ⟨wz, hwz⟩ : ∃ x, x = wr := ⟨_, rfl⟩
    subst hwz
    clear hres0 hc0 hq0 hb0 hrg0
    go_wp2_with (first
      | (at_next; refine wpList_next_resV _ rfl _ rfl ml (w.heap.size + 2) fl left cnt rfl hrg ?_ ?_)
      | go_in)
    · intro hl0
      rw [ovL_end _ _ hl0, ov_none] at hres
      have hlt2 := hrg.lt
      go_wp2_with (first
        | (at_range; refine wpList_range_resV _ rfl _ rfl mq fq rfl hqr ?_; intro w1 cnt1 hrg1 hg1 hs1)
        | go_in)
      go_frame
      have hb1 : Below w.heap.size w w1 := hbr.grown hg1 hbr.size (fun j hj => by cases hj)
      have hres1 := hres.kept hg1 (by simp)
      clear hg1 hs1
      go_loopw [6] (fun _ wx => ∃ (left : List UInt8 → Bool) (cnt : Nat), RngV wx mq wz.heap.size fq left cnt ∧ Res wx (w.heap.size + 1) (ovL fl fq left) ∧ Below w.heap.size w wx)
        (fun _ wx => leftV wx mq wz.heap.size)
      case atStart => exact ⟨_, _, hrg1, by rw [ovL_start]; exact hres1, hb1⟩
      case round =>
        obtain ⟨left2, cnt2, hrg2, hres2, hb2⟩ := hrel
        clear hres1 hb1 hrg1
        go_wp2_with (first
          | (at_next; refine wpList_next_resV _ rfl _ rfl mq wz.heap.size fq left2 cnt2 rfl hrg2 ?_ ?_)
          | go_in)
        · intro hl1
          go_wp2
          go_ret
          exact ⟨rfl, by rw [← ovL_end fl fq hl1]; exact hres2, hb2⟩
        · intro s c w3 cnt3' hsn hls hfs hc0 hc1 hrg3 hlt hg3 hs3 hen
          have hres3 := hres2.kept hg3 (fun e => by have := Option.some.inj e; omega)
          clear hs3
          go_wp2_with (first
            | (at_mapUpdate; refine wpList_update_res _ rfl _ _ _ rfl (w.heap.size + 1) _ rfl hres3 s rfl hsn _ rfl hc0 hc1 ?_; intro w4 hres4 hg4; go_frame)
            | go_in)
          have hrg4 := hrg3.kept hg4 hrg3.lt (fun b e e' => by have := hqlt b e; have := Option.some.inj e'; omega) (fun e => by have := Option.some.inj e; omega)
          go_roundw
          case rel =>
            refine ⟨_, cnt3', hrg4, by rw [← ovL_step fl fq hfs]; exact hres4, ?_⟩
            exact (hb2.grown hg3 hb2.size (fun j hj => by cases hj; omega)).grown hg4 (by have := hb2.size; have := hg3.size; omega) (fun j hj => by cases hj; omega)
          case measure => rw [hrg4.left_eq, hrg2.left_eq]; exact hlt
    · intro s c w3 cnt3' hsn hls hfs hc0 hc1 hrg3 hlt hg3 hs3 hen
      have hres3 := hres.kept hg3 (fun e => by have := Option.some.inj e; omega)
      clear hs3
      go_wp2_with (first
        | (at_mapUpdate; refine wpList_update_res _ rfl _ _ _ rfl (w.heap.size + 1) _ rfl hres3 s rfl hsn _ rfl hc0 hc1 ?_; intro w4 hres4 hg4; go_frame)
        | go_in)
      have hrg4 := hrg3.kept hg4 hrg3.lt (fun b e e' => by have := hllt b e; have := Option.some.inj e'; omega) (fun e => by have := Option.some.inj e; omega)
      go_roundw
      case rel =>
        refine ⟨_, cnt3', hrg4, by rw [← ovL_step (fun _ => none) fl hfs]; exact hres4, ?_, ?_, ?_⟩
        · exact (hqr.kept hg3 (fun b e e' => by have := hqlt b e; have := Option.some.inj e'; omega)).kept hg4 (fun b e e' => by have := hqlt b e; have := Option.some.inj e'; omega)
        · exact hg4.cell (hg3.cell hcr (fun e => by have := Option.some.inj e; simp at this)) (fun e => by have := Option.some.inj e; simp at this)
        · exact (hbr.grown hg3 hbr.size (fun j hj => by cases hj; omega)).grown hg4 (by have := hbr.size; have := hg3.size; omega) (fun j hj => by cases hj; omega)
      case measure => rw [hrg4.left_eq, hrg.left_eq]; exact hlt

end Go.Proofs.Ybulkbagm
