/-
  requests: the walk.
-/
import Derived.Test.YbulkbagmCont
namespace Go.Proofs.Ybulkbagm
open Go.RowKit Go.Maps

/-- A container, as the walk knows it. -/
structure Cn where
  name : ByteArray
  pol : ByteArray
  mq : Option Nat
  ml : Option Nat
  fq : Fn
  fl : Fn

/-- The slice a leads to the containers cs. -/
def Conts (w : World) (a : Option Addr) (cs : List Cn) : Prop := ∀ i (h : i < cs.length), ∃ b, a = some ⟨b, 0, none⟩ ∧ b < w.heap.size ∧
  w.cell? ⟨b, 4 * i, none⟩ = some (.string cs[i].name) ∧ w.cell? ⟨b, 4 * i + 1, none⟩ = some (.map cs[i].mq) ∧ w.cell? ⟨b, 4 * i + 2, none⟩ = some (.map cs[i].ml) ∧ w.cell? ⟨b, 4 * i + 3, none⟩ = some (.string cs[i].pol) ∧
  ResV w cs[i].mq cs[i].fq ∧ ResV w cs[i].ml cs[i].fl

/-- The greater of the two, as Go's max has it. -/
def mx (a b : Int) : Int := if a < b then b else a

/-- What is more: the greater of the two. -/
def mxF (ft fr : Fn) : Fn := fun k => match fr k with
  | none => ft k
  | some v => some (mx ((ft k).getD 0) v)

/-- .. while 'left' is still to come. -/
def mxL (ft fr : Fn) (left : List UInt8 → Bool) : Fn := fun k => if left k then ft k else mxF ft fr k

theorem mxL_start (ft fr : Fn) : mxL ft fr (fun s => (fr s).isSome) = ft := by
  funext k
  unfold mxL mxF
  cases h : fr k <;> simp [h]

theorem mxL_end (ft fr : Fn) {left : List UInt8 → Bool} (h : ∀ s, left s = false) : mxL ft fr left = mxF ft fr := by
  funext k
  unfold mxL
  rw [h]
  rfl

theorem mxL_step (ft fr : Fn) {left : List UInt8 → Bool} {k : List UInt8} {c : Int} (hl : left k = true) (hc : fr k = some c) :
    fset (mxL ft fr left) k (mx ((ft k).getD 0) c) = mxL ft fr (fun z => left z && !decide (z = k)) := by
  funext z
  unfold fset mxL
  by_cases e : z = k
  · subst e
    simp [hl, mxF, hc]
  · simp [e]

theorem mxL_at (ft fr : Fn) {left : List UInt8 → Bool} {k : List UInt8} (hl : left k = true) : mxL ft fr left k = ft k := by
  unfold mxL; rw [hl]; rfl

def stepI (tp : Fn × Fn) (c : Cn) : Fn × Fn :=
  if (c.pol.toList == [65, 108, 119, 97, 121, 115]) = true then (accF tp.1 (ov c.fl c.fq), tp.2) else (tp.1, mxF tp.2 (accF (ov c.fl c.fq) tp.1))

def foldI (cs : List Cn) : Fn × Fn := cs.foldl stepI (fun _ => none, fun _ => none)

theorem foldI_snoc (cs : List Cn) (k : Nat) (h : k < cs.length) : foldI (cs.take (k + 1)) = stepI (foldI (cs.take k)) cs[k] := by
  rw [List.take_succ_eq_append_getElem h]
  unfold foldI
  rw [List.foldl_append]
  rfl

def stepA (t : Fn) (c : Cn) : Fn := accF t (ov c.fl c.fq)

def foldA (t : Fn) (cs : List Cn) : Fn := cs.foldl stepA t

theorem foldA_snoc (t : Fn) (cs : List Cn) (k : Nat) (h : k < cs.length) : foldA t (cs.take (k + 1)) = stepA (foldA t (cs.take k)) cs[k] := by
  rw [List.take_succ_eq_append_getElem h]
  unfold foldA
  rw [List.foldl_append]
  rfl

/-- What 'requests' answers. -/
def reqF (is ps : List Cn) (fo : Fn) : Fn := accF (mxF (foldA (foldI is).1 ps) (foldI is).2) fo

theorem elem30 : Yba.prog.elem 30 = 48 := by kernel_rfl
theorem cells48 : Yba.prog.cellsOf 48 = 4 := by kernel_rfl
theorem hidx (w : World) (b n cap i : Nat) (h : i < n) : (Instr.indexAt 30 (.slice (some ⟨b, 0, none⟩) n cap) (.int .i64 i)).run Yba.prog w = .ok (.pointer (some ⟨b, 4 * i, none⟩)) w := by
  rw [run_indexAt_slice (h := by rw [elem30]; exact Yba.underlying30), if_pos (by omega), elem30]
  have hs : (sizeOf 48).run Yba.prog w = .ok 4 w := by kernel_rfl
  rw [hs]
  simp only [Result.andThen, Addr.add]
  have e : 0 + (i : Int).toNat * 4 = 4 * i := by omega
  rw [e]
  split
  · have : 4 * i = 0 := by omega
    rw [this]
  · rfl

/-- containerRequests on the container that the round has boxed. -/
theorem container_at (c : Cn) (wr : World) (hq : ResV wr c.mq c.fq) (hl : ResV wr c.ml c.fl) :
    Calls Yba.prog 14 #[.agg #[.string c.name, .map c.mq, .map c.ml, .string c.pol]] (wr.alloc (.cells #[.string c.name, .map c.mq, .map c.ml, .string c.pol] 48)) fun e w1 =>
      e = .returned (.map (some (wr.heap.size + 1 + 1))) ∧ Res w1 (wr.heap.size + 1 + 1) (ov c.fl c.fq) ∧ w1.cell? ⟨wr.heap.size, 3, none⟩ = some (.string c.pol) ∧ Below wr.heap.size wr w1 := by
  refine (container_any _ _ _ _ _ _ _ (hq.alloc _) (hl.alloc _)).mono ?_
  rintro e w1 ⟨rfl, hr1, hb1⟩
  have e1 : ∀ o, (wr.alloc o).heap.size = wr.heap.size + 1 := by simp
  rw [e1] at hr1 hb1 ⊢
  refine ⟨rfl, hr1, ?_, ((Below.refl _ _).alloc (Nat.le_refl _) _).trans (hb1.mono (by omega))⟩
  rw [hb1.cell (by simp)]
  go_simp

set_option maxRecDepth 100000 in
set_option maxHeartbeats 2000000 in
theorem requests_any (pb : Nat) (ia aa : Option Addr) (ic ac : Nat) (is ps : List Cn) (mo : Option Nat) (fo : Fn) (w : World) (hpb : pb < w.heap.size)
    (hp6 : w.cell? ⟨pb, 6, none⟩ = some (.slice ia is.length ic)) (hp5 : w.cell? ⟨pb, 5, none⟩ = some (.slice aa ps.length ac)) (hp8 : w.cell? ⟨pb, 8, none⟩ = some (.map mo))
    (hil : is.length ≤ 1024) (hal : ps.length ≤ 1024) (hi : Conts w ia is) (ha : Conts w aa ps) (ho : ResV w mo fo) :
    Calls Yba.prog 8 #[.pointer (some ⟨pb, 0, none⟩)] w fun e w' => e = .returned (.map (some w.heap.size)) ∧ Res w' w.heap.size (reqF is ps fo) ∧ Below w.heap.size w w' := by
  have hmm := @run_makeMap Yba.prog
  go_enter Yba.func8, Yba.ntmps8
  go_wp2
  have hT0 : Res ((w.alloc (.map #[] 0)).alloc (.map #[] 0)) w.heap.size (foldI (is.take 0)).1 := (Res.made w).alloc _
  have hP0 : Res ((w.alloc (.map #[] 0)).alloc (.map #[] 0)) (w.heap.size + 1) (foldI (is.take 0)).2 := by
    have := Res.made (w.alloc (.map #[] 0))
    have e1 : (w.alloc (.map #[] 0)).heap.size = w.heap.size + 1 := by simp
    rw [e1] at this
    exact this
  have hb0 : Below w.heap.size w ((w.alloc (.map #[] 0)).alloc (.map #[] 0)) := ((Below.refl _ _).alloc (Nat.le_refl _) _).alloc (by simp) _
  go_loopw [21] (fun i wr => ∃ k : Nat, i = .int .i64 k ∧ k ≤ is.length ∧ Res wr w.heap.size (foldI (is.take k)).1 ∧ Res wr (w.heap.size + 1) (foldI (is.take k)).2 ∧ Below w.heap.size w wr)
    (fun i _ => is.length - (intOf i).toNat)
  case atStart => exact ⟨0, rfl, Nat.zero_le _, hT0, hP0, hb0⟩
  case round =>
    obtain ⟨k, rfl, hk, hT, hP, hb⟩ := hrel
    clear hT0 hP0 hb0
    by_cases hlt : k < is.length
    · obtain ⟨b, hia, hblt, c0, c1, c2, c3, hq, hl⟩ := hi k hlt
      have hix := fun wx => hidx wx b is.length ic k hlt
      rw [← hia] at hix
      clear hia
      have d0 := (hb.cell hblt).trans c0
      have d1 := (hb.cell hblt).trans c1
      have d2 := (hb.cell hblt).trans c2
      have d3 := (hb.cell hblt).trans c3
      have hqr : ResV wr is[k].mq is[k].fq := hq.below hb hq.lt
      have hlr : ResV wr is[k].ml is[k].fl := hl.below hb hl.lt
      have HS : Hid (foldI (is.take (k + 1)) = stepI (foldI (is.take k)) is[k]) := foldI_snoc is k hlt
      clear c0 c1 c2 c3
      go_wp2_with fail
      refine (container_at is[k] wr hqr hlr).mono ?_
      rintro e w1 ⟨rfl, hr1, hc1, hb1⟩
      have hsz := hb.size
      have hPl := hP.lt
      have hT1 := hT.below hb1 (by omega)
      have hP1 := hP.below hb1 (by omega)
      have hbw1 := hb.trans (hb1.mono hsz)
      go_wp2_with fail
      · -- a sidecar
        have hpol : (is[k].pol.toList == [65, 108, 119, 97, 121, 115]) = true := by assumption
        refine (accumulate_any _ _ _ _ _ hT1 hr1 (by omega)).mono ?_
        rintro e w2 ⟨rfl, hT2, hg2⟩
        go_wp2_with fail
        go_roundw
        case rel =>
          refine ⟨k + 1, by go_num, by omega, ?_, ?_, hbw1.grown hg2 hbw1.size (fun j hj => by cases hj; exact Nat.le_refl _)⟩
          · rw [HS.out, stepI, if_pos hpol]; exact hT2
          · rw [HS.out, stepI, if_pos hpol]; exact hP1.kept hg2 (fun e => by have := Option.some.inj e; omega)
        case measure => simp [intOf]; omega
      · have hpol : (is[k].pol.toList == [65, 108, 119, 97, 121, 115]) = false := by assumption
        refine (accumulate_any _ _ _ _ _ hr1 hT1 (by omega)).mono ?_
        rintro e w2 ⟨rfl, hr2, hg2⟩
        have hT2 := hT1.kept hg2 (fun e => by have := Option.some.inj e; omega)
        have hP2 := hP1.kept hg2 (fun e => by have := Option.some.inj e; omega)
        have hbw2 : Below w.heap.size w w2 := hbw1.grown hg2 hbw1.size (fun j hj => by cases hj; omega)
        have hz2 : wr.heap.size + 1 + 1 < w2.heap.size := hr2.lt
        clear hg2 hT1 hP1 hr1 hc1 hb1 hbw1
        go_wp2_with (first
          | (at_range; refine wpList_range_res _ rfl _ rfl _ _ rfl hr2 ?_; intro w3 cnt3' hrg3 hg3 hs3)
          | go_in)
        go_frame
        have hT3 := hT2.kept hg3 (by simp)
        have hP3 := hP2.kept hg3 (by simp)
        have hbw3 : Below w.heap.size w w3 := hbw2.grown hg3 hbw2.size (fun j hj => by cases hj)
        obtain ⟨wz, hwz⟩ : ∃ x, x = wr := ⟨_, rfl⟩
        subst hwz
        clear hg3 hs3 hT2 hP2
        go_loopw [8] (fun _ wx => ∃ (left : List UInt8 → Bool) (cnt : Nat), Rng wx (wz.heap.size + 1 + 1) w2.heap.size (accF (ov is[k].fl is[k].fq) (foldI (is.take k)).1) left cnt ∧
            Res wx (w.heap.size + 1) (mxL (foldI (is.take k)).2 (accF (ov is[k].fl is[k].fq) (foldI (is.take k)).1) left) ∧ Res wx w.heap.size (foldI (is.take k)).1 ∧ Below w.heap.size w wx)
          (fun _ wx => wx.rangeLeft (wz.heap.size + 1 + 1) w2.heap.size)
        case atStart => exact ⟨_, _, hrg3, by rw [mxL_start]; exact hP3, hT3, hbw3⟩
        case round =>
          obtain ⟨left, cnt, hrg, hPx, hTx, hbx⟩ := hrel
          clear hrg3 hP3 hT3 hbw3
          go_wp2_with (first
            | (at_next; refine wpList_next_res _ rfl _ rfl _ _ _ left cnt rfl hrg ?_ ?_)
            | go_in)
          · intro hl0
            go_wp2_with fail
            go_roundw
            case rel =>
              refine ⟨k + 1, by go_num, by omega, ?_, ?_, hbx⟩
              · rw [HS.out, stepI, if_neg (by rw [hpol]; decide)]; exact hTx
              · rw [HS.out, stepI, if_neg (by rw [hpol]; decide)]; rw [mxL_end _ _ hl0] at hPx; exact hPx
            case measure => simp [intOf]; omega
          · intro s c w4 cnt4 hsn hls hfs hc0 hc1 hrg4 hlt4 hg4 hs4 hen
            have hP4 := hPx.kept hg4 (fun e => by have := Option.some.inj e; omega)
            have hT4 := hTx.kept hg4 (fun e => by have := Option.some.inj e; omega)
            have hgt := good_get hP.good s.data.toList
            obtain ⟨g, hgn⟩ : ∃ g, g = ((foldI (is.take k)).2 s.data.toList).getD 0 := ⟨_, rfl⟩
            have HG : Hid (g = ((foldI (is.take k)).2 s.data.toList).getD 0) := hgn
            rw [← hgn] at hgt
            clear hgn hs4
            by_cases hmx : g < c
            all_goals
              have HM : Hid (mx g c = if g < c then c else g) := rfl
              go_wp2_with (first
                | (at_lookup; refine wpList_lookup_res _ rfl _ _ rfl _ _ rfl hP4 s rfl hsn ?_; rw [mxL_at _ _ hls, ← HG.out])
                | (at_mapUpdate; refine wpList_update_res _ rfl _ _ _ rfl _ _ rfl hP4 s rfl hsn _ rfl (by omega) (by omega) ?_; intro w5 hP5 hg5; go_frame)
                | go_in)
              have hrg5 := hrg4.kept hg5 (fun e => by have := Option.some.inj e; omega) (fun e => by have := Option.some.inj e; omega)
              go_roundw
              case rel =>
                refine ⟨_, cnt4, hrg5, ?_, ?_, ?_⟩
                · rw [← mxL_step _ _ hls hfs, ← HG.out, HM.out]
                  first | (rw [if_pos hmx]; exact hP5) | (rw [if_neg hmx]; exact hP5)
                · exact hT4.kept hg5 (fun e => by have := Option.some.inj e; omega)
                · exact (hbx.grown hg4 hbx.size (fun j hj => by cases hj; omega)).grown hg5 (by have := hbx.size; have := hg4.size; omega) (fun j hj => by cases hj; omega)
              case measure => rw [hrg5.left_eq, hrg.left_eq]; exact hlt4
    · have hkl : k = is.length := by omega
      subst hkl
      rw [List.take_length] at hT hP
      obtain ⟨wz, hwz⟩ : ∃ x, x = wr := ⟨_, rfl⟩
      subst hwz
      have hp5z := (hb.cell (p := ⟨pb, 5, none⟩) hpb).trans hp5
      go_wp2_with fail
      go_loopw [56] (fun i wr => ∃ k : Nat, i = .int .i64 k ∧ k ≤ ps.length ∧ Res wr w.heap.size (foldA (foldI is).1 (ps.take k)) ∧ Res wr (w.heap.size + 1) (foldI is).2 ∧ Below w.heap.size w wr)
        (fun i _ => ps.length - (intOf i).toNat)
      case atStart => exact ⟨0, rfl, Nat.zero_le _, hT, hP, hb⟩
      case round =>
        obtain ⟨k, rfl, hk2, hTx, hPx, hbx⟩ := hrel
        clear hT hP hp5z hb
        by_cases hlt2 : k < ps.length
        · obtain ⟨b, hia, hblt, c0, c1, c2, c3, hq, hl⟩ := ha k hlt2
          have hix := fun wx => hidx wx b ps.length ac k hlt2
          rw [← hia] at hix
          clear hia
          have d0 := (hbx.cell hblt).trans c0
          have d1 := (hbx.cell hblt).trans c1
          have d2 := (hbx.cell hblt).trans c2
          have d3 := (hbx.cell hblt).trans c3
          have hqr : ResV wr ps[k].mq ps[k].fq := hq.below hbx hq.lt
          have hlr : ResV wr ps[k].ml ps[k].fl := hl.below hbx hl.lt
          have HS : Hid (foldA (foldI is).1 (ps.take (k + 1)) = stepA (foldA (foldI is).1 (ps.take k)) ps[k]) := foldA_snoc _ ps k hlt2
          clear c0 c1 c2 c3
          go_wp2_with fail
          refine (container_at ps[k] wr hqr hlr).mono ?_
          rintro e w1 ⟨rfl, hr1, hc1, hb1⟩
          have hsz := hbx.size
          have hPl := hPx.lt
          have hT1 := hTx.below hb1 (by omega)
          have hP1 := hPx.below hb1 (by omega)
          have hbw1 := hbx.trans (hb1.mono hsz)
          go_wp2_with fail
          refine (accumulate_any _ _ _ _ _ hT1 hr1 (by omega)).mono ?_
          rintro e w2 ⟨rfl, hT2, hg2⟩
          go_wp2_with fail
          go_roundw
          case rel =>
            refine ⟨k + 1, by go_num, by omega, ?_, hP1.kept hg2 (fun e => by have := Option.some.inj e; omega), hbw1.grown hg2 hbw1.size (fun j hj => by cases hj; exact Nat.le_refl _)⟩
            rw [HS.out, stepA]; exact hT2
          case measure => simp [intOf]; omega
        · have hkl : k = ps.length := by omega
          subst hkl
          rw [List.take_length] at hTx
          have hPl := hPx.lt
          go_wp2_with (first
            | (at_range; refine wpList_range_res _ rfl _ rfl _ _ rfl hPx ?_; intro w3 cnt3' hrg3 hg3 hs3)
            | go_in)
          go_frame
          have hT3 := hTx.kept hg3 (by simp)
          have hbw3 : Below w.heap.size w w3 := hbx.grown hg3 hbx.size (fun j hj => by cases hj)
          obtain ⟨wy, hwy⟩ : ∃ x, x = wr := ⟨_, rfl⟩
          subst hwy
          clear hg3 hs3
          go_loopw [12] (fun _ wx => ∃ (left : List UInt8 → Bool) (cnt : Nat), Rng wx (w.heap.size + 1) wy.heap.size (foldI is).2 left cnt ∧
              Res wx w.heap.size (mxL (foldA (foldI is).1 ps) (foldI is).2 left) ∧ Below w.heap.size w wx)
            (fun _ wx => wx.rangeLeft (w.heap.size + 1) wy.heap.size)
          case atStart => exact ⟨_, _, hrg3, by rw [mxL_start]; exact hT3, hbw3⟩
          case round =>
            obtain ⟨left, cnt, hrg, hTz, hbz⟩ := hrel
            clear hrg3 hT3 hbw3
            go_wp2_with (first
              | (at_next; refine wpList_next_res _ rfl _ rfl _ _ _ left cnt rfl hrg ?_ ?_)
              | go_in)
            · intro hl0
              rw [mxL_end _ _ hl0] at hTz
              have hp8z := (hbz.cell (p := ⟨pb, 8, none⟩) hpb).trans hp8
              have hoz : ResV wr mo fo := ho.below hbz ho.lt
              go_wp2_with fail
              refine (accumulate_v _ _ _ _ _ hTz hoz (fun e => by have := ho.lt _ e; omega)).mono ?_
              rintro e w4 ⟨rfl, hT4, hg4⟩
              go_wp2_with fail
              go_ret
              exact ⟨rfl, hT4, hbz.grown hg4 hbz.size (fun j hj => by cases hj; exact Nat.le_refl _)⟩
            · intro s c w4 cnt4 hsn hls hfs hc0 hc1 hrg4 hlt4 hg4 hs4 hen
              have hT4 := hTz.kept hg4 (fun e => by have := Option.some.inj e; omega)
              have hgt := good_get hTx.good s.data.toList
              obtain ⟨g, hgn⟩ : ∃ g, g = ((foldA (foldI is).1 ps) s.data.toList).getD 0 := ⟨_, rfl⟩
              have HG : Hid (g = ((foldA (foldI is).1 ps) s.data.toList).getD 0) := hgn
              rw [← hgn] at hgt
              clear hgn hs4
              by_cases hmx : g < c
              all_goals
                have HM : Hid (mx g c = if g < c then c else g) := rfl
                go_wp2_with (first
                  | (at_lookup; refine wpList_lookup_res _ rfl _ _ rfl _ _ rfl hT4 s rfl hsn ?_; rw [mxL_at _ _ hls, ← HG.out])
                  | (at_mapUpdate; refine wpList_update_res _ rfl _ _ _ rfl _ _ rfl hT4 s rfl hsn _ rfl (by omega) (by omega) ?_; intro w5 hP5 hg5; go_frame)
                  | go_in)
                have hrg5 := hrg4.kept hg5 (fun e => by have := Option.some.inj e; omega) (fun e => by have := Option.some.inj e; omega)
                go_roundw
                case rel =>
                  refine ⟨_, cnt4, hrg5, ?_, ?_⟩
                  · rw [← mxL_step _ _ hls hfs, ← HG.out, HM.out]
                    first | (rw [if_pos hmx]; exact hP5) | (rw [if_neg hmx]; exact hP5)
                  · exact (hbz.grown hg4 hbz.size (fun j hj => by cases hj; omega)).grown hg5 (by have := hbz.size; have := hg4.size; omega) (fun j hj => by cases hj; omega)
                case measure => rw [hrg5.left_eq, hrg.left_eq]; exact hlt4

end Go.Proofs.Ybulkbagm
