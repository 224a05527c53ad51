/-
  LawS2573BModel: the walk.
-/
import Derived.Test.YbulkbagmOver
import Derived.Test.YbulkbagmPlain
import Derived.Deep.CutBlock
namespace Go.Proofs.Ybulkbagm
open Go.RowKit Go.Maps

/-- The slice a leads to the containers cs of the law's own kind. -/
def RowsCV (w : World) (a : Option Addr) (cs : List CV) : Prop := ∀ i (h : i < cs.length), ∃ b p, (∀ (cap : Nat) wx, (Instr.indexAt 22 (.slice a cs.length cap) (.int .i64 i)).run Yba.prog wx = .ok (.pointer (some ⟨b, p, none⟩)) wx) ∧ b < w.heap.size ∧
  w.cell? ⟨b, p, none⟩ = some (.int .u32 (cs[i].req 0)) ∧ w.cell? ⟨b, p + 1, none⟩ = some (.int .u32 (cs[i].req 1)) ∧ w.cell? ⟨b, p + 2, none⟩ = some (.int .u32 (cs[i].req 2)) ∧
  w.cell? ⟨b, p + 3, none⟩ = some (.bool (cs[i].hasReq 0)) ∧ w.cell? ⟨b, p + 4, none⟩ = some (.bool (cs[i].hasReq 1)) ∧ w.cell? ⟨b, p + 5, none⟩ = some (.bool (cs[i].hasReq 2)) ∧
  w.cell? ⟨b, p + 6, none⟩ = some (.int .u32 (cs[i].lim 0)) ∧ w.cell? ⟨b, p + 7, none⟩ = some (.int .u32 (cs[i].lim 1)) ∧ w.cell? ⟨b, p + 8, none⟩ = some (.int .u32 (cs[i].lim 2)) ∧
  w.cell? ⟨b, p + 9, none⟩ = some (.bool (cs[i].hasLim 0)) ∧ w.cell? ⟨b, p + 10, none⟩ = some (.bool (cs[i].hasLim 1)) ∧ w.cell? ⟨b, p + 11, none⟩ = some (.bool (cs[i].hasLim 2)) ∧ w.cell? ⟨b, p + 12, none⟩ = some (.bool cs[i].side) ∧ cs[i].ok

/-- What is known of the world while the law checks. R: the answer's block. -/
structure Cw (w wr : World) (R : Nat) (F : Fn) (o : OV) : Prop where
  res : Res wr R F
  bel : Below w.heap.size w wr
  oc : ∀ j, j < 6 → wr.cell? ⟨w.heap.size, j, none⟩ = o.cells[j]?

theorem Cw.lt {w wr : World} {R : Nat} {F : Fn} {o : OV} (h : Cw w wr R F o) : w.heap.size < wr.heap.size :=
  World.block_lt_of_cell? wr ⟨w.heap.size, 0, none⟩ ((h.oc 0 (by omega)).trans (ov_amt o 0 (by omega)))

theorem Cw.later {w wr w' : World} {R : Nat} {F : Fn} {o : OV} (h : Cw w wr R F o) (hb : Below wr.heap.size wr w') : Cw w w' R F o :=
  ⟨h.res.below hb h.res.lt, h.bel.trans (hb.mono h.bel.size), fun j hj => (hb.cell (p := ⟨w.heap.size, j, none⟩) h.lt).trans (h.oc j hj)⟩

theorem rows_ok {w : World} {a : Option Addr} {cs : List CV} (h : RowsCV w a cs) : ∀ c ∈ cs, c.ok := by
  intro c hc
  obtain ⟨i, hi, rfl⟩ := List.getElem_of_mem hc
  obtain ⟨_, _, _, _, _, _, _, _, _, _, _, _, _, _, _, _, _, hok⟩ := h i hi
  exact hok

theorem ph_zero (o : OV) (w : World) : Ph 6 5 w ((w.alloc (.cells #[.int .u32 (o.amt 0), .int .u32 (o.amt 1), .int .u32 (o.amt 2), .bool (o.has 0), .bool (o.has 1), .bool (o.has 2)] 27)).alloc (.cells #[.string ⟨#[]⟩, .string ⟨#[]⟩, .map none, .string ⟨#[]⟩, .map none, .slice none 0 0, .slice none 0 0, .string ⟨#[]⟩, .map none, .pointer none, .pointer none, .slice none 0 0, .slice none 0 0, .string ⟨#[]⟩, .pointer none,
    .int .u64 0, .int .i64 0, .pointer none, .int .u64 0, .int .i64 0, .pointer none, .int .u64 0, .int .i64 0, .pointer none, .pointer none] 44)) o [] [] none none 0 0 none (fun _ => none) := by
  refine ⟨fun j hj => ?_, ?_, ?_, ?_, fun j => ?_, World.ownsRow_nil _ _ _ _, World.ownsRow_nil _ _ _ _, fun g g' e => (by cases e), fun n hn => (by cases hn), fun n hn => (by cases hn), ResV.nil _, ((Below.refl _ _).alloc (Nat.le_refl _) _).alloc (by simp) _, by simp⟩
  · rw [World.cell?_alloc_past _ _ _ (by simp), World.cell?_alloc_at _ _ _ _ rfl]; rfl
  · rw [World.cell?_alloc_at _ _ _ _ (by simp)]; rfl
  · rw [World.cell?_alloc_at _ _ _ _ (by simp)]; rfl
  · rw [World.cell?_alloc_at _ _ _ _ (by simp)]; rfl
  · exact World.frozen?_alloc_at _ _ _ _ (by simp)

theorem new_cells {w : World} {n : Cn} : ∀ j u, (cellsOf n)[j]? = some u → (w.alloc (.cells #[.string n.name, .map n.mq, .map n.ml, .string n.pol] 48)).cell? ⟨w.heap.size, j, none⟩ = some u := by
  intro j u h
  rw [World.cell?_alloc_at _ _ _ _ rfl]
  rw [← h]
  simp [cellsOf]

set_option maxRecDepth 100000 in
set_option maxHeartbeats 8000000 in
theorem model_any (ai aa : Option Addr) (ci ca : List CV) (capi capa : Nat) (o : OV) (w : World) (hi : RowsCV w ai ci) (ha : RowsCV w aa ca) (ho : o.ok) (hli : ci.length ≤ 1024) (hla : ca.length ≤ 1024) :
    Calls Yba.prog 3 #[.slice ai ci.length capi, .slice aa ca.length capa, .agg #[.int .u32 (o.amt 0), .int .u32 (o.amt 1), .int .u32 (o.amt 2), .bool (o.has 0), .bool (o.has 1), .bool (o.has 2)]] w
      fun e w' => e = .returned (.bool true) ∧ Below w.heap.size w w' := by
  have hph0 := ph_zero o w
  go_enter Yba.func3, Yba.ntmps3
  go_upto_block 0 with fail
  go_cut [] (fun wx => ∃ Mi ia ic, Mi.length = ci.length ∧ Ph 6 5 w wx o (lst ci Mi) [] ia none ic 0 none (fun _ => none))
  case first =>
    go_wp2_with fail
    go_loopw [39] (fun i wr => ∃ (k : Nat) (Mi : List (Option Nat × Option Nat)) (ia : Option Addr) (ic : Nat), i = .int .i64 k ∧ k ≤ ci.length ∧ Mi.length = k ∧ Ph 6 5 w wr o (lst (ci.take k) Mi) [] ia none ic 0 none (fun _ => none)) (fun i _ => ci.length - (intOf i).toNat)
    case atStart => exact ⟨0, [], none, 0, rfl, Nat.zero_le _, rfl, hph0⟩
    case round =>
      obtain ⟨k, Mi, ia, ic, rfl, hk, hM, hph⟩ := hrel
      clear hph0
      have HM : Hid (Mi.length = k) := hM
      clear hM
      by_cases hlt : k < ci.length
      · obtain ⟨b, p, hix, hblt, c0, c1, c2, c3, c4, c5, c6, c7, c8, c9, c10, c11, c12, hok⟩ := hi k hlt
        have hb := hph.bel
        have d0 := (hb.cell (p := ⟨b, p, none⟩) hblt).trans c0
        have d1 := (hb.cell (p := ⟨b, p + 1, none⟩) hblt).trans c1
        have d2 := (hb.cell (p := ⟨b, p + 2, none⟩) hblt).trans c2
        have d3 := (hb.cell (p := ⟨b, p + 3, none⟩) hblt).trans c3
        have d4 := (hb.cell (p := ⟨b, p + 4, none⟩) hblt).trans c4
        have d5 := (hb.cell (p := ⟨b, p + 5, none⟩) hblt).trans c5
        have d6 := (hb.cell (p := ⟨b, p + 6, none⟩) hblt).trans c6
        have d7 := (hb.cell (p := ⟨b, p + 7, none⟩) hblt).trans c7
        have d8 := (hb.cell (p := ⟨b, p + 8, none⟩) hblt).trans c8
        have d9 := (hb.cell (p := ⟨b, p + 9, none⟩) hblt).trans c9
        have d10 := (hb.cell (p := ⟨b, p + 10, none⟩) hblt).trans c10
        have d11 := (hb.cell (p := ⟨b, p + 11, none⟩) hblt).trans c11
        have d12 := (hb.cell (p := ⟨b, p + 12, none⟩) hblt).trans c12
        clear c0 c1 c2 c3 c4 c5 c6 c7 c8 c9 c10 c11 c12
        have hz0 : w.heap.size + 1 < wr.heap.size := by have := hph.sz; omega
        have hpx := hph.px
        have hph1 := hph.later ((Below.refl _ _).alloc (Nat.le_refl _) (.cells #[.int .u32 (ci[k].req 0), .int .u32 (ci[k].req 1), .int .u32 (ci[k].req 2), .bool (ci[k].hasReq 0), .bool (ci[k].hasReq 1), .bool (ci[k].hasReq 2), .int .u32 (ci[k].lim 0), .int .u32 (ci[k].lim 1), .int .u32 (ci[k].lim 2), .bool (ci[k].hasLim 0), .bool (ci[k].hasLim 1), .bool (ci[k].hasLim 2), .bool ci[k].side] 46))
        have hl2 : (lst (ci.take k) Mi).length = k := by rw [lst_len (by rw [HM.out]; simp; omega)]; simp; omega
        have HL : Hid ((lst (ci.take k) Mi).length = k) := hl2
        clear hl2
        go_wp2_with fail
        go_region_law (first
          | (refine step_app rfl _ _ rfl (w.heap.size + 2) ia ic _ (flat (lst (ci.take k) Mi)) rfl hph3.ri _ rfl (mk ci[k] (mq, ml)) new_cells (by rw [HL.out]; omega) (by have := hph3.sz; omega) ?_; intro g cap w2 hrow2 hg2 hloc2; have hq2 := (hph3.grown_pod hg2).1; have hf2 := (hph3.grown_pod hg2).2)
          | (refine step_bld rfl _ rfl ci[k] hok rfl ?_; intro mq ml w1 hq1 hl1 hb1; have hph2 := hph1.later (w' := w1) ⟨hb1.os, hb1.tape, hb1.output, hb1.size, hb1.block⟩; have hpx1 := hph2.px; have hz1 : w.heap.size + 1 < w1.heap.size := (by have := hph2.sz; omega); have hph3 := hph2.later ((Below.refl _ _).alloc (Nat.le_refl _) (.cells #[.string ⟨#[]⟩, .map mq, .map ml, .string (polOf ci[k].side)] 48))))
        all_goals
          go_wp2_with fail
          go_roundw
          case rel => exact ⟨k + 1, Mi ++ [(mq, ml)], _, _, by go_num, by omega, by rw [List.length_append, HM.out]; rfl, by rw [← lst_snoc hlt HM.out]; exact hph3.app (by decide) (by decide) (mk ci[k] (mq, ml)) ⟨hq1.alloc _, hl1.alloc _⟩ hrow2 hg2 hloc2⟩
          case measure => simp [intOf]; omega
      · have hkl : k = ci.length := by omega
        subst hkl
        go_wp2_with fail
        go_meet
        case rel => exact ⟨Mi, ia, ic, HM.out, by rw [List.take_length] at hph; exact hph⟩
  case rest =>
    obtain ⟨Mi, ia, ic, hMi, hphA⟩ := hcut
    have HMi : Hid (Mi.length = ci.length) := hMi
    clear hMi hph0
    go_upto_block 2 with fail
    go_cut [] (fun wx => ∃ Ma ja jc, Ma.length = ca.length ∧ Ph 6 5 w wx o (lst ci Mi) (lst ca Ma) ia ja ic jc none (fun _ => none))
    case first =>
      go_wp2_with fail
      go_loopw [57] (fun i wr => ∃ (k : Nat) (Ma : List (Option Nat × Option Nat)) (ja : Option Addr) (jc : Nat), i = .int .i64 k ∧ k ≤ ca.length ∧ Ma.length = k ∧ Ph 5 6 w wr o (lst (ca.take k) Ma) (lst ci Mi) ja ia jc ic none (fun _ => none)) (fun i _ => ca.length - (intOf i).toNat)
      case atStart => exact ⟨0, [], none, 0, rfl, Nat.zero_le _, rfl, hphA.swap⟩
      case round =>
        obtain ⟨k, Ma, ja, jc, rfl, hk, hM, hph⟩ := hrel
        clear hphA
        have HM : Hid (Ma.length = k) := hM
        clear hM
        by_cases hlt : k < ca.length
        · obtain ⟨b, p, hix, hblt, c0, c1, c2, c3, c4, c5, c6, c7, c8, c9, c10, c11, c12, hok⟩ := ha k hlt
          have hb := hph.bel
          have d0 := (hb.cell (p := ⟨b, p, none⟩) hblt).trans c0
          have d1 := (hb.cell (p := ⟨b, p + 1, none⟩) hblt).trans c1
          have d2 := (hb.cell (p := ⟨b, p + 2, none⟩) hblt).trans c2
          have d3 := (hb.cell (p := ⟨b, p + 3, none⟩) hblt).trans c3
          have d4 := (hb.cell (p := ⟨b, p + 4, none⟩) hblt).trans c4
          have d5 := (hb.cell (p := ⟨b, p + 5, none⟩) hblt).trans c5
          have d6 := (hb.cell (p := ⟨b, p + 6, none⟩) hblt).trans c6
          have d7 := (hb.cell (p := ⟨b, p + 7, none⟩) hblt).trans c7
          have d8 := (hb.cell (p := ⟨b, p + 8, none⟩) hblt).trans c8
          have d9 := (hb.cell (p := ⟨b, p + 9, none⟩) hblt).trans c9
          have d10 := (hb.cell (p := ⟨b, p + 10, none⟩) hblt).trans c10
          have d11 := (hb.cell (p := ⟨b, p + 11, none⟩) hblt).trans c11
          have d12 := (hb.cell (p := ⟨b, p + 12, none⟩) hblt).trans c12
          clear c0 c1 c2 c3 c4 c5 c6 c7 c8 c9 c10 c11 c12
          have hz0 : w.heap.size + 1 < wr.heap.size := by have := hph.sz; omega
          have hpx := hph.px
          have hph1 := hph.later ((Below.refl _ _).alloc (Nat.le_refl _) (.cells #[.int .u32 (ca[k].req 0), .int .u32 (ca[k].req 1), .int .u32 (ca[k].req 2), .bool (ca[k].hasReq 0), .bool (ca[k].hasReq 1), .bool (ca[k].hasReq 2), .int .u32 (ca[k].lim 0), .int .u32 (ca[k].lim 1), .int .u32 (ca[k].lim 2), .bool (ca[k].hasLim 0), .bool (ca[k].hasLim 1), .bool (ca[k].hasLim 2), .bool ca[k].side] 46))
          have hl2 : (lst (ca.take k) Ma).length = k := by rw [lst_len (by rw [HM.out]; simp; omega)]; simp; omega
          have HL : Hid ((lst (ca.take k) Ma).length = k) := hl2
          clear hl2
          go_wp2_with fail
          go_region_law (first
            | (refine step_app rfl _ _ rfl (w.heap.size + 2) ja jc _ (flat (lst (ca.take k) Ma)) rfl hph3.ri _ rfl (mk ca[k] (mq, ml)) new_cells (by rw [HL.out]; omega) (by have := hph3.sz; omega) ?_; intro g cap w2 hrow2 hg2 hloc2; have hq2 := (hph3.grown_pod hg2).1; have hf2 := (hph3.grown_pod hg2).2)
            | (refine step_bld rfl _ rfl ca[k] hok rfl ?_; intro mq ml w1 hq1 hl1 hb1; have hph2 := hph1.later (w' := w1) ⟨hb1.os, hb1.tape, hb1.output, hb1.size, hb1.block⟩; have hpx1 := hph2.px; have hz1 : w.heap.size + 1 < w1.heap.size := (by have := hph2.sz; omega); have hph3 := hph2.later ((Below.refl _ _).alloc (Nat.le_refl _) (.cells #[.string ⟨#[]⟩, .map mq, .map ml, .string (polOf ca[k].side)] 48))))
          all_goals
            go_wp2_with fail
            go_roundw
            case rel => exact ⟨k + 1, Ma ++ [(mq, ml)], _, _, by go_num, by omega, by rw [List.length_append, HM.out]; rfl, by rw [← lst_snoc hlt HM.out]; exact hph3.app (by decide) (by decide) (mk ca[k] (mq, ml)) ⟨hq1.alloc _, hl1.alloc _⟩ hrow2 hg2 hloc2⟩
            case measure => simp [intOf]; omega
        · have hkl : k = ca.length := by omega
          subst hkl
          go_wp2_with fail
          go_meet
          case rel => exact ⟨Ma, ja, jc, HM.out, by rw [List.take_length] at hph; exact hph.swap⟩
    case rest =>
      obtain ⟨Ma, ja, jc, hMa, hphB⟩ := hcut
      have HMa : Hid (Ma.length = ca.length) := hMa
      clear hMa hphA
      obtain ⟨wB, hwB⟩ : ∃ x, x = wc := ⟨_, rfl⟩
      subst hwB
      have hoh0 := oh_start hphB o.has o.amt
      have hmm := @run_makeMap Yba.prog
      have heq := fun wx r => run_eql_map_nil (P := Yba.prog) wx 32 9 2 r Yba.underlying32
      go_upto_block 4 with fail
      go_cut [] (fun wx => ∃ mo, Oh w wB wx o.has o.amt 3 mo)
      case first =>
        go_wp2_with fail
        go_loopw [12] (fun i wr => ∃ (k : Nat) (mo : Option Nat), i = .int .i64 k ∧ k ≤ 3 ∧ Oh w wB wr o.has o.amt k mo) (fun i _ => 3 - (intOf i).toNat)
        case atStart => exact ⟨0, none, rfl, by omega, hoh0⟩
        case round =>
          obtain ⟨k, mo, rfl, hk, hst⟩ := hrel
          clear hoh0
          by_cases hlt : k < 3
          · have hlt' : (k : Int) < 3 := by omega
            have hsz := hst.sz
            have b1 : wr.cell? ⟨w.heap.size, 3 + k, none⟩ = some (.bool (o.has k)) := (hst.cell (by omega) (by omega)).trans ((hphB.oc (3 + k) (by omega)).trans (ov_has o k hlt))
            have b2 : wr.cell? ⟨w.heap.size, k, none⟩ = some (.int .u32 (o.amt k)) := (hst.cell (by omega) (by omega)).trans ((hphB.oc k (by omega)).trans (ov_amt o k hlt))
            have hok := ho k hlt
            cases hh : o.has k
            · go_wp2_with fail
              go_roundw
              case rel => exact ⟨k + 1, mo, by go_num, by omega, hst.skip hh⟩
              case measure => simp [intOf]; omega
            · have o1 := hst.p8
              have hwr := wrap_u32 hok.1 hok.2
              cases mo with
              | some bq =>
                have hrq := resV_some hst.vo
                obtain ⟨w', hrun, hres, hg⟩ := hrq.store k hlt (o.amt k) hok.1 (by unfold top; omega)
                go_wp2_with fail
                go_region_with (go_at_call 7; refine (name_any k hlt _).mono ?_; rintro e w' ⟨rfl, rfl⟩)
                all_goals
                  go_wp2_with fail
                  go_roundw
                  case rel => exact ⟨k + 1, _, by go_num, by omega, hst.store hh hres hg⟩
                  case measure => simp [intOf]; omega
              | none =>
                have f1 := hst.fz 8
                have hst1 := hst.make
                have hrq := resV_some hst1.vo
                obtain ⟨w', hrun, hres, hg⟩ := hrq.store k hlt (o.amt k) hok.1 (by unfold top; omega)
                have hz1 : w.heap.size + 1 < wr.heap.size := by have := hst.size; omega
                have b2' : ((wr.setCell ⟨w.heap.size + 1, 8, none⟩ (.map (some wr.heap.size))).alloc (.map #[] 0)).cell? ⟨w.heap.size, k, none⟩ = some (.int .u32 (o.amt k)) := (hst1.cell (by omega) (by omega)).trans ((hphB.oc k (by omega)).trans (ov_amt o k hlt))
                have o1' := hst1.p8
                go_wp2_with fail
                go_region_with (go_at_call 7; refine (name_any k hlt _).mono ?_; rintro e w' ⟨rfl, rfl⟩)
                all_goals
                  go_wp2_with fail
                  go_roundw
                  case rel => exact ⟨k + 1, _, by go_num, by omega, hst1.store hh hres hg⟩
                  case measure => simp [intOf]; omega
          · have hkl : k = 3 := by omega
            subst hkl
            have hnlt : ¬ ((3 : Nat) : Int) < 3 := by omega
            go_wp2_with fail
            go_meet
            case rel => exact ⟨mo, hst⟩
      case rest =>
        obtain ⟨mo, hoh⟩ := hcut
        clear hoh0
        have hsz := hoh.sz
        have hsize := hoh.size
        have hlI : (lst ci Mi).length = ci.length := lst_len HMi.out
        have hlA : (lst ca Ma).length = ca.length := lst_len HMa.out
        have hreq := requests_any (w.heap.size + 1) ia ja ic jc (lst ci Mi) (lst ca Ma) mo (part o.has o.amt 3) wc (by omega) ((hoh.pod 6 (by decide)).trans hphB.px) ((hoh.pod 5 (by decide)).trans hphB.py) hoh.p8 (by omega) (by omega) (hoh.conts hphB) (hoh.conts hphB.swap) hoh.vo
        have hplain := fun i h3 => plain_law o ho HMi.out HMa.out hli hla (rows_ok hi) (rows_ok ha) i h3
        obtain ⟨F, hF⟩ : ∃ F, F = reqF (lst ci Mi) (lst ca Ma) (part o.has o.amt 3) := ⟨_, rfl⟩
        rw [← hF] at hreq hplain
        clear hF hlI hlA
        have HP : Hid (∀ i, i < 3 → (F (nm i)).isSome = (lawA (lawI o i ci) i ca).1 ∧ (F (nm i)).getD 0 = lawV o i (lawA (lawI o i ci) i ca)) := hplain
        clear hplain
        have hcw : ∀ w1, Res w1 wc.heap.size F → Below wc.heap.size wc w1 → Cw w w1 wc.heap.size F o := fun w1 h1 h2 =>
          ⟨h1, hoh.bel.trans (h2.mono (by omega)), fun j hj => (h2.cell (p := ⟨w.heap.size, j, none⟩) (by show w.heap.size < _; omega)).trans ((hoh.cell (by omega) (by omega)).trans (hphB.oc j hj))⟩
        go_wp2_with fail
        refine hreq.mono ?_
        rintro e w1 ⟨rfl, hr1, hb1⟩
        have hcw1 := hcw w1 hr1 hb1
        clear hcw hreq hr1 hb1 hoh hphB
        obtain ⟨R, hR⟩ : ∃ R, R = wc.heap.size := ⟨_, rfl⟩
        rw [← hR] at hcw1
        rw [← hR]
        clear hR hsz hsize
        go_wp2_with fail
        go_loopw [14, 15] (fun t i wr => ∃ (k n : Nat), i = .int .i64 k ∧ k ≤ 3 ∧ n = cntP (fun i => (F (nm i)).isSome) k ∧ t = .int .i64 n ∧ Cw w wr R F o) (fun _ i _ => 3 - (intOf i).toNat)
        case atStart => exact ⟨0, 0, rfl, by omega, rfl, rfl, hcw1⟩
        case round =>
          obtain ⟨k, n, rfl, hk, hn, rfl, hc⟩ := hrel
          have HC : Hid (n = cntP (fun i => (F (nm i)).isSome) k) := hn
          have hn3 : n ≤ 3 := by have := cntP_le (fun i => (F (nm i)).isSome) k; omega
          clear hcw1 hn
          by_cases hlt : k < 3
          · have hlt' : (k : Int) < 3 := by omega
            have b1 := (hc.oc (3 + k) (by omega)).trans (ov_has o k hlt)
            go_wp2_with fail
            go_loopw [16, 17, 18, 113] (fun pr sd pk i wr => ∃ (j : Nat) (a : Bool) (s q : Int), i = .int .i64 j ∧ j ≤ ci.length ∧ lawI o k (ci.take j) = (a, s, q) ∧ pr = .bool a ∧ sd = .int .i64 s ∧ pk = .int .i64 q ∧ Cw w wr R F o) (fun _ _ _ i _ => ci.length - (intOf i).toNat)
            case atStart => exact ⟨0, o.has k, 0, 0, rfl, by omega, rfl, rfl, rfl, rfl, hc⟩
            case round =>
              obtain ⟨j, a, s, q, rfl, hj, hs, rfl, rfl, rfl, hcj⟩ := hrel
              have HS : Hid (lawI o k (ci.take j) = (a, s, q)) := hs
              have hbd := lawI_bd o k hlt (ci.take j) (fun c hc => rows_ok hi c (List.mem_of_mem_take hc)) (by simp; omega)
              rw [hs] at hbd
              clear hs
              obtain ⟨hs0, hs1, hq0, hq1⟩ := hbd
              simp only at hs0 hs1 hq0 hq1
              by_cases hjl : j < ci.length
              · obtain ⟨b, p, hix, hblt, c0, c1, c2, c3, c4, c5, c6, c7, c8, c9, c10, c11, c12, hok⟩ := hi j hjl
                have hb := hcj.bel
                have d0 := (hb.cell (p := ⟨b, p, none⟩) hblt).trans c0
                have d1 := (hb.cell (p := ⟨b, p + 1, none⟩) hblt).trans c1
                have d2 := (hb.cell (p := ⟨b, p + 2, none⟩) hblt).trans c2
                have d3 := (hb.cell (p := ⟨b, p + 3, none⟩) hblt).trans c3
                have d4 := (hb.cell (p := ⟨b, p + 4, none⟩) hblt).trans c4
                have d5 := (hb.cell (p := ⟨b, p + 5, none⟩) hblt).trans c5
                have d6 := (hb.cell (p := ⟨b, p + 6, none⟩) hblt).trans c6
                have d7 := (hb.cell (p := ⟨b, p + 7, none⟩) hblt).trans c7
                have d8 := (hb.cell (p := ⟨b, p + 8, none⟩) hblt).trans c8
                have d9 := (hb.cell (p := ⟨b, p + 9, none⟩) hblt).trans c9
                have d10 := (hb.cell (p := ⟨b, p + 10, none⟩) hblt).trans c10
                have d11 := (hb.cell (p := ⟨b, p + 11, none⟩) hblt).trans c11
                have d12 := (hb.cell (p := ⟨b, p + 12, none⟩) hblt).trans c12
                clear c0 c1 c2 c3 c4 c5 c6 c7 c8 c9 c10 c11 c12
                have hA3 := cv_hasReq ci[j] k hlt
                have hA9 := cv_hasLim ci[j] k hlt
                unfold CV.cells at hA3 hA9
                have hask := ask_bd hok hlt
                unfold big at hask
                have HN : Hid (lawI o k (ci.take (j + 1)) = stepS k (a, s, q) ci[j]) := by
                  show lawI o k (ci.take (j + 1)) = _
                  rw [lawI_snoc o k ci j hjl, HS.out]
                go_wp2_with fail
                all_goals
                  refine (ask_any ci[j] hok k hlt _).mono ?_
                  rintro e w2 ⟨rfl, hb2⟩
                  have hsd : w2.cell? ⟨wr.heap.size, 12, none⟩ = some (.bool ci[j].side) := by
                    rw [hb2.cell (by simp)]
                    go_simp
                  have hc2 : Cw w w2 R F o := (hcj.later ((Below.refl _ _).alloc (Nat.le_refl _) _)).later hb2
                  go_wp2_with fail
                  all_goals
                    go_roundw
                    case rel =>
                      refine ⟨j + 1, _, _, _, by go_num, by omega, ?_, rfl, rfl, rfl, hc2⟩
                      rw [HN.out]
                      first
                        | exact stS1 (Or.inl ‹ci[j].hasReq k = true›) ‹ci[j].side = true›
                        | exact stS1 (Or.inr ‹ci[j].hasLim k = true›) ‹ci[j].side = true›
                        | exact stS2 (Or.inl ‹ci[j].hasReq k = true›) ‹ci[j].side = false› ‹q < s + ci[j].ask k›
                        | exact stS2 (Or.inr ‹ci[j].hasLim k = true›) ‹ci[j].side = false› ‹q < s + ci[j].ask k›
                        | exact stS3 (Or.inl ‹ci[j].hasReq k = true›) ‹ci[j].side = false› ‹s + ci[j].ask k ≤ q›
                        | exact stS3 (Or.inr ‹ci[j].hasLim k = true›) ‹ci[j].side = false› ‹s + ci[j].ask k ≤ q›
                        | exact stS4 ‹¬ ci[j].hasReq k = true› ‹ci[j].hasLim k = false› ‹ci[j].side = true›
                        | exact stS5 ‹¬ ci[j].hasReq k = true› ‹ci[j].hasLim k = false› ‹ci[j].side = false› ‹q < s + ci[j].ask k›
                        | exact stS6 ‹¬ ci[j].hasReq k = true› ‹ci[j].hasLim k = false› ‹ci[j].side = false› ‹s + ci[j].ask k ≤ q›
                    case measure => simp [intOf]; omega
              · have hjn : j = ci.length := by omega
                subst hjn
                have hs2 := HS.out
                rw [List.take_length] at hs2
                have HI : Hid (lawI o k ci = (a, s, q)) := hs2
                clear hs2 HS
                obtain ⟨wz, hwz⟩ : ∃ x, x = wr := ⟨_, rfl⟩
                subst hwz
                go_wp2_with fail
                go_loopw [16, 17, 146] (fun pr sd i wr => ∃ (j : Nat) (a2 : Bool) (s2 : Int), i = .int .i64 j ∧ j ≤ ca.length ∧ lawA (a, s, q) k (ca.take j) = (a2, s2, q) ∧ pr = .bool a2 ∧ sd = .int .i64 s2 ∧ Cw w wr R F o) (fun _ _ i _ => ca.length - (intOf i).toNat)
                case atStart => exact ⟨0, a, s, rfl, by omega, rfl, rfl, rfl, hcj⟩
                case round =>
                  obtain ⟨j, a2, s2, rfl, hj2, hs, rfl, rfl, hcx⟩ := hrel
                  have HS : Hid (lawA (a, s, q) k (ca.take j) = (a2, s2, q)) := hs
                  have hbd := lawA_bd o k hlt ci (ca.take j) (rows_ok hi) hli (fun c hc => rows_ok ha c (List.mem_of_mem_take hc)) (by simp; omega)
                  rw [HI.out, hs] at hbd
                  clear hs
                  obtain ⟨ht0, ht1, _, _⟩ := hbd
                  simp only at ht0 ht1
                  by_cases hjl : j < ca.length
                  · obtain ⟨b, p, hix, hblt, c0, c1, c2, c3, c4, c5, c6, c7, c8, c9, c10, c11, c12, hok⟩ := ha j hjl
                    have hb := hcx.bel
                    have d0 := (hb.cell (p := ⟨b, p, none⟩) hblt).trans c0
                    have d1 := (hb.cell (p := ⟨b, p + 1, none⟩) hblt).trans c1
                    have d2 := (hb.cell (p := ⟨b, p + 2, none⟩) hblt).trans c2
                    have d3 := (hb.cell (p := ⟨b, p + 3, none⟩) hblt).trans c3
                    have d4 := (hb.cell (p := ⟨b, p + 4, none⟩) hblt).trans c4
                    have d5 := (hb.cell (p := ⟨b, p + 5, none⟩) hblt).trans c5
                    have d6 := (hb.cell (p := ⟨b, p + 6, none⟩) hblt).trans c6
                    have d7 := (hb.cell (p := ⟨b, p + 7, none⟩) hblt).trans c7
                    have d8 := (hb.cell (p := ⟨b, p + 8, none⟩) hblt).trans c8
                    have d9 := (hb.cell (p := ⟨b, p + 9, none⟩) hblt).trans c9
                    have d10 := (hb.cell (p := ⟨b, p + 10, none⟩) hblt).trans c10
                    have d11 := (hb.cell (p := ⟨b, p + 11, none⟩) hblt).trans c11
                    have d12 := (hb.cell (p := ⟨b, p + 12, none⟩) hblt).trans c12
                    clear c0 c1 c2 c3 c4 c5 c6 c7 c8 c9 c10 c11 c12
                    have hA3 := cv_hasReq ca[j] k hlt
                    have hA9 := cv_hasLim ca[j] k hlt
                    unfold CV.cells at hA3 hA9
                    have hask := ask_bd hok hlt
                    unfold big at hask
                    have HN : Hid (lawA (a, s, q) k (ca.take (j + 1)) = stepT k (a2, s2, q) ca[j]) := by
                      show lawA (a, s, q) k (ca.take (j + 1)) = _
                      rw [lawA_snoc _ k ca j hjl, HS.out]
                    go_wp2_with fail
                    all_goals
                      refine (ask_any ca[j] hok k hlt _).mono ?_
                      rintro e w2 ⟨rfl, hb2⟩
                      have hc2 : Cw w w2 R F o := (hcx.later ((Below.refl _ _).alloc (Nat.le_refl _) _)).later hb2
                      go_wp2_with fail
                      go_roundw
                      case rel =>
                        refine ⟨j + 1, _, _, by go_num, by omega, ?_, rfl, rfl, hc2⟩
                        rw [HN.out]
                        first
                          | exact stT1 (Or.inl ‹ca[j].hasReq k = true›)
                          | exact stT1 (Or.inr ‹ca[j].hasLim k = true›)
                          | exact stT2 ‹¬ ca[j].hasReq k = true› ‹ca[j].hasLim k = false›
                      case measure => simp [intOf]; omega
                  · have hjn : j = ca.length := by omega
                    subst hjn
                    have hs3 := HS.out
                    rw [List.take_length] at hs3
                    have hp := HP.out k hlt
                    rw [HI.out, hs3] at hp
                    have HK : Hid ((F (nm k)).isSome = a2 ∧ (F (nm k)).getD 0 = lawV o k (a2, s2, q)) := hp
                    clear hs3 HS hp
                    have b1x := (hcx.oc (3 + k) (by omega)).trans (ov_has o k hlt)
                    have b2x := (hcx.oc k (by omega)).trans (ov_amt o k hlt)
                    have hok := ho k hlt
                    have HV : ∃ V, Hid ((F (nm k)).getD 0 = V) ∧ ((s2 < q ∧ o.has k = true ∧ V = q + o.amt k) ∨ (s2 < q ∧ o.has k = false ∧ V = q) ∨ (¬ s2 < q ∧ o.has k = true ∧ V = s2 + o.amt k) ∨ (¬ s2 < q ∧ o.has k = false ∧ V = s2)) := by
                      refine ⟨_, HK.out.2, ?_⟩
                      by_cases hsq : s2 < q
                      · cases hh : o.has k
                        · exact Or.inr (Or.inl ⟨hsq, rfl, lawV2 hsq hh⟩)
                        · exact Or.inl ⟨hsq, rfl, lawV1 hsq hh⟩
                      · cases hh : o.has k
                        · exact Or.inr (Or.inr (Or.inr ⟨hsq, rfl, lawV4 hsq hh⟩))
                        · exact Or.inr (Or.inr (Or.inl ⟨hsq, rfl, lawV3 hsq hh⟩))
                    obtain ⟨V, HV, hcase⟩ := HV
                    have HE : Hid ((F (nm k)).isSome = a2) := HK.out.1
                    clear HK
                    have hnext : cntP (fun i => (F (nm i)).isSome) (k + 1) = n + (if a2 = true then 1 else 0) := by
                      show cntP (fun i => (F (nm i)).isSome) k + (if (F (nm k)).isSome = true then 1 else 0) = _
                      rw [HE.out, ← HC.out]
                    have HX : Hid (cntP (fun i => (F (nm i)).isSome) (k + 1) = n + (if a2 = true then 1 else 0)) := hnext
                    clear hnext
                    rcases hcase with ⟨hsq, hh, rfl⟩ | ⟨hsq, hh, rfl⟩ | ⟨hsq, hh, rfl⟩ | ⟨hsq, hh, rfl⟩
                    all_goals
                      cases a2
                      all_goals
                        go_wp2_with (first
                          | (go_at_call 7; refine (name_any k hlt _).mono ?_; rintro e w' ⟨rfl, rfl⟩)
                          | (at_lookup; refine wpList_lookup_ok_res _ rfl _ _ rfl _ _ rfl hcx.res (nmS k) rfl (nm_names k hlt) ?_; rw [nmS_list, HE.out, HV.out]))
                        go_roundw
                        case rel => exact ⟨k + 1, _, by go_num, by omega, HX.out.symm, by simp, hcx⟩
                        case measure => simp [intOf]; omega
          · have hk3 : k = 3 := by omega
            subst hk3
            have hnlt : ¬ ((3 : Nat) : Int) < 3 := by omega
            have hl3 := HC.out
            rw [← cnt3_cntP] at hl3
            have HL : Hid (n = cnt3 F) := hl3
            clear hl3
            go_wp2_with (first
              | (at_len; refine wpList_len_res _ rfl _ rfl _ _ rfl hc.res ?_; rw [← HL.out]))
            go_ret
            exact ⟨rfl, hc.bel⟩

end Go.Proofs.Ybulkbagm
