/-
  LawS2573BModel: the row's step.
-/
import Derived.Test.YbulkbagmModelOpen
import Derived.ProofKit
import Derived.OpenShut
import Derived.ShutString
import Derived.ChangeOld
import Derived.Below
namespace Go.Proofs.Ybulkbagm.lawS2573BModel
open Go.ChangeShapes Go.WideShapes Go.ChangeAt Go.RowKit

theorem own : ownKnob Yba.prog.godebug = none := by kernel_rfl
theorem laidOut : laidOutB Yba.prog = true := by kernel_rfl

set_option maxRecDepth 100000 in
set_option maxHeartbeats 400000 in
theorem long (a a' : Option Addr) (n n' c c' : Nat) (o : OV) (w : World) (h : 1024 < n ∨ 1024 < n') :
    Calls Yba.prog 3 #[.slice a n c, .slice a' n' c', .agg #[.int .u32 (o.amt 0), .int .u32 (o.amt 1), .int .u32 (o.amt 2), .bool (o.has 0), .bool (o.has 1), .bool (o.has 2)]] w
      fun e w' => e = .returned (.bool true) ∧ Below w.heap.size w w' := by
  by_cases h1 : 1024 < n
  · have h1' : (1024 : Int) < (n : Int) := by omega
    go_enter Yba.func3, Yba.ntmps3
    go_wp2
    go_ret
    exact ⟨rfl, (Below.refl _ _).alloc (Nat.le_refl _) _⟩
  · have h1' : ¬ (1024 : Int) < (n : Int) := by omega
    have h2' : (1024 : Int) < (n' : Int) := by omega
    have hd : decide ((1024 : Int) < (n : Int)) = false := by simpa using h1'
    go_enter Yba.func3, Yba.ntmps3
    go_wp2
    go_ret
    exact ⟨rfl, (Below.refl _ _).alloc (Nat.le_refl _) _⟩

theorem walk (a a' : Option Addr) (ci ca : List CV) (c c' : Nat) (o : OV) (w : World) (hi : RowsCV w a ci) (ha : RowsCV w a' ca) (ho : o.ok) :
    Calls Yba.prog 3 #[.slice a ci.length c, .slice a' ca.length c', .agg o.cells] w fun e w' => e = .returned (.bool true) ∧ Below w.heap.size w w' := by
  by_cases h : 1024 < ci.length ∨ 1024 < ca.length
  · exact long a a' _ _ c c' o w h
  · exact model_any a a' ci ca c c' o w hi ha ho (by omega) (by omega)

/-- A slice of containers as data. -/
theorem open_rows {H : Type} {enc : TypeId × Value → H} {w : World} {a : Option Addr} {len cap : Nat} {d : DataW H} {p : List MemPlace} (h : DataW.Trod enc Yba.prog w 0 (fun _ => true) true 22 (.slice a len cap) d p) : ∃ cs : List CV, cs.length = len ∧ RowsCV w a cs := by
  obtain ⟨fuel, hf⟩ := h
  rcases Deep.open_slice Yba.underlying22 hf with ⟨hcs, _⟩ | ⟨x, l, c, m, n, D, Pl, hcs, _, hl, _, hm, _, hel⟩
  · simp [Value.cells] at hcs
    obtain ⟨rfl, rfl, rfl⟩ := hcs
    exact ⟨[], rfl, rows_nil _ _⟩
  · simp [Value.cells] at hcs
    obtain ⟨rfl, rfl, rfl⟩ := hcs
    refine rows_of (enc := enc) (base := 0) (spare := fun _ => true) (held := true) (n := n) (m := m) (by simp at hm; omega) (fun i hi => ?_)
    obtain ⟨cs', h1, h2⟩ := hel i hi
    exact ⟨cs', _, h1, h2⟩

set_option maxRecDepth 100000 in
theorem lifted (os : Os) (started : os.Started) (H : Type) (enc : TypeId × Value → H) :
    ReturnsInHanded {} Yba.checked os 3 .any (Rows.lawS2573BModelSpec.pre6 enc Yba.prog Yba.f3 Rows.lawS2573BModelRow.domain false) (Rows.lawS2573BModelSpec.post enc Yba.prog Yba.f3 false true false false) := by
  refine returnsInHanded_of_change (C := Yba.checked) own started (by kernel_rfl) Yba.func3
    (ChangeSpec.witness6 (enc := enc) (C := Yba.checked) false ⟨#[], #[.slice none 0 0, .slice none 0 0, .agg #[.int .u32 0, .int .u32 0, .int .u32 0, .bool false, .bool false, .bool false]], []⟩ 8 (by kernel_rfl) (by kernel_rfl) (by kernel_rfl) (by kernel_rfl)) ?_
  intro W base args ds gs before hval0 hW hcnd _
  have hval : ∀ (j : Nat) t v, Yba.f3.params[j]? = some t → args[j]? = some v → Value.okWide Yba.prog W .any base t v := hval0
  have hW' := hW
  obtain ⟨p, q, hA0, hV, rfl, hfz, hnd⟩ := hW
  have hA : DataW.TrodAll enc Yba.prog W 0 (fun _ => true) true Yba.f3.params.toList args.toList ds p := hA0
  rw [Yba.params3] at hA hval
  obtain ⟨v0, vs0, d0, ds0, p0, q0, hargs, rfl, rfl, h0, r0⟩ := trodAll_cons hA
  obtain ⟨v1, vs1, d1, ds1, p1, q1, rfl, rfl, rfl, h1, r1⟩ := trodAll_cons r0
  obtain ⟨v2, vs2, d2, ds2, p2, q2, rfl, rfl, rfl, h2, r2⟩ := trodAll_cons r1
  obtain ⟨rfl, rfl, rfl⟩ := trodAll_nil r2
  obtain rfl : args = #[v0, v1, v2] := by cases args; simp_all
  obtain ⟨rfl, rfl⟩ := trodVars_none hV
  obtain ⟨a0, len0, cap0, rfl⟩ := okWide_slice Yba.underlying22 (hval 0 22 v0 rfl rfl)
  obtain ⟨a1, len1, cap1, rfl⟩ := okWide_slice Yba.underlying22 (hval 1 22 v1 rfl rfl)
  obtain ⟨oc, rfl, hoc⟩ := okWide_struct Yba.underlying27 (hval 2 27 v2 rfl rfl)
  have k0 := h0
  have k1 := h1
  have k2 := h2
  have lt0 : ∀ x ∈ p0, x.block < W.heap.size := by obtain ⟨m, hm⟩ := k0; exact DataW.trod_lt m _ _ _ hm
  have lt1 : ∀ x ∈ p1, x.block < W.heap.size := by obtain ⟨m, hm⟩ := k1; exact DataW.trod_lt m _ _ _ hm
  have lt2 : ∀ x ∈ p2, x.block < W.heap.size := by obtain ⟨m, hm⟩ := k2; exact DataW.trod_lt m _ _ _ hm
  obtain ⟨ci, rfl, hi⟩ := open_rows h0
  obtain ⟨ca, rfl, ha⟩ := open_rows h1
  obtain ⟨o, ho', ho⟩ : ∃ o : OV, oc.toList = o.cells.toList ∧ o.ok := by
    obtain ⟨fuel, hf⟩ := h2
    exact open_over hf
  obtain rfl : oc = o.cells := Array.toList_inj.1 ho'
  clear hA0 hval0
  refine (walk a0 a1 ci ca cap0 cap1 o W hi ha ho).mono fun e W' ⟨he, bel⟩ => ?_
  subst he
  exact ⟨_, rfl, _, _, _, [], _, [], hW', trodAll_mk1 (shut_bool Yba.underlying4 _), (trodAll_cons_mk (Below.trod laidOut (by kernel_rfl) (of_decide_eq_true (by kernel_rfl)) k0 bel lt0) (trodAll_cons_mk (Below.trod laidOut (by kernel_rfl) (of_decide_eq_true (by kernel_rfl)) k1 bel lt1) (trodAll_cons_mk (Below.trod laidOut (by kernel_rfl) (of_decide_eq_true (by kernel_rfl)) k2 bel lt2) trodAll_mk0))), rfl, bel.frame _, fun h => by cases h⟩

theorem over : Rows.lawS2573BModelRow.holds Yba.pinned (OpenSpec.ofChange Rows.lawS2573BModelSpec) :=
  OpenClaim.holds_of_wide 3 Yba.f3 rfl rfl rfl rfl rfl rfl rfl ⟨rfl, rfl, rfl, rfl, rfl⟩ rfl rfl rfl rfl rfl (by kernel_rfl) Yba.func3 (by kernel_rfl)
    (of_decide_eq_true (by kernel_rfl)) (by unfold Func.isWrapper; first | (rw [if_pos (by decide +kernel)]; kernel_rfl) | (rw [if_neg (by decide +kernel)]; exact ⟨rfl, rfl⟩))
    (fun os started H enc _ => lifted os started H enc)

/-- THE STATEMENT. -/
theorem proved : Rows.LawS2573BModelSaid := over
#print axioms proved
end Go.Proofs.Ybulkbagm.lawS2573BModel
