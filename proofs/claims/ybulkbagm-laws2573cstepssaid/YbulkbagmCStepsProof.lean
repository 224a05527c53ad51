/-
  LawS2573CSteps: the row's step.
-/
import Derived.Test.YbulkbagmCSteps
import Derived.ProofKit
import Derived.OpenShut
import Derived.ShutString
import Derived.ChangeOld
import Derived.Below
import Derived.Deep.Slices
namespace Go.Proofs.Ybulkbagm.lawS2573CSteps
open Go.ChangeShapes Go.WideShapes Go.ChangeAt Go.RowKit

theorem own : ownKnob Yba.prog.godebug = none := by kernel_rfl
theorem laidOut : laidOutB Yba.prog = true := by kernel_rfl

set_option maxRecDepth 100000 in
set_option maxHeartbeats 400000 in
theorem long (a a' : Option Addr) (n n' c c' : Nat) (pos line ls : Int) (w : World) (h : 1024 < n) :
    Calls Yba.prog 5 #[.slice a n c, .slice a' n' c', .int .u16 pos, .int .i64 line, .int .i64 ls] w fun e w' => e = .returned (.bool true) ∧ Below w.heap.size w w' := by
  have h1' : (1024 : Int) < (n : Int) := by omega
  go_enter Yba.func5, Yba.ntmps5
  go_wp2
  go_ret
  exact ⟨rfl, Below.refl _ _⟩

theorem i64_bd {n : Int} (h : (Lit.int .i64 n).wf = true) : -9223372036854775808 ≤ n ∧ n ≤ 9223372036854775807 := by
  simp [Lit.wf, IntKind.min, IntKind.max, IntKind.signed, IntKind.bits] at h
  omega
theorem u16_bd {n : Int} (h : (Lit.int .u16 n).wf = true) : 0 ≤ n ∧ n ≤ 65535 := by
  simp [Lit.wf, IntKind.min, IntKind.max, IntKind.signed, IntKind.bits] at h
  omega
theorem u8_bd {n : Int} (h : (Lit.int .u8 n).wf = true) : 0 ≤ n ∧ n ≤ 255 := by
  simp [Lit.wf, IntKind.min, IntKind.max, IntKind.signed, IntKind.bits] at h
  omega

theorem wrap_wf {x : Int} (h : (Lit.int .i64 x).wf = true) : wrap64 x = x := by
  have := i64_bd h
  unfold wrap64
  omega

theorem walk (a a' : Option Addr) (n n' c c' : Nat) (z : Nat → Nat) (b : Nat → Bool) (pos line ls : Int) (w : World) (h0 : URow w a n z) (h1 : BRow w a' n' b) (hp : (Lit.int .u16 pos).wf = true) (hl : (Lit.int .i64 line).wf = true) :
    Calls Yba.prog 5 #[.slice a n c, .slice a' n' c', .int .u16 pos, .int .i64 line, .int .i64 ls] w fun e w' => e = .returned (.bool true) ∧ Below w.heap.size w w' := by
  by_cases h : 1024 < n
  · exact long a a' n n' c c' pos line ls w h
  · obtain ⟨k, rfl, hk⟩ : ∃ k : Nat, pos = (k : Int) ∧ k < 65536 := by
      have := u16_bd hp
      exact ⟨pos.toNat, by omega, by omega⟩
    exact walk_at a n c z a' n' c' b k line ls w h0 h1 hk (wrap_wf hl) (by omega)

/-- A slice of bytes as data. -/
theorem open_bytes {H : Type} {enc : TypeId × Value → H} {w : World} {a : Option Addr} {len cap : Nat} {d : DataW H} {p : List MemPlace} (h : DataW.Trod enc Yba.prog w 0 (fun _ => true) true 57 (.slice a len cap) d p) : ∃ z, URow w a len z := by
  obtain ⟨fuel, hf⟩ := h
  rcases open_ints Yba.underlying57 Yba.underlying5 (by kernel_rfl) hf with ⟨hcs, _⟩ | ⟨x, l, c, zs, hcs, _, hl, hm, hz, _, hcell, hwz⟩
  · simp [Value.cells] at hcs
    obtain ⟨rfl, rfl, rfl⟩ := hcs
    exact ⟨fun _ => 0, Or.inl rfl⟩
  · simp [Value.cells] at hcs
    obtain ⟨rfl, rfl, rfl⟩ := hcs
    by_cases h0 : len = 0
    · exact ⟨fun _ => 0, Or.inl h0⟩
    · have hz' : zs.length = cap := by simpa using hz
      have hlt := World.block_lt_of_cell? w (x.add 0) (hcell 0 (by omega))
      rw [add_block] at hlt
      refine ⟨fun i => (zs.getD i 0).toNat, Or.inr ⟨x, rfl, hlt, fun i hi => ?_⟩⟩
      have hi' : i < zs.length := by omega
      have hb : 0 ≤ zs.getD i 0 ∧ zs.getD i 0 ≤ 255 := u8_bd (hwz _ (by rw [List.getD_eq_getElem?_getD, List.getElem?_eq_getElem hi']; exact List.getElem_mem hi'))
      show w.cell? (x.add i) = some (.int .u8 ((zs.getD i 0).toNat : Int)) ∧ (zs.getD i 0).toNat < 256
      refine ⟨?_, by omega⟩
      rw [hcell i hi', Int.toNat_of_nonneg hb.1]

def boolOf : Value → Bool
  | .bool y => y
  | _ => false

/-- A slice of bools as data. -/
theorem open_marks {H : Type} {enc : TypeId × Value → H} {w : World} {a : Option Addr} {len cap : Nat} {d : DataW H} {p : List MemPlace} (h : DataW.Trod enc Yba.prog w 0 (fun _ => true) true 58 (.slice a len cap) d p) : ∃ b, BRow w a len b := by
  obtain ⟨fuel, hf⟩ := h
  rcases Deep.open_slice1 Yba.underlying58 (by kernel_rfl) hf with ⟨hcs, _⟩ | ⟨x, l, c, m, n, V, D, Pl, hcs, _, hl, _, hm, _, hel⟩
  · simp [Value.cells] at hcs
    obtain ⟨rfl, rfl, rfl⟩ := hcs
    exact ⟨fun _ => false, Or.inl rfl⟩
  · simp [Value.cells] at hcs
    obtain ⟨rfl, rfl, rfl⟩ := hcs
    by_cases h0 : len = 0
    · exact ⟨fun _ => false, Or.inl h0⟩
    · have hm' : m = cap := by simpa using hm
      have hlt := World.block_lt_of_cell? w (x.add 0) (hel 0 (by omega)).1
      rw [add_block] at hlt
      refine ⟨fun i => boolOf (V i), Or.inr ⟨x, rfl, hlt, fun i hi => ?_⟩⟩
      obtain ⟨h1, h2⟩ := hel i (by omega)
      obtain ⟨y, hy, _⟩ := DataW.trod_bool Yba.underlying4 h2
      simp only [List.cons.injEq, and_true] at hy
      show w.cell? (x.add i) = some (.bool (boolOf (V i)))
      rw [h1, hy]
      rfl

set_option maxRecDepth 100000 in
theorem lifted (os : Os) (started : os.Started) (H : Type) (enc : TypeId × Value → H) :
    ReturnsInHanded {} Yba.checked os 5 .any (Rows.lawS2573CStepsSpec.pre6 enc Yba.prog Yba.f5 Rows.lawS2573CStepsRow.domain false) (Rows.lawS2573CStepsSpec.post enc Yba.prog Yba.f5 false true false false) := by
  refine returnsInHanded_of_change (C := Yba.checked) own started (by kernel_rfl) Yba.func5
    (ChangeSpec.witness6 (enc := enc) (C := Yba.checked) false ⟨#[], #[.slice none 0 0, .slice none 0 0, .int .u16 0, .int .i64 0, .int .i64 0], []⟩ 8 (by kernel_rfl) (by kernel_rfl) (by kernel_rfl) (by kernel_rfl)) ?_
  intro W base args ds gs before hval0 hW hcnd _
  have hval : ∀ (j : Nat) t v, Yba.f5.params[j]? = some t → args[j]? = some v → Value.okWide Yba.prog W .any base t v := hval0
  have hW' := hW
  obtain ⟨p, q, hA0, hV, rfl, hfz, hnd⟩ := hW
  have hA : DataW.TrodAll enc Yba.prog W 0 (fun _ => true) true Yba.f5.params.toList args.toList ds p := hA0
  rw [Yba.params5] at hA hval
  obtain ⟨v0, vs0, d0, ds0, p0, q0, hargs, rfl, rfl, h0, r0⟩ := trodAll_cons hA
  obtain ⟨v1, vs1, d1, ds1, p1, q1, rfl, rfl, rfl, h1, r1⟩ := trodAll_cons r0
  obtain ⟨v2, vs2, d2, ds2, p2, q2, rfl, rfl, rfl, h2, r2⟩ := trodAll_cons r1
  obtain ⟨v3, vs3, d3, ds3, p3, q3, rfl, rfl, rfl, h3, r3⟩ := trodAll_cons r2
  obtain ⟨v4, vs4, d4, ds4, p4, q4, rfl, rfl, rfl, h4, r4⟩ := trodAll_cons r3
  obtain ⟨rfl, rfl, rfl⟩ := trodAll_nil r4
  obtain rfl : args = #[v0, v1, v2, v3, v4] := by cases args; simp_all
  obtain ⟨rfl, rfl⟩ := trodVars_none hV
  obtain ⟨a0, len0, cap0, rfl⟩ := okWide_slice Yba.underlying57 (hval 0 57 v0 rfl rfl)
  obtain ⟨a1, len1, cap1, rfl⟩ := okWide_slice Yba.underlying58 (hval 1 58 v1 rfl rfl)
  have k0 := h0
  have k1 := h1
  have lt0 : ∀ x ∈ p0, x.block < W.heap.size := by obtain ⟨m, hm⟩ := k0; exact DataW.trod_lt m _ _ _ hm
  have lt1 : ∀ x ∈ p1, x.block < W.heap.size := by obtain ⟨m, hm⟩ := k1; exact DataW.trod_lt m _ _ _ hm
  obtain ⟨z, w0⟩ := open_bytes h0
  obtain ⟨b, w1⟩ := open_marks h1
  obtain ⟨pos, rfl, rfl, rfl, w2⟩ := open_int Yba.underlying59 (hval 2 59 v2 rfl rfl) h2
  obtain ⟨line, rfl, rfl, rfl, w3⟩ := open_int Yba.underlying3 (hval 3 3 v3 rfl rfl) h3
  obtain ⟨ls, rfl, rfl, rfl, w4⟩ := open_int Yba.underlying3 (hval 4 3 v4 rfl rfl) h4
  clear hA0 hval0
  refine (walk a0 a1 len0 len1 cap0 cap1 z b pos line ls W w0 w1 w2 w3).mono fun e W' ⟨he, bel⟩ => ?_
  subst he
  exact ⟨_, rfl, _, _, _, [], _, [], hW', trodAll_mk1 (shut_bool Yba.underlying4 _), (trodAll_cons_mk (Below.trod laidOut (by kernel_rfl) (of_decide_eq_true (by kernel_rfl)) k0 bel lt0) (trodAll_cons_mk (Below.trod laidOut (by kernel_rfl) (of_decide_eq_true (by kernel_rfl)) k1 bel lt1) (trodAll_cons_mk (shut_int Yba.underlying59 w2) (trodAll_cons_mk (shut_int Yba.underlying3 w3) (trodAll_cons_mk (shut_int Yba.underlying3 w4) trodAll_mk0))))), rfl, bel.frame _, fun h => by cases h⟩

theorem over : Rows.lawS2573CStepsRow.holds Yba.pinned (OpenSpec.ofChange Rows.lawS2573CStepsSpec) :=
  OpenClaim.holds_of_wide 5 Yba.f5 rfl rfl rfl rfl rfl rfl rfl ⟨rfl, rfl, rfl, rfl, rfl⟩ rfl rfl rfl rfl rfl (by kernel_rfl) Yba.func5 (by kernel_rfl)
    (of_decide_eq_true (by kernel_rfl)) (by unfold Func.isWrapper; first | (rw [if_pos (by decide +kernel)]; kernel_rfl) | (rw [if_neg (by decide +kernel)]; exact ⟨rfl, rfl⟩))
    (fun os started H enc _ => lifted os started H enc)

/-- THE STATEMENT. -/
theorem proved : Rows.LawS2573CStepsSaid := over
#print axioms proved
end Go.Proofs.Ybulkbagm.lawS2573CSteps
