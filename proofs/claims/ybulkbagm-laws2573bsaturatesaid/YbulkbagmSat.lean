/-
  LawS2573BSaturate: the walk.
-/
import Derived.Test.YbulkbagmReq
import Derived.Deep.RegionWith
namespace Go.Proofs.Ybulkbagm
open Go.RowKit Go.Maps

section
variable (w : World) {ops : Array Oper} {rest : List Oper} {o : Oper} {a : Act} {Q : Exit → Act → World → Prop}

/-- An entry of a map's literal. -/
theorem wpList_insert_res (hg : o.guard = none) (m x v : Operand) (hop : o.op = Op.insert 32 m x v) (b : Nat) (f : Fn) (hm : a.eval m = .map (some b)) (h : Res w b f) (s : ByteArray) (hx : a.eval x = .string s) (hs : s.data.toList ∈ names)
    (c : Int) (hv : a.eval v = .int .i64 c) (h0 : 0 ≤ c) (h1 : c ≤ top)
    (hK : ∀ w', Res w' b (fset f s.data.toList c) → w.grownBy w' (some b) → wpList Yba.prog ops Q rest (a.put o.dst undef) w') : wpList Yba.prog ops Q (o :: rest) a w := by
  obtain ⟨D, ho, hview, hgood⟩ := h
  obtain ⟨w', hrun, ho', hg'⟩ := ho.update law9 Yba.underlying32 (by unfold maxLen; omega) (hkey9 hs) (plainElem_int Yba.underlying2 (wf_of h0 h1))
  have hv' := hview.put ho.isMap s.data.toList c
  have hg2 := hgood.set hs h0 h1
  have hsz := hv'.size_le (ho'.canon law9) hg2
  have hres : Res w' b (fset f s.data.toList c) := by
    refine ⟨_, ?_, hv', hg2⟩
    obtain ⟨es, clock, e1, e2, e3, e4⟩ := ho'
    refine ⟨es, clock, e1, e2, ?_, e4⟩
    rw [e4] at hsz
    simpa [Maps.size, length_sorted] using hsz
  refine wpList_plain hg fun K' hK' => ?_
  unfold Oper.wp
  simp [execOp, hop, hm, hx, hv, hrun, Result.andThen]
  exact hK' _ _ (hK w' hres hg')
end

set_option maxHeartbeats 400000 in
theorem sat_any (a b : Int) (w : World) (ha : 0 ≤ a) (ha' : a ≤ top) (hb : 0 ≤ b) (hb' : b ≤ top) :
    Calls Yba.prog 10 #[.int .i64 a, .int .i64 b] w fun e w' => e = .returned (.int .i64 (satp a b)) ∧ w' = w := by
  unfold top at ha' hb'
  go_enter Yba.func10, Yba.ntmps10
  go_wp2
  · go_ret
    exact ⟨ret_int (satp_hi (by assumption)), rfl⟩
  · go_ret
    exact ⟨ret_int (satp_lo (by assumption)), rfl⟩

theorem and_top (a : Int) : ∃ x, bits .and .i64 a 9223372036854775807 = x ∧ 0 ≤ x ∧ x ≤ top := by
  refine ⟨_, rfl, ?_⟩
  show 0 ≤ IntKind.i64.wrap ((BitVec.ofInt 64 a &&& BitVec.ofInt 64 9223372036854775807).toNat : Int) ∧ IntKind.i64.wrap ((BitVec.ofInt 64 a &&& BitVec.ofInt 64 9223372036854775807).toNat : Int) ≤ top
  have h1 : (BitVec.ofInt 64 9223372036854775807).toNat = 9223372036854775807 := by decide
  have h2 : (BitVec.ofInt 64 a &&& BitVec.ofInt 64 9223372036854775807).toNat ≤ 9223372036854775807 := by
    rw [BitVec.toNat_and, h1]
    exact Nat.and_le_right
  rw [IntKind.wrap_i64]
  unfold top
  omega

theorem Res.len {w : World} {b : Nat} {f : Fn} (h : Res w b f) (ty : TypeId) : (Builtin.len_ #[32] ty #[.map (some b)]).run Yba.prog w = .ok (.int .i64 (cnt3 f)) w := by
  obtain ⟨D, ho, hview, hgood⟩ := h
  rw [ho.len Yba.underlying32, hview.size (ho.canon law9) hgood]

theorem Res.made' (w : World) (n : Nat) (h : n = w.heap.size) : Res (w.alloc (.map #[] 0)) n (fun _ => none) := by
  subst h
  exact Res.made w

/-- One amount, of the name cpu. -/
def one (x : Int) : Fn := fset (fun _ => none) [99, 112, 117] x

def satIs (m : Nat) (A : Int) : Cn := { name := ⟨#[]⟩, pol := ⟨#[65, 108, 119, 97, 121, 115]⟩, mq := some m, ml := none, fq := one A, fl := fun _ => none }
def satPs (m : Nat) (B : Int) : Cn := { name := ⟨#[]⟩, pol := ⟨#[]⟩, mq := none, ml := some m, fq := fun _ => none, fl := one B }

theorem satp_zero {a : Int} (h1 : a ≤ top) : satp 0 a = a := by
  unfold satp
  rw [if_neg (by omega)]
  omega

theorem always_lit : ((⟨#[65, 108, 119, 97, 121, 115]⟩ : ByteArray).toList == [65, 108, 119, 97, 121, 115]) = true := by decide +kernel

theorem sat_reqF (m m' : Nat) (A B C : Int) (hA1 : A ≤ top) : reqF [satIs m A] [satPs m' B] (one C) = one (satp (satp A B) C) := by
  have h1 : foldI [satIs m A] = (one A, fun _ => none) := by
    show stepI (fun _ => none, fun _ => none) (satIs m A) = _
    unfold stepI satIs
    rw [if_pos always_lit]
    simp only [Prod.mk.injEq, and_true]
    funext z
    unfold accF ov one fset
    by_cases e : z = [99, 112, 117]
    · simp [e, satp_zero hA1]
    · simp [e]
  unfold reqF
  rw [h1]
  funext z
  show accF (mxF (stepA (one A) (satPs m' B)) (fun _ => none)) (one C) z = _
  unfold accF mxF stepA accF satPs ov one fset
  by_cases e : z = [99, 112, 117]
  · simp [e]
  · simp [e]

theorem sat_req (A B C : Int) (hA1 : A ≤ top) (w w1 w2 w3 : World)
    (hr1 : Res w1 w.heap.size (one A)) (hg1 : (w.alloc (.map #[] 0)).grownBy w1 (some w.heap.size))
    (hr2 : Res w2 (w1.heap.size + 1) (one B)) (hg2 : ((w1.alloc (.cells #[.string ⟨#[]⟩, .map (some w.heap.size), .map none, .string ⟨#[65, 108, 119, 97, 121, 115]⟩] 48)).alloc (.map #[] 0)).grownBy w2 (some (w1.heap.size + 1)))
    (hr3 : Res w3 (w2.heap.size + 1) (one C)) (hg3 : ((w2.alloc (.cells #[.string ⟨#[]⟩, .map none, .map (some (w1.heap.size + 1)), .string ⟨#[]⟩] 48)).alloc (.map #[] 0)).grownBy w3 (some (w2.heap.size + 1))) :
    Calls Yba.prog 8 #[.pointer (some ⟨w3.heap.size, 0, none⟩)] (w3.alloc (.cells #[.string ⟨#[]⟩, .string ⟨#[]⟩, .map none, .string ⟨#[]⟩, .map none, .slice (some ⟨w2.heap.size, 0, none⟩) 1 1, .slice (some ⟨w1.heap.size, 0, none⟩) 1 1, .string ⟨#[]⟩,
      .map (some (w2.heap.size + 1)), .pointer none, .pointer none, .slice none 0 0, .slice none 0 0, .string ⟨#[]⟩, .pointer none, .int .u64 0, .int .i64 0, .pointer none, .int .u64 0, .int .i64 0, .pointer none, .int .u64 0, .int .i64 0, .pointer none, .pointer none] 44))
      fun e w' => e = .returned (.map (some (w3.heap.size + 1))) ∧ Res w' (w3.heap.size + 1) (one (satp (satp A B) C)) ∧ Below w.heap.size w w' := by
  have s1 := hg1.size
  have s2 := hg2.size
  have s3 := hg3.size
  simp only [World.size_alloc] at s1 s2 s3
  have e1 : ∀ o, (w3.alloc o).heap.size = w3.heap.size + 1 := fun o => World.size_alloc ..
  -- the first row, in the last world
  have up1 : ∀ p v, (w1.alloc (.cells #[.string ⟨#[]⟩, .map (some w.heap.size), .map none, .string ⟨#[65, 108, 119, 97, 121, 115]⟩] 48)).cell? p = some v → p.block < w1.heap.size + 1 → w3.cell? p = some v := by
    intro p v hp hlt
    refine hg3.cell ?_ (fun e => by have := Option.some.inj e; omega)
    rw [((((Below.refl w2.heap.size w2).alloc (Nat.le_refl _) _).alloc (by simp) _)).cell (by omega)]
    refine hg2.cell ?_ (fun e => by have := Option.some.inj e; omega)
    rw [((Below.refl (w1.heap.size + 1) _).alloc (by simp) _).cell hlt]
    exact hp
  have up2 : ∀ p v, (w2.alloc (.cells #[.string ⟨#[]⟩, .map none, .map (some (w1.heap.size + 1)), .string ⟨#[]⟩] 48)).cell? p = some v → p.block < w2.heap.size + 1 → w3.cell? p = some v := by
    intro p v hp hlt
    refine hg3.cell ?_ (fun e => by have := Option.some.inj e; omega)
    rw [((Below.refl (w2.heap.size + 1) _).alloc (by simp) _).cell hlt]
    exact hp
  have r1 : Res w3 w.heap.size (one A) := by
    refine Res.kept ?_ hg3 (fun e => by have := Option.some.inj e; omega)
    refine Res.alloc (Res.alloc ?_ _) _
    refine Res.kept ?_ hg2 (fun e => by have := Option.some.inj e; omega)
    exact Res.alloc (Res.alloc hr1 _) _
  have r2 : Res w3 (w1.heap.size + 1) (one B) := by
    refine Res.kept ?_ hg3 (fun e => by have := Option.some.inj e; omega)
    exact Res.alloc (Res.alloc hr2 _) _
  have hb3 : Below w.heap.size w w3 := by
    refine Below.grown ?_ hg3 (by simp; omega) (fun j hj => by cases hj; omega)
    refine Below.alloc (Below.alloc ?_ (by omega) _) (by simp; omega) _
    refine Below.grown ?_ hg2 (by simp; omega) (fun j hj => by cases hj; omega)
    refine Below.alloc (Below.alloc ?_ (by omega) _) (by simp; omega) _
    exact Below.grown ((Below.refl _ _).alloc (Nat.le_refl _) _) hg1 (by simp) (fun j hj => by cases hj; exact Nat.le_refl _)
  refine (requests_any w3.heap.size (some ⟨w1.heap.size, 0, none⟩) (some ⟨w2.heap.size, 0, none⟩) 1 1 [satIs w.heap.size A] [satPs (w1.heap.size + 1) B] (some (w2.heap.size + 1)) (one C) _ (by rw [e1]; omega) (by go_simp) (by go_simp) (by go_simp) (by simp) (by simp) ?_ ?_ ?_).mono ?_
  · intro i hi
    have h0 : i = 0 := by simpa using hi
    subst h0
    have al : ∀ p v, w3.cell? p = some v → p.block < w3.heap.size → ∀ o, (w3.alloc o).cell? p = some v := fun p v h hl o => by
      rw [((Below.refl w3.heap.size w3).alloc (Nat.le_refl _) o).cell hl]
      exact h
    refine ⟨w1.heap.size, rfl, by rw [e1]; omega, ?_, ?_, ?_, ?_, ?_, ?_⟩
    · exact al _ _ (up1 _ _ (by go_simp; rfl) (by simp)) (by show w1.heap.size < _; omega) _
    · exact al _ _ (up1 _ _ (by go_simp; rfl) (by simp)) (by show w1.heap.size < _; omega) _
    · exact al _ _ (up1 _ _ (by go_simp; rfl) (by simp)) (by show w1.heap.size < _; omega) _
    · exact al _ _ (up1 _ _ (by go_simp; rfl) (by simp)) (by show w1.heap.size < _; omega) _
    · exact (r1.alloc _).v
    · exact ResV.nil _
  · intro i hi
    have h0 : i = 0 := by simpa using hi
    subst h0
    have al : ∀ p v, w3.cell? p = some v → p.block < w3.heap.size → ∀ o, (w3.alloc o).cell? p = some v := fun p v h hl o => by
      rw [((Below.refl w3.heap.size w3).alloc (Nat.le_refl _) o).cell hl]
      exact h
    refine ⟨w2.heap.size, rfl, by rw [e1]; omega, ?_, ?_, ?_, ?_, ?_, ?_⟩
    · exact al _ _ (up2 _ _ (by go_simp; rfl) (by simp)) (by show w2.heap.size < _; omega) _
    · exact al _ _ (up2 _ _ (by go_simp; rfl) (by simp)) (by show w2.heap.size < _; omega) _
    · exact al _ _ (up2 _ _ (by go_simp; rfl) (by simp)) (by show w2.heap.size < _; omega) _
    · exact al _ _ (up2 _ _ (by go_simp; rfl) (by simp)) (by show w2.heap.size < _; omega) _
    · exact ResV.nil _
    · exact (r2.alloc _).v
  · exact (hr3.alloc _).v
  · rintro e w4 ⟨rfl, hr4, hb4⟩
    rw [sat_reqF _ _ _ _ _ hA1, e1] at hr4
    rw [e1] at hb4 ⊢
    exact ⟨rfl, hr4, (hb3.alloc (by omega) _).trans (hb4.mono (by omega))⟩

set_option maxRecDepth 100000 in
set_option maxHeartbeats 1000000 in
theorem sat_walk (a0 : Int) (a1 : Int) (a2 : Int) (w : World) :
    Calls Yba.prog 4 #[.int .i64 a0, .int .i64 a1, .int .i64 a2] w fun e w' => e = .returned (.bool true) ∧ Below w.heap.size w w' := by
  have hmm := @run_makeMap Yba.prog
  obtain ⟨A, hA, hA0, hA1⟩ := and_top a0
  obtain ⟨B, hB, hB0, hB1⟩ := and_top a1
  obtain ⟨C, hC, hC0, hC1⟩ := and_top a2
  go_enter Yba.func4, Yba.ntmps4
  go_wp2_with (first
    | (refine wpList_insert_res _ rfl _ _ _ rfl _ (fun _ => none) rfl (by exact Res.made' _ _ (by simp)) ⟨#[99, 112, 117]⟩ rfl (by decide) A rfl hA0 hA1 ?_; intro w1 hr1 hg1)
    | (refine wpList_insert_res _ rfl _ _ _ rfl _ (fun _ => none) rfl (by exact Res.made' _ _ (by simp)) ⟨#[99, 112, 117]⟩ rfl (by decide) B rfl hB0 hB1 ?_; intro w2 hr2 hg2)
    | (refine wpList_insert_res _ rfl _ _ _ rfl _ (fun _ => none) rfl (by exact Res.made' _ _ (by simp)) ⟨#[99, 112, 117]⟩ rfl (by decide) C rfl hC0 hC1 ?_; intro w3 hr3 hg3))
  refine (sat_req A B C hA1 w w1 w2 w3 hr1 hg1 hr2 hg2 hr3 hg3).mono ?_
  rintro e w4 ⟨rfl, hr4, hb4⟩
  have hF : one (satp (satp A B) C) (⟨#[99, 112, 117]⟩ : ByteArray).data.toList = some (satp (satp A B) C) := by simp [one, fset]
  have hN : cnt3 (one (satp (satp A B) C)) = 1 := by simp [cnt3, one, fset, nm]
  have hs1 := satp_nonneg hA0 hB0
  have hs2 := satp_le A B
  have HF : Hid (one (satp (satp A B) C) (⟨#[99, 112, 117]⟩ : ByteArray).data.toList = some (satp (satp A B) C)) := hF
  have hlen := hr4.len 3
  rw [hN] at hlen
  clear hF hN hr1 hg1 hr2 hg2 hr3 hg3
  go_wp2_with (at_lookup; refine wpList_lookup_ok_res _ rfl _ _ rfl _ _ rfl hr4 ⟨#[99, 112, 117]⟩ rfl (by decide) ?_; rw [HF.out])
  refine (sat_any A B _ hA0 hA1 hB0 hB1).mono ?_
  rintro e w5 ⟨rfl, rfl⟩
  go_wp2_with fail
  refine (sat_any (satp A B) C _ hs1 hs2 hC0 hC1).mono ?_
  rintro e w6 ⟨rfl, rfl⟩
  go_wp2_with fail
  go_ret
  exact ⟨rfl, hb4⟩

end Go.Proofs.Ybulkbagm
