/-
  LawS2575AAppend: the walk.
-/
import Derived.Test.YbulkbahoUint
import Derived.OwnWalk
import Derived.Laws.AppendOwnNone
import Derived.Maps.AppendAt
import Derived.Maps.RangeWalk
import Derived.Deep.DeepAppendRoom
namespace Go.Proofs.Ybulkbaho
open Go.RowKit

theorem info5 : (Yba.prog.info? 5).map (fun i => (i.zero, i.size, i.bytes)) = some (some (.int .u8 0), 1, 1) := by kernel_rfl

theorem URow.below {w w' : World} {a : Option Addr} {len : Nat} {z : Nat → Nat} (h : URow w a len z) (hb : Below w.heap.size w w') : URow w' a len z := by
  rcases h with e | ⟨x, e, hx, hc⟩
  · exact Or.inl e
  · exact Or.inr ⟨x, e, Nat.lt_of_lt_of_le hx hb.size, fun i hi => ⟨(hb.cell (p := x.add i) (by rw [add_block]; exact hx)).trans (hc i hi).1, (hc i hi).2⟩⟩

theorem num_congr {z z' : Nat → Nat} : ∀ k, (∀ i, i < k → z i = z' i) → num z k = num z' k
  | 0, _ => rfl
  | k + 1, h => by
    unfold num
    rw [num_congr k (fun i hi => h i (by omega)), h k (by omega)]

theorem natc (n : Nat) : ((n : Int) + 1) = ((n + 1 : Nat) : Int) := by omega

/-- The octets, one more behind them. -/
def more (z : Nat → Nat) (n c : Nat) : Nat → Nat := fun i => if i < n then z i else c

theorem num_more (z : Nat → Nat) (n c : Nat) : num (more z n c) (n + 1) = num z n * 256 % 18446744073709551616 + c := by
  show num (more z n c) n * 256 % 18446744073709551616 + more z n c n = _
  rw [num_congr n (z := more z n c) (z' := z) (fun i hi => if_pos hi)]
  unfold more
  rw [if_neg (by omega)]

def octs (z : Nat → Nat) (n : Nat) : List Value := (List.range n).map (fun i => .int .u8 (z i : Nat))

theorem octs_one (z : Nat → Nat) (n : Nat) : ∀ u ∈ octs z n, u.oneCell' = true := by
  intro u hu
  obtain ⟨i, _, rfl⟩ := List.mem_map.1 hu
  rfl

theorem octs_at {z : Nat → Nat} {n j : Nat} {u : Value} (h : (octs z n)[j]? = some u) : j < n ∧ u = .int .u8 (z j : Nat) := by
  unfold octs at h
  rw [List.getElem?_map] at h
  by_cases hj : j < n
  · rw [List.getElem?_range hj] at h
    simp at h
    exact ⟨hj, h.symm⟩
  · rw [List.getElem?_eq_none (by simpa using hj)] at h
    cases h

/-- What is owned reads as octets. -/
theorem row_of_own {w : World} {base n c : Nat} {v : Value} {z : Nat → Nat} (hz : ∀ i, i < n → z i < 256) (hc : c < 256) (h : w.ownsRow base 5 1 v (n + 1) (octs z n ++ [.int .u8 (c : Nat)])) :
    ∃ a cap, v = .slice a (n + 1) cap ∧ URow w a (n + 1) (more z n c) := by
  obtain ⟨hl, ⟨_, h0⟩ | ⟨g, cap, cur, rfl, hg, hb, h1, h2, h3, h4⟩⟩ := h
  · omega
  refine ⟨_, cap, rfl, Or.inr ⟨_, rfl, (Array.getElem?_eq_some_iff.1 hb).1, fun i hi => ?_⟩⟩
  have e : cur[i]? = some (.int .u8 (more z n c i : Nat)) := by
    have : (cur.toList.take ((n + 1) * 1))[i]? = cur.toList[i]? := List.getElem?_take_of_lt (by omega)
    rw [← Array.getElem?_toList, ← this, h4]
    unfold more
    by_cases hi' : i < n
    · rw [List.getElem?_append_left (by simpa [octs] using hi'), if_pos hi']
      simp [octs, hi']
    · have : i = n := by omega
      subst this
      rw [if_neg (by omega), List.getElem?_append_right (by simp [octs])]
      simp [octs]
  refine ⟨?_, ?_⟩
  · rw [Go.WideShapes.add_plain]
    simp [World.cell?, hb, e]
  · unfold more
    split
    · exact hz i (by assumption)
    · exact hc

/-- 'append' where there is room. -/
theorem wpList_app (w : World) {ops : Array Oper} {rest : List Oper} {o : Oper} {a : Act} {Q : Exit → Act → World → Prop} (hgd : o.guard = none) (s x : Operand)
    (ho : o.op = .call { callee := .builtin .append, args := #[s, x], argTypes := #[22, 22] })
    (base : Nat) (i : TypeInfo) (hi : Yba.prog.info? 5 = some i) (hsize : i.size = 1)
    (g n cap : Nat) (xs : List Value) (hs : a.eval s = .slice (some ⟨g, 0, none⟩) n cap) (hown : w.ownsRow base 5 1 (.slice (some ⟨g, 0, none⟩) n cap) n xs)
    (ad : Addr) (m c : Nat) (news : List Value) (hx : a.eval x = .slice (some ad) m c) (hl : news.length = m) (hnews : ∀ j u, news[j]? = some u → w.cell? (ad.add j) = some u) (h1 : ∀ u ∈ news, u.oneCell' = true)
    (hroom : n + m ≤ cap) (n' : Nat) (hn' : n + m = n') (ys : List Value) (hys : xs ++ news = ys)
    (h : ∀ w', w'.ownsRow base 5 1 (.slice (some ⟨g, 0, none⟩) n' cap) n' ys → w.grownBy w' (some g) → wpList Yba.prog ops Q rest (a.put o.dst (.slice (some ⟨g, 0, none⟩) n' cap)) w') : wpList Yba.prog ops Q (o :: rest) a w := by
  subst hn' hys
  exact wpList_append_own_spare w hgd s x 22 ho base 5 i 1 Yba.underlying22 hi hsize g n cap xs hs hown ad m c news hx (by omega) hnews h1 hroom h

set_option maxHeartbeats 1000000 in
theorem append_some (x : Addr) (len cap : Nat) (z : Nat → Nat) (c : Nat) (w : World) (hx : len = 0 ∨ x.block < w.heap.size) (hcell : ∀ i, i < len → w.cell? (x.add i) = some (.int .u8 (z i : Nat)) ∧ z i < 256) (hlen : len ≤ 1024) (hc : c < 256) :
    Calls Yba.prog 4 #[.slice (some x) len cap, .int .u8 (c : Nat)] w fun e w' => e = .returned (.bool true) ∧ Below w.heap.size w w' := by
  have hlen' : (len : Int) ≤ 1024 := by omega
  have hrow : URow w (some x) len z := hx.elim Or.inl (fun h => Or.inr ⟨x, rfl, h, hcell⟩)
  obtain ⟨i0, hi, hz0, hz1, hz2⟩ := info_parts info5
  obtain ⟨w0, hr0, hown0, hg0⟩ := run_make_own (P := Yba.prog) w w.heap.size 22 5 i0 (.int .u8 0) 1 Yba.underlying22 hi hz0 hz1 .i64 .i64 (len + 1) (by rw [hz2]; omega) (by unfold maxLen; omega) (Nat.le_refl _)
  rw [← natc] at hr0
  have hnew : ∀ j u, (octs z len)[j]? = some u → w0.cell? (x.add j) = some u := fun j u hu => by
    obtain ⟨hj, rfl⟩ := octs_at hu
    exact hg0.cell (hcell j hj).1 (by simp)
  have hs0 := hg0.size
  go_enter Yba.func4, Yba.ntmps4
  go_wp2_with (first
    | (at_builtin; refine wpList_app _ rfl (.tmp 13) (.tmp 14) rfl w.heap.size i0 hi hz1 w.heap.size 0 (len + 1) [] rfl hown0 x len cap (octs z len) rfl (by simp [octs]) hnew (octs_one z len) (by omega) len (by omega) (octs z len) rfl ?_; intro w1 hown1 hg1; go_frame)
    | (at_builtin; refine wpList_app _ rfl (.tmp 16) (.tmp 18) rfl w.heap.size i0 hi hz1 w.heap.size len (len + 1) (octs z len) rfl (hown1.alloc _) ⟨w1.heap.size, 0, none⟩ 1 1 [.int .u8 (c : Nat)] rfl rfl (cell_one_new _ _ _) (by intro u hu; simp at hu; subst hu; rfl) (by omega) (len + 1) rfl _ rfl ?_; intro w2 hown2 hg2; go_frame))
  have hs1 := hg1.size
  have hb1 : Below w.heap.size w w1 := ((Below.refl _ w).grown hg0 (Nat.le_refl _) (fun k hk => by cases hk)).grown hg1 hs0 (fun k hk => by cases hk; exact Nat.le_refl _)
  have hb2 : Below w.heap.size w w2 := (hb1.alloc (by omega) _).grown hg2 (by simp; omega) (fun k hk => by cases hk; exact Nat.le_refl _)
  obtain ⟨a2, cap2, e2, hrow2⟩ := row_of_own (fun i hi => (hcell i hi).2) hc hown2
  cases e2
  have hrow3 := hrow.below hb2
  have hu1 := uintOf_any _ (len + 1) (len + 1) _ w2 hrow2 (by omega)
  have hu2 := uintOf_any (some x) len cap z w2 hrow3 (by omega)
  have hfin := bits_step (num z len) c hc
  rw [← num_more] at hfin
  obtain ⟨n1, hn1⟩ : ∃ n1, n1 = num (more z len c) (len + 1) := ⟨_, rfl⟩
  obtain ⟨n2, hn2⟩ : ∃ n2, n2 = num z len := ⟨_, rfl⟩
  rw [← hn1] at hu1 hfin
  rw [← hn2] at hu2 hfin
  clear hn1 hn2 hown0 hown1 hown2 hg0 hg1 hg2 hnew hrow hrow2 hrow3 hcell hb1
  refine hu1.mono ?_
  rintro e w3 ⟨rfl, rfl⟩
  go_wp2_with fail
  refine hu2.mono ?_
  rintro e w3 ⟨rfl, rfl⟩
  go_wp2_with fail
  go_ret
  exact ⟨rfl, hb2⟩

set_option maxHeartbeats 1000000 in
theorem append_nil (c : Nat) (w : World) (hc : c < 256) :
    Calls Yba.prog 4 #[.slice none 0 0, .int .u8 (c : Nat)] w fun e w' => e = .returned (.bool true) ∧ Below w.heap.size w w' := by
  obtain ⟨z, hz⟩ : ∃ z : Nat → Nat, z = fun _ => 0 := ⟨_, rfl⟩
  obtain ⟨i0, hi, hz0, hz1, hz2⟩ := info_parts info5
  obtain ⟨w0, hr0, hown0, hg0⟩ := run_make_own (P := Yba.prog) w w.heap.size 22 5 i0 (.int .u8 0) 1 Yba.underlying22 hi hz0 hz1 .i64 .i64 1 (by rw [hz2]; omega) (by unfold maxLen; omega) (Nat.le_refl _)
  have hr1 : (Instr.makeSlice 22 (.int .i64 0) (.int .i64 1)).run Yba.prog w = .ok (.slice (some ⟨w.heap.size, 0, none⟩) 0 1) w0 := hr0
  clear hr0
  have hs0 := hg0.size
  go_enter Yba.func4, Yba.ntmps4
  go_wp2_with (first
    | (at_builtin; refine wpList_append_own_none rfl (.tmp 13) (.tmp 14) 22 rfl w.heap.size 5 i0 1 Yba.underlying22 hi _ 0 [] rfl hown0 rfl ?_; go_frame)
    | (at_builtin; refine wpList_app _ rfl (.tmp 16) (.tmp 18) rfl w.heap.size i0 hi hz1 w.heap.size 0 1 [] rfl (hown0.alloc _) ⟨w0.heap.size, 0, none⟩ 1 1 [.int .u8 (c : Nat)] rfl rfl (cell_one_new _ _ _) (by intro u hu; simp at hu; subst hu; rfl) (by omega) 1 rfl (octs z 0 ++ [.int .u8 (c : Nat)]) rfl ?_; intro w2 hown2 hg2; go_frame))
  have hb1 : Below w.heap.size w w0 := (Below.refl _ w).grown hg0 (Nat.le_refl _) (fun k hk => by cases hk)
  have hb2 : Below w.heap.size w w2 := (hb1.alloc (by omega) _).grown hg2 (by simp; omega) (fun k hk => by cases hk; exact Nat.le_refl _)
  obtain ⟨a2, cap2, e2, hrow2⟩ := row_of_own (fun i hi => by omega) hc hown2
  cases e2
  have hu1 := uintOf_any _ 1 1 _ w2 hrow2 (by omega)
  have hu2 := uintOf_any none 0 0 z w2 (Or.inl rfl) (by omega)
  have hfin := bits_step (num z 0) c hc
  rw [← num_more] at hfin
  obtain ⟨n1, hn1⟩ : ∃ n1, n1 = num (more z 0 c) (0 + 1) := ⟨_, rfl⟩
  obtain ⟨n2, hn2⟩ : ∃ n2, n2 = num z 0 := ⟨_, rfl⟩
  rw [show (1 : Nat) = 0 + 1 from rfl, ← hn1] at hu1
  rw [← hn1] at hfin
  rw [← hn2] at hu2 hfin
  clear hn1 hn2 hown0 hown2 hg0 hg2 hrow2 hb1
  refine hu1.mono ?_
  rintro e w3 ⟨rfl, rfl⟩
  go_wp2_with fail
  refine hu2.mono ?_
  rintro e w3 ⟨rfl, rfl⟩
  go_wp2_with fail
  go_ret
  exact ⟨rfl, hb2⟩

set_option maxHeartbeats 400000 in
theorem append_long (a : Option Addr) (len cap : Nat) (c : Int) (w : World) (h : 1024 < len) :
    Calls Yba.prog 4 #[.slice a len cap, .int .u8 c] w fun e w' => e = .returned (.bool true) ∧ Below w.heap.size w w' := by
  have h1' : (1024 : Int) < (len : Int) := by omega
  go_enter Yba.func4, Yba.ntmps4
  go_wp2
  go_ret
  exact ⟨rfl, Below.refl _ _⟩

theorem u8_bd {n : Int} (h : (Lit.int .u8 n).wf = true) : 0 ≤ n ∧ n ≤ 255 := by
  simp [Lit.wf, IntKind.min, IntKind.max, IntKind.signed, IntKind.bits] at h
  omega

/-- A row of integers that came in, as octets. -/
theorem octets_of {w : World} {x : Addr} {len cap : Nat} {zs : List Int} (hl : len ≤ cap) (hz : zs.length = cap) (hcell : ∀ i, i < zs.length → w.cell? (x.add i) = some (.int .u8 (zs.getD i 0))) (hwz : ∀ n ∈ zs, (Lit.int .u8 n).wf = true) :
    ∀ i, i < len → w.cell? (x.add i) = some (.int .u8 (((fun i => (zs.getD i 0).toNat) i : Nat) : Int)) ∧ (fun i => (zs.getD i 0).toNat) i < 256 := by
  intro i hi
  have hi' : i < zs.length := by omega
  have hb : 0 ≤ zs.getD i 0 ∧ zs.getD i 0 ≤ 255 := u8_bd (hwz _ (by rw [List.getD_eq_getElem?_getD, List.getElem?_eq_getElem hi']; exact List.getElem_mem hi'))
  show w.cell? (x.add i) = some (.int .u8 ((zs.getD i 0).toNat : Int)) ∧ (zs.getD i 0).toNat < 256
  refine ⟨?_, by omega⟩
  rw [hcell i hi', Int.toNat_of_nonneg hb.1]

end Go.Proofs.Ybulkbaho
