/-
  LawS2573CSteps: the walk.
-/
import Derived.Test.YbulkbagmSteps
import Derived.Deep.OwnRows
import Derived.Carry
import Derived.Maps.RangeWalk
import Derived.Maps.Ext
import Derived.WalkSpells
import Derived.Deep.DeepCutAuto
import Derived.Deep.CutBlock
namespace Go.Proofs.Ybulkbagm
open Go.RowKit Go.Maps

theorem info5 : (Yba.prog.info? 5).map (fun i => (i.zero, i.size, i.bytes)) = some (some (.int .u8 0), 1, 1) := by kernel_rfl

/-- The five letters of the law's text. -/
def letter : Nat → Int
  | 0 => 32
  | 1 => 9
  | 2 => 10
  | 3 => 97
  | _ => 35

theorem letter_get (k : Nat) (h : k < (⟨#[32, 9, 10, 97, 35]⟩ : ByteArray).size) : ((((⟨#[32, 9, 10, 97, 35]⟩ : ByteArray)[k]'h).toNat : Nat) : Int) = letter k := by
  have h5 : k < 5 := h
  have h : k = 0 ∨ k = 1 ∨ k = 2 ∨ k = 3 ∨ k = 4 := by omega
  rcases h with rfl | rfl | rfl | rfl | rfl <;> rfl

/-- The first k indices' text breaks. -/
def btN (len : Nat) (b : Nat → Bool) (k : Nat) (j : Nat) : Bool := decide (j < k) && (decide (j < len) && b j)

theorem btN_zero (len : Nat) (b : Nat → Bool) (j : Nat) : btN len b 0 j = false := by simp [btN]
theorem btN_end {n len k : Nat} (b : Nat → Bool) (hk : k ≤ n) (h : k = n ∨ len ≤ k) : btN len b k = brkAt n len b := by
  funext j
  unfold btN brkAt
  rcases h with rfl | h
  · rfl
  · by_cases h1 : j < len
    · rw [decide_eq_true (show j < k by omega), decide_eq_true (show j < n by omega)]
    · rw [decide_eq_false h1]; simp
theorem btN_not {len k : Nat} {b : Nat → Bool} (h : b k = false) : btN len b (k + 1) = btN len b k := by
  funext j
  unfold btN
  by_cases e : j = k
  · subst e; simp [h]
  · have : decide (j < k + 1) = decide (j < k) := by simp; omega
    rw [this]
theorem btN_put {len k : Nat} {b : Nat → Bool} (hk : k < len) (h : b k = true) : btN len b (k + 1) = fun j => decide (j = k) || btN len b k j := by
  funext j
  unfold btN
  by_cases e : j = k
  · subst e; simp [h, hk]
  · have : decide (j < k + 1) = decide (j < k) := by simp; omega
    rw [this]
    simp [e]

theorem MapV.mono {w : World} {m : Option Nat} {N N' : Nat} {h : Nat → Bool} (hm : MapV w m N h) (hN : N ≤ N') : MapV w m N' h := by
  rcases hm with e | ⟨b, D, e, ho, hh⟩
  · exact Or.inl e
  · exact Or.inr ⟨b, D, e, ho.mono hN, hh⟩

/-- Block c of w is a map of at most N entries that holds the keys h. -/
def MapO (w : World) (c N : Nat) (h : Nat → Bool) : Prop := ∃ D : DataW Unit, w.ownsMap Yba.prog 3 (plainElem Yba.prog 9) c N D ∧ ∀ i : Nat, has D (.int .i64 i) = h i

theorem MapO.made (w : World) {h : Nat → Bool} (hh : ∀ i, h i = false) (N : Nat) : MapO (w.alloc (.map #[] 0)) w.heap.size N h :=
  ⟨.map [], (World.ownsMap_made _ _ _ _).mono (by omega), fun i => (hh i).symm⟩

theorem MapO.v {w : World} {c N : Nat} {h : Nat → Bool} (hm : MapO w c N h) : MapV w (some c) N h := let ⟨D, ho, hh⟩ := hm; Or.inr ⟨c, D, rfl, ho, hh⟩
theorem MapO.lt {w : World} {c N : Nat} {h : Nat → Bool} (hm : MapO w c N h) : c < w.heap.size := let ⟨_, ho, _⟩ := hm; ho.lt

theorem wpList_put (w : World) {ops : Array Oper} {rest : List Oper} {o : Oper} {a : Act} {Q : Exit → Act → World → Prop} (hg : o.guard = none) (m x v : Operand) (hop : o.op = Op.mapUpdate 60 m x v) (c N : Nat) (h : Nat → Bool) (hm : a.eval m = .map (some c)) (ho : MapO w c N h)
    (k : Nat) (hk : k ≤ 4096) (hN : N ≤ 4096) (hx : a.eval x = .int .i64 (k : Int)) (hv : a.eval v = .string ⟨#[13]⟩)
    (hK : ∀ w', MapO w' c (N + 1) (fun j => decide (j = k) || h j) → w.grownBy w' (some c) → wpList Yba.prog ops Q rest (a.put o.dst undef) w') : wpList Yba.prog ops Q (o :: rest) a w := by
  obtain ⟨D, ho, hh⟩ := ho
  refine wpList_mapUpdate_own w hg m x v 60 hop 3 9 law3 Yba.underlying60 _ c N D hm ho (by unfold maxLen; omega) _ _ _ hx hv (keyOf_int_mk Yba.underlying3 (wf_nat hk)) _ [] (plainElem_string Yba.underlying9 (by simp [ByteArray.size, maxLen])) ?_
  intro w' ho' hg'
  refine hK w' ⟨_, ho', fun j => ?_⟩ hg'
  by_cases e : j = k
  · subst e
    simp only [decide_true, Bool.true_or]
    exact has_put_same ho.isMap (k := .int .i64 (j : Int)) trivial _
  · rw [has_put_other (fun e1 => e (by cases e1; rfl)), hh]
    show h j = (decide (j = k) || h j)
    rw [decide_eq_false e]
    rfl

/-- The first i letters are laid. -/
structure Fill (w wr : World) (n : Nat) (g : Nat → Int) (i : Nat) : Prop where
  size : wr.heap.size = w.heap.size + 1
  low : Below w.heap.size w wr
  row : wr.rowIs w.heap.size 5 n (fun j => .int .u8 (if j < i then g j else 0))

theorem Fill.made (w : World) (n : Nat) (g : Nat → Int) : Fill w (w.alloc (.cells (madeCells #[.int .u8 0] n) 5)) n g 0 :=
  ⟨by simp, (Below.refl _ _).alloc (Nat.le_refl _) _, (World.rowIs_made w (.int .u8 0) n 5).congr (fun i _ => by simp)⟩

theorem Fill.set {w wr : World} {n : Nat} {g : Nat → Int} {i : Nat} (h : Fill w wr n g i) : Fill w (wr.setCell ⟨w.heap.size, i, none⟩ (.int .u8 (g i))) n g (i + 1) :=
  ⟨by rw [set_size]; exact h.size, h.low.setCell (Nat.le_refl _) _, (h.row.set i _).congr (fun j _ => by
    by_cases e : j = i
    · subst e; simp
    · rw [if_neg e]
      by_cases e2 : j < i
      · rw [if_pos e2, if_pos (by omega)]
      · rw [if_neg e2, if_neg (by omega)])⟩

/-- A row of bytes that came in. -/
def URow (w : World) (a : Option Addr) (len : Nat) (z : Nat → Nat) : Prop :=
  len = 0 ∨ ∃ x, a = some x ∧ x.block < w.heap.size ∧ ∀ i, i < len → w.cell? (x.add i) = some (.int .u8 (z i : Nat)) ∧ z i < 256

theorem cntN_le (g : Nat → Int) (h : Nat → Bool) (s : Nat) : ∀ e, cntN g h s e ≤ e
  | 0 => Nat.le_refl _
  | e + 1 => by
    have := cntN_le g h s e
    unfold cntN
    split <;> omega

theorem cntN_first (g : Nat → Int) (h : Nat → Bool) (s : Nat) : cntN g h s (s + 1) = if h s = true then 0 else 1 := by
  rw [cntN_at (Or.inl rfl), cntN_low g h s s (Nat.le_refl _)]

theorem lastN_le (g : Nat → Int) (s : Nat) : ∀ e, s < e → lastN g s e < e
  | 0, h => by omega
  | e + 1, h => by
    unfold lastN
    split
    · omega
    · by_cases h1 : s < e
      · have := lastN_le g s e h1; omega
      · rw [lastN_low g s e (by omega)]; omega

/-- The law's parser, before the call. -/
theorem psr_start {w wF wc : World} {n len1 s : Nat} {g : Nat → Int} {b : Nat → Bool} {m : Option Nat} (line ls : Int) (F : Fill w wF n g n) (hM : MapV wc m n (brkAt n len1 b)) (hMlt : ∀ c, m = some c → wF.heap.size ≤ c ∧ c < wc.heap.size) (hB : Below wF.heap.size wF wc) :
    Psr (wc.alloc (.cells #[.slice (some ⟨w.heap.size, 0, none⟩) n n, .int .i64 (s : Int), .int .i64 line, .int .i64 ls, .map m] 63)) wc.heap.size w.heap.size n g m n (brkAt n len1 b) s line ls := by
  have hsz := hB.size
  have hF := F.size
  have hrow := (F.row.of_block (hB.block w.heap.size (by omega))).alloc (.cells #[.slice (some ⟨w.heap.size, 0, none⟩) n n, .int .i64 (s : Int), .int .i64 line, .int .i64 ls, .map m] 63)
  refine ⟨?_, ?_, ?_, ?_, ?_, ?_, ?_, hM.kept (World.grownBy_alloc _ _ none) (fun _ _ h => by cases h), by omega, fun c hc => by have := hMlt c hc; omega⟩
  · rw [World.cell?_alloc_at _ _ _ _ rfl]; rfl
  · rw [World.cell?_alloc_at _ _ _ _ rfl]; rfl
  · rw [World.cell?_alloc_at _ _ _ _ rfl]; rfl
  · rw [World.cell?_alloc_at _ _ _ _ rfl]; rfl
  · rw [World.cell?_alloc_at _ _ _ _ rfl]; rfl
  · intro j; exact (World.rowIs_alloc wc _ 63 (fun i => (#[.slice (some ⟨w.heap.size, 0, none⟩) n n, .int .i64 (s : Int), .int .i64 line, .int .i64 ls, .map m] : Array Value)[i]?.getD undef) (fun i hi => by rw [Array.getElem?_eq_getElem hi]; rfl)).frozen j
  · intro i hi
    have := hrow.cell hi
    rw [if_pos hi] at this
    exact this

set_option maxHeartbeats 2000000 in
set_option maxRecDepth 100000 in
theorem walk_at (a0 : Option Addr) (n cap0 : Nat) (z : Nat → Nat) (a1 : Option Addr) (len1 cap1 : Nat) (b : Nat → Bool) (pos : Nat) (line ls : Int) (w : World) (w0 : URow w a0 n z) (w1 : BRow w a1 len1 b) (hpos : pos < 65536) (hl : wrap64 line = line) (hn : n ≤ 1024) :
    Calls Yba.prog 5 #[.slice a0 n cap0, .slice a1 len1 cap1, .int .u16 (pos : Int), .int .i64 line, .int .i64 ls] w fun e w' => e = .returned (.bool true) ∧ Below w.heap.size w w' := by
  have hmk := run_make_row' (P := Yba.prog) 57 5 (.int .u8 0) 1 Yba.underlying57 info5 rfl .i64 .i64 n (by omega) (by omega) w
  have hn' : (n : Int) ≤ 1024 := by omega
  have F0 := Fill.made w n (fun i => letter (z i % 5))
  go_enter Yba.func5, Yba.ntmps5
  go_upto_block 0 with fail
  go_cut [] (fun wx => Fill w wx n (fun i => letter (z i % 5)) n)
  case first =>
    go_wp2_with fail
    go_loopw [32] (fun i wr => ∃ k : Nat, i = .int .i64 k ∧ k ≤ n ∧ Fill w wr n (fun i => letter (z i % 5)) k) (fun i _ => n - (intOf i).toNat)
    case atStart => exact ⟨0, rfl, Nat.zero_le _, F0⟩
    case round =>
      obtain ⟨k, rfl, hk, F⟩ := hrel
      clear F0 hmk
      by_cases hlt : k < n
      · rcases w0 with rfl | ⟨x, rfl, hxb, hx⟩
        · omega
        obtain ⟨hc, hz⟩ := hx k hlt
        have hc' : wr.cell? (x.add k) = some (.int .u8 (z k : Nat)) := (F.low.cell (p := x.add k) (by rw [add_block]; exact hxb)).trans hc
        have hcd := F.row.cell hlt
        have hfd := F.row.frozen k
        clear hx hc
        have F' := F.set
        go_wp2_with fail
        go_roundw
        case rel =>
          refine ⟨k + 1, by go_num, hlt, ?_⟩
          rw [letter_get]
          exact F'
        case measure => simp [intOf]; omega
      · have hkn : k = n := by omega
        subst hkn
        go_wp2_with fail
        go_meet
        case rel => exact F
  case rest =>
    have F := hcut
    have hw1 : BRow wc a1 len1 b := w1.below F.low (Nat.le_refl _)
    obtain ⟨wF, hwF⟩ : ∃ x, x = wc := ⟨_, rfl⟩
    subst hwF
    have hmm := @run_makeMap Yba.prog
    have heq := fun wx r => run_eql_map_nil (P := Yba.prog) wx 60 3 9 r Yba.underlying60
    clear F0 hmk hcut
    go_upto_block 2 with fail
    go_cut [15] (fun mv wx => ∃ m : Option Nat, mv = .map m ∧ MapV wx m n (brkAt n len1 b) ∧ (∀ c, m = some c → wF.heap.size ≤ c ∧ c < wx.heap.size) ∧ Below wF.heap.size wF wx)
    case first =>
      go_wp2_with fail
      go_loopw [15, 16] (fun mv i wr => ∃ (k : Nat) (m : Option Nat), i = .int .i64 k ∧ mv = .map m ∧ k ≤ n ∧ MapV wr m k (btN len1 b k) ∧ (∀ c, m = some c → wF.heap.size ≤ c ∧ c < wr.heap.size) ∧ Below wF.heap.size wF wr) (fun _ i _ => n - (intOf i).toNat)
      case atStart => exact ⟨0, none, rfl, rfl, Nat.zero_le _, Or.inl ⟨rfl, btN_zero _ _⟩, (fun c h => by cases h), Below.refl _ _⟩
      case round =>
        obtain ⟨k, m, rfl, rfl, hk, hM, hMlt, hB⟩ := hrel
        by_cases hkn : k < n
        · have hkn' : (k : Int) < (n : Int) := by omega
          by_cases hkl : k < len1
          · have hkl' : (k : Int) < (len1 : Int) := by omega
            have hr := hw1.below hB (Nat.le_refl _)
            rcases hr with rfl | ⟨x, rfl, hxb, hx⟩
            · omega
            have hxk := hx k hkl
            clear hx
            cases hbk : b k
            · rw [hbk] at hxk
              go_wp2_with fail
              go_roundw
              case rel => exact ⟨k + 1, m, by go_num, rfl, hkn, by rw [btN_not hbk]; exact hM.mono (Nat.le_succ _), hMlt, hB⟩
              case measure => simp [intOf]; omega
            · rw [hbk] at hxk
              rcases hM with ⟨rfl, hM0⟩ | ⟨c, D, rfl, hO, hD⟩
              · have hO := MapO.made wr hM0 k
                go_wp2_with (first
                  | (at_mapUpdate; refine wpList_put _ rfl _ _ _ rfl _ k _ rfl hO k (by omega) (by omega) rfl rfl ?_; intro w2 hO2 hg2; go_frame)
                  | go_in)
                go_roundw
                case rel =>
                  refine ⟨k + 1, _, by go_num, rfl, hkn, by rw [btN_put hkl hbk]; exact hO2.v, (fun c hc => ?_), ?_⟩
                  · cases hc; exact ⟨hB.size, hO2.lt⟩
                  · exact (hB.alloc hB.size _).grown hg2 (by simp; have := hB.size; omega) (fun c hc => by cases hc; exact hB.size)
                case measure => simp [intOf]; omega
              · have hO1 : MapO wr c k (btN len1 b k) := ⟨D, hO, hD⟩
                have hMc := hMlt c rfl
                go_wp2_with (first
                  | (at_mapUpdate; refine wpList_put _ rfl _ _ _ rfl _ k _ rfl hO1 k (by omega) (by omega) rfl rfl ?_; intro w2 hO2 hg2; go_frame)
                  | go_in)
                go_roundw
                case rel =>
                  refine ⟨k + 1, _, by go_num, rfl, hkn, by rw [btN_put hkl hbk]; exact hO2.v, (fun c hc => ?_), ?_⟩
                  · cases hc; exact ⟨hMc.1, hO2.lt⟩
                  · exact hB.grown hg2 hB.size (fun c hc => by cases hc; exact hMc.1)
                case measure => simp [intOf]; omega
          · have hkl' : decide ((k : Int) < (len1 : Int)) = false := decide_eq_false (by omega)
            go_wp2_with fail
            go_meet
            case rel => exact ⟨m, rfl, by rw [← btN_end b hk (Or.inr (by omega))]; exact hM.mono hk, hMlt, hB⟩
        · have hkn' : decide ((k : Int) < (n : Int)) = false := decide_eq_false (by omega)
          go_wp2_with fail
          go_meet
          case rel => exact ⟨m, rfl, by rw [← btN_end b hk (Or.inl (by omega))]; exact hM.mono hk, hMlt, hB⟩
    case rest =>
      obtain ⟨m, rfl, hM, hMlt, hB⟩ := hcut
      obtain ⟨g, hgg⟩ : ∃ g, g = fun i => letter (z i % 5) := ⟨_, rfl⟩
      rw [← hgg] at F
      clear hgg hmm heq
      obtain ⟨s, hs, hsn⟩ : ∃ s : Nat, (pos : Int) % ((n : Int) + 1) = (s : Int) ∧ s ≤ n := ⟨pos % (n + 1), by rw [Int.natCast_emod]; rfl, by have := Nat.mod_lt pos (show 0 < n + 1 by omega); omega⟩
      have P0 := psr_start (s := s) line ls F hM hMlt hB
      have hsz := hB.size
      have hFs := F.size
      have hbw : Below w.heap.size w (wc.alloc (.cells #[.slice (some ⟨w.heap.size, 0, none⟩) n n, .int .i64 (s : Int), .int .i64 line, .int .i64 ls, .map m] 63)) :=
        (F.low.trans (hB.mono (by omega))).alloc (by omega) _
      go_wp2_with fail
      rw [hs]
      refine (lineBreaks_any P0 (by simp; omega) hn hsn hl).mono ?_
      rintro e w5 ⟨rfl, ⟨q, P5, hq⟩, hg5⟩
      have hb5 : Below w.heap.size w w5 := hbw.grown hg5 (by simp; omega) (fun c hc => by cases hc; omega)
      have hr5 : BRow w5 a1 len1 b := w1.below hb5 (Nat.le_refl _)
      obtain ⟨p, hp⟩ : ∃ p, p = wc.heap.size := ⟨_, rfl⟩
      rw [← hp] at P5 ⊢
      clear hg5 hbw P0 hs hp hM hMlt hB F hsz hFs
      have hs' : (s : Int) ≤ (n : Int) := by omega
      go_upto_block 4 with fail
      go_cut [19] (fun e wx => e = .int .i64 (q : Int) ∧ wx = w5)
      case first =>
        go_wp2_with fail
        go_loopw [19] (fun i wr => ∃ k : Nat, i = .int .i64 (k : Int) ∧ wr = w5 ∧ s < k ∧ (k ≤ n ∨ k = s + 1) ∧ ∀ i, s < i → i < k → ws (g i) = true) (fun i _ => n - (intOf i).toNat)
        case atStart => exact ⟨s + 1, by go_num, rfl, by omega, Or.inr rfl, fun i _ _ => by omega⟩
        case round =>
          obtain ⟨k, rfl, rfl, hk1, hk2, hk3⟩ := hrel
          by_cases hkn : k < n
          · have hkn' : (k : Int) < (n : Int) := by omega
            have hk0 : (0 : Int) ≤ (k : Int) := by omega
            have hck := P5.txt k hkn
            cases hwk : ws (g k)
            · have hcw := cws_any (g k) wr
              rw [hwk] at hcw
              go_wp2_with fail
              refine hcw.mono ?_
              rintro e w6 ⟨rfl, rfl⟩
              go_wp2_with fail
              go_meet
              case rel => exact ⟨by rw [hq.unique ⟨hk1, hk2, hk3, fun _ => hwk⟩], by trivial⟩
            · have hcw := cws_any (g k) wr
              rw [hwk] at hcw
              go_wp2_with fail
              refine hcw.mono ?_
              rintro e w6 ⟨rfl, rfl⟩
              go_wp2_with fail
              go_roundw
              case rel =>
                refine ⟨k + 1, by go_num, by trivial, by omega, Or.inl hkn, fun i h1 h2 => ?_⟩
                by_cases e : i = k
                · rw [e]; exact hwk
                · exact hk3 i h1 (by omega)
              case measure => simp [intOf]; omega
          · have hkn' : decide ((k : Int) < (n : Int)) = false := decide_eq_false (by omega)
            go_wp2_with fail
            go_meet
            case rel => exact ⟨by rw [hq.unique ⟨hk1, hk2, hk3, fun h => absurd h hkn⟩], by trivial⟩
      case rest =>
        obtain ⟨rfl, rfl⟩ := hcut
        have hqs := hq.1
        have hqn : q ≤ n + 1 := by have := hq.2.1; omega
        have hq' : (q : Int) ≤ (n : Int) + 1 := by omega
        have hcs := cntN_first g (brkAt n len1 b) s
        have hcb := cbrk_any a1 len1 cap1 b n s wc hr5
        obtain ⟨h, hh⟩ : ∃ h, h = brkAt n len1 b := ⟨_, rfl⟩
        rw [← hh] at hcs hcb P5
        have HH : Hid (h = brkAt n len1 b) := hh
        clear hh
        go_wp2_with fail
        refine hcb.mono ?_
        rintro e w6 ⟨rfl, rfl⟩
        go_upto_if 98 with fail
        go_cut [21] (fun c wx => c = .int .i64 ((cntN g h s (s + 1) : Nat) : Int) ∧ wx = w6)
        case first =>
          cases hhs : h s
          · go_wp2_with fail
            go_meet
            case rel => exact ⟨by rw [hcs, hhs]; rfl, by trivial⟩
          · go_wp2_with fail
            go_meet
            case rel => exact ⟨by rw [hcs, hhs]; rfl, by trivial⟩
        case rest =>
          obtain ⟨rfl, rfl⟩ := hcut
          clear hcs hcb
          have hc1 := cntN_le g h s (s + 1)
          have hcq := cntN_le g h s q
          have hl1 := lastN_le g s q hqs
          go_upto_block 6 with fail
          go_cut [20, 21] (fun l c wx => l = .int .i64 ((lastN g s q : Nat) : Int) ∧ c = .int .i64 ((cntN g h s q : Nat) : Int) ∧ wx = wc)
          case first =>
            go_wp2_with fail
            go_loopw [20, 21, 22] (fun l c i wr => ∃ k : Nat, i = .int .i64 (k : Int) ∧ l = .int .i64 ((lastN g s k : Nat) : Int) ∧ c = .int .i64 ((cntN g h s k : Nat) : Int) ∧ wr = wc ∧ s < k ∧ k ≤ q) (fun _ _ i _ => q - (intOf i).toNat)
            case atStart => exact ⟨s + 1, by go_num, by rw [lastN_low g s _ (Nat.le_refl _)], rfl, rfl, by omega, by omega⟩
            case round =>
              obtain ⟨k, rfl, rfl, rfl, rfl, hk1, hk2⟩ := hrel
              have hcl := cntN_le g h s k
              by_cases hkq : k < q
              · have hkn : k < n := by have := hq.2.1; omega
                have hkq' : (k : Int) < (q : Int) := by omega
                have hkn' : (k : Int) < (n : Int) := by omega
                have hk0 : (0 : Int) ≤ (k : Int) := by omega
                have hck := P5.txt k hkn
                by_cases h10 : g k = 10
                · rw [h10] at hck
                  have hla := lastN_at (g := g) (s := s) (k := k) (Or.inr ⟨hk1, h10⟩)
                  have hcb := cbrk_any a1 len1 cap1 b n k wr hr5
                  rw [← HH.out] at hcb
                  cases hhk : h k
                  · rw [hhk] at hcb
                    have hcn : cntN g h s (k + 1) = cntN g h s k + 1 := by rw [cntN_at (Or.inr ⟨hk1, h10⟩), hhk]; rfl
                    go_wp2_with fail
                    refine hcb.mono ?_
                    rintro e w7 ⟨rfl, rfl⟩
                    go_wp2_with fail
                    go_roundw
                    case rel => exact ⟨k + 1, by go_num, by rw [hla], by rw [hcn]; go_num, by trivial, by omega, hkq⟩
                    case measure => simp [intOf]; omega
                  · rw [hhk] at hcb
                    have hcn : cntN g h s (k + 1) = cntN g h s k := by rw [cntN_at (Or.inr ⟨hk1, h10⟩), hhk]; rfl
                    go_wp2_with fail
                    refine hcb.mono ?_
                    rintro e w7 ⟨rfl, rfl⟩
                    go_wp2_with fail
                    go_roundw
                    case rel => exact ⟨k + 1, by go_num, by rw [hla], by rw [hcn], by trivial, by omega, hkq⟩
                    case measure => simp [intOf]; omega
                · have hb10 : (g k == 10) = false := by simpa using h10
                  have hla := lastN_none (s := s) h10
                  have hcn := cntN_none (h := h) hk1 h10
                  go_wp2_with fail
                  go_roundw
                  case rel => exact ⟨k + 1, by go_num, by rw [hla], by rw [hcn], by trivial, by omega, hkq⟩
                  case measure => simp [intOf]; omega
              · have hkq' : k = q := by omega
                subst hkq'
                go_wp2_with fail
                go_meet
                case rel => exact ⟨rfl, rfl, by trivial⟩
          case rest =>
            obtain ⟨rfl, rfl, rfl⟩ := hcut
            have p1 := P5.c1
            have p2 := P5.c2
            have p3 := P5.c3
            rw [← natc] at p3
            go_wp2_with fail
            go_ret
            exact ⟨rfl, hb5⟩

end Go.Proofs.Ybulkbagm
