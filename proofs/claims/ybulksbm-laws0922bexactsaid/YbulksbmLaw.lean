import Derived.Test.YbulksbmBase
namespace Go.Proofs.Ybulksbm
open Go.RowKit

/-- The law's arguments, as they lie in memory. -/
structure In (w : World) (ba : Option Addr) (nb cb : Nat) (la : Option Addr) (n : Nat) (pa : Option Addr) (m : Nat) (ea : Option Addr) (ne : Nat) (bz lp lt : Nat → Int) (pz ez : Nat → Nat) : Prop where
  base : (ba = none ∧ nb = 0 ∧ cb = 0) ∨ ∃ a, ba = some a ∧ ∀ j, j < nb → w.cell? (a.add j) = some (.int .u32 (bz j))
  log : 0 < n → ∃ g o, la = some ⟨g, o, none⟩ ∧ g < w.heap.size ∧ ∀ j, j < n → w.cell? ⟨g, o + j * 2, none⟩ = some (.int .i32 (lp j)) ∧ w.cell? ⟨g, o + j * 2 + 1, none⟩ = some (.int .u32 (lt j))
  pl : 0 < m → ∃ g o, pa = some ⟨g, o, none⟩ ∧ g < w.heap.size ∧ ∀ j, j < m → w.cell? ⟨g, o + j, none⟩ = some (.int .u8 (pz j : Int)) ∧ pz j ≤ 255
  en : 0 < ne → ∃ g o, ea = some ⟨g, o, none⟩ ∧ g < w.heap.size ∧ ∀ j, j < ne → w.cell? ⟨g, o + j, none⟩ = some (.int .u8 (ez j : Int)) ∧ ez j ≤ 255

theorem blk_new (w : World) (o : Obj) : (w.alloc o).heap[w.heap.size]? = some o := by
  show (w.heap.push o)[w.heap.size]? = some o
  exact Array.getElem?_push_size

theorem blk_lt {w : World} {a : Addr} {v : Value} (h : w.cell? a = some v) : a.block < w.heap.size := by
  apply Nat.lt_of_not_le
  intro hle
  have hn : w.heap[a.block]? = none := Array.getElem?_eq_none hle
  simp [World.cell?, hn] at h

theorem cell_row {w : World} {b : Nat} {cs : Array Value} {t : TypeId} (h : w.heap[b]? = some (.cells cs t (0, 0))) (i : Nat) : w.cell? ⟨b, i, none⟩ = cs[i]? := by simp [World.cell?, h]
theorem free_row {w : World} {b : Nat} {cs : Array Value} {t : TypeId} (h : w.heap[b]? = some (.cells cs t (0, 0))) (i : Nat) : w.frozen? ⟨b, i, none⟩ = false := by simp [World.frozen?, h]

/-- Places and ends, summed up. -/
def plc (p0 : Int) (pz : Nat → Nat) : Nat → Int
  | 0 => p0
  | i + 1 => plc p0 pz i + pz i
def enl (ez : Nat → Nat) (ne n : Nat) : Nat → Nat
  | 0 => 0
  | i + 1 => min (enl ez ne n i + (if i < ne then ez i else 0)) n

theorem plc_bounds (p0 : Int) (pz : Nat → Nat) (m : Nat) (h1 : -128 ≤ p0) (h2 : p0 ≤ 127) (hz : ∀ j, j < m → pz j ≤ 255) : ∀ i, i ≤ m → -128 ≤ plc p0 pz i ∧ plc p0 pz i ≤ 127 + 255 * (i : Int)
  | 0, _ => ⟨h1, by simp [plc]; omega⟩
  | i + 1, hi => by
    have := plc_bounds p0 pz m h1 h2 hz i (by omega)
    have hp := hz i (by omega)
    simp only [plc]
    omega
theorem enl_le (ez : Nat → Nat) (ne n : Nat) (i : Nat) : enl ez ne n i ≤ n := by
  cases i with
  | zero => exact Nat.zero_le _
  | succ i => exact Nat.min_le_right _ _

/-- The first i pairs of a row. -/
def Filled (A C : Nat → Value) (i : Nat) (cs : Array Value) : Prop := ∀ j, j < i → cs[j * 2]? = some (A j) ∧ cs[j * 2 + 1]? = some (C j)

theorem Filled.step {A C : Nat → Value} {i : Nat} {cs : Array Value} (h : Filled A C i cs) (hs : i * 2 + 1 < cs.size) : Filled A C (i + 1) ((cs.setIfInBounds (i * 2) (A i)).setIfInBounds (i * 2 + 1) (C i)) := by
  intro j hj
  by_cases he : j = i
  · subst he
    constructor
    · rw [Array.getElem?_setIfInBounds_ne (by omega), Array.getElem?_setIfInBounds_self_of_lt (by omega)]
    · rw [Array.getElem?_setIfInBounds_self_of_lt (by simp; omega)]
  · obtain ⟨h1, h2⟩ := h j (by omega)
    constructor
    · rw [Array.getElem?_setIfInBounds_ne (by omega), Array.getElem?_setIfInBounds_ne (by omega)]; exact h1
    · rw [Array.getElem?_setIfInBounds_ne (by omega), Array.getElem?_setIfInBounds_ne (by omega)]; exact h2

theorem row_step {w : World} {B a b : Nat} {cs : Array Value} {t : TypeId} (h : w.heap[B]? = some (.cells cs t (0, 0))) (u v : Value) :
    ((w.setCell ⟨B, a, none⟩ u).setCell ⟨B, b, none⟩ v).heap[B]? = some (.cells ((cs.setIfInBounds a u).setIfInBounds b v) t (0, 0)) :=
  heap_setCell_same _ B b _ t v (heap_setCell_same w B a cs t u h)

theorem i109z : (Yba.prog.info? 109).map (fun i => (i.zero.isSome, i.size, i.bytes)) = some (true, 16, 280) := by kernel_rfl

theorem make_procs : ∃ Z : Array Value, Z.size = 48 ∧ ∀ w, (Instr.makeSlice 97 (.int .i64 3) (.int .i64 3)).run Yba.prog w = .ok (.slice (some ⟨w.heap.size, 0, none⟩) 3 3) (w.alloc (.cells Z 109)) := by
  obtain ⟨i, hi1, hi2⟩ := Option.map_eq_some_iff.1 i109z
  simp only [Prod.mk.injEq] at hi2
  obtain ⟨h1, h2, h3⟩ := hi2
  obtain ⟨z, hz⟩ := Option.isSome_iff_exists.1 h1
  refine ⟨madeCells z.cells 48, size_madeCells _ _, fun w => ?_⟩
  have := run_make (P := Yba.prog) w 97 109 i z Yba.underlying97 hi1 hz .i64 .i64 3 3 (by omega) (by omega) (by rw [h3]; omega) (by omega)
  rw [this, h2]
  rfl

/-- Six cells of a row written in a line. -/
def set6 (cs : Array Value) (o : Nat) (v0 v1 v2 v3 v4 v5 : Value) : Array Value :=
  (((((cs.setIfInBounds o v0).setIfInBounds (o + 1) v1).setIfInBounds (o + 2) v2).setIfInBounds (o + 3) v3).setIfInBounds (o + 4) v4).setIfInBounds (o + 5) v5
theorem set6_size (cs : Array Value) (o : Nat) (v0 v1 v2 v3 v4 v5 : Value) : (set6 cs o v0 v1 v2 v3 v4 v5).size = cs.size := by simp [set6]
theorem set6_other (cs : Array Value) (o j : Nat) (v0 v1 v2 v3 v4 v5 : Value) (h : j < o ∨ o + 5 < j) : (set6 cs o v0 v1 v2 v3 v4 v5)[j]? = cs[j]? := by
  unfold set6
  rw [Array.getElem?_setIfInBounds_ne (by omega), Array.getElem?_setIfInBounds_ne (by omega), Array.getElem?_setIfInBounds_ne (by omega), Array.getElem?_setIfInBounds_ne (by omega), Array.getElem?_setIfInBounds_ne (by omega), Array.getElem?_setIfInBounds_ne (by omega)]
theorem set6_at (cs : Array Value) (o : Nat) (v0 v1 v2 v3 v4 v5 : Value) (h : o + 5 < cs.size) :
    (set6 cs o v0 v1 v2 v3 v4 v5)[o]? = some v0 ∧ (set6 cs o v0 v1 v2 v3 v4 v5)[o + 1]? = some v1 ∧ (set6 cs o v0 v1 v2 v3 v4 v5)[o + 2]? = some v2 ∧ (set6 cs o v0 v1 v2 v3 v4 v5)[o + 3]? = some v3 := by
  unfold set6
  refine ⟨?_, ?_, ?_, ?_⟩
  · rw [Array.getElem?_setIfInBounds_ne (by omega), Array.getElem?_setIfInBounds_ne (by omega), Array.getElem?_setIfInBounds_ne (by omega), Array.getElem?_setIfInBounds_ne (by omega), Array.getElem?_setIfInBounds_ne (by omega), Array.getElem?_setIfInBounds_self_of_lt (by first | omega | (simp; omega))]
  · rw [Array.getElem?_setIfInBounds_ne (by omega), Array.getElem?_setIfInBounds_ne (by omega), Array.getElem?_setIfInBounds_ne (by omega), Array.getElem?_setIfInBounds_ne (by omega), Array.getElem?_setIfInBounds_self_of_lt (by first | omega | (simp; omega))]
  · rw [Array.getElem?_setIfInBounds_ne (by omega), Array.getElem?_setIfInBounds_ne (by omega), Array.getElem?_setIfInBounds_ne (by omega), Array.getElem?_setIfInBounds_self_of_lt (by first | omega | (simp; omega))]
  · rw [Array.getElem?_setIfInBounds_ne (by omega), Array.getElem?_setIfInBounds_ne (by omega), Array.getElem?_setIfInBounds_self_of_lt (by simp; omega)]
theorem row_six {w : World} {B o : Nat} {cs : Array Value} {t : TypeId} (h : w.heap[B]? = some (.cells cs t (0, 0))) (v0 v1 v2 v3 v4 v5 : Value) :
    ((((((w.setCell ⟨B, o, none⟩ v0).setCell ⟨B, o + 1, none⟩ v1).setCell ⟨B, o + 2, none⟩ v2).setCell ⟨B, o + 3, none⟩ v3).setCell ⟨B, o + 4, none⟩ v4).setCell ⟨B, o + 5, none⟩ v5).heap[B]? = some (.cells (set6 cs o v0 v1 v2 v3 v4 v5) t (0, 0)) :=
  heap_setCell_same _ B _ _ t _ (heap_setCell_same _ B _ _ t _ (heap_setCell_same _ B _ _ t _ (heap_setCell_same _ B _ _ t _ (heap_setCell_same _ B _ _ t _ (heap_setCell_same _ B _ _ t _ h)))))

theorem six_other {w : World} {B o k : Nat} (h : k ≠ B) (v0 v1 v2 v3 v4 v5 : Value) :
    ((((((w.setCell ⟨B, o, none⟩ v0).setCell ⟨B, o + 1, none⟩ v1).setCell ⟨B, o + 2, none⟩ v2).setCell ⟨B, o + 3, none⟩ v3).setCell ⟨B, o + 4, none⟩ v4).setCell ⟨B, o + 5, none⟩ v5).heap[k]? = w.heap[k]? := by
  rw [Below.heap_setCell _ _ _ _ h, Below.heap_setCell _ _ _ _ h, Below.heap_setCell _ _ _ _ h, Below.heap_setCell _ _ _ _ h, Below.heap_setCell _ _ _ _ h, Below.heap_setCell _ _ _ _ h]

theorem alloc3_block {w : World} {k : Nat} (h : k < w.heap.size) (o1 o2 o3 : Obj) : (((w.alloc o1).alloc o2).alloc o3).heap[k]? = w.heap[k]? := by
  rw [Below.heap_alloc _ _ _ (by simp; omega), Below.heap_alloc _ _ _ (by simp; omega), Below.heap_alloc _ _ _ h]

theorem cut_exists (P : Nat → Int) (hmono : ∀ i j, i ≤ j → P i ≤ P j) (x : Int) : ∀ m, ∃ K, IsCut m P x K
  | 0 => ⟨0, Nat.le_refl _, fun i hi => absurd hi (by omega), fun i _ hi => absurd hi (by omega)⟩
  | m + 1 => by
    obtain ⟨K, h1, h2, h3⟩ := cut_exists P hmono x m
    by_cases hK : K < m
    · refine ⟨K, by omega, h2, fun i hi1 hi2 => ?_⟩
      have a := h3 K (Nat.le_refl _) hK
      have b := hmono K i hi1
      omega
    · have hKm : K = m := by omega
      by_cases hx : P m ≤ x
      · refine ⟨m + 1, Nat.le_refl _, fun i hi => ?_, fun i h _ => absurd h (by omega)⟩
        rcases Nat.lt_or_ge i m with h | h
        · exact h2 i (by omega)
        · have : i = m := by omega
          rw [this]; exact hx
      · refine ⟨m, by omega, fun i hi => h2 i (by omega), fun i h1 h2 => ?_⟩
        have : i = m := by omega
        rw [this]; omega

theorem plc_mono (p0 : Int) (pz : Nat → Nat) (i j : Nat) (h : i ≤ j) : plc p0 pz i ≤ plc p0 pz j := by
  induction j with
  | zero => have : i = 0 := by omega
            rw [this]; exact Int.le_refl _
  | succ j ih =>
    rcases Nat.lt_or_ge i (j + 1) with h1 | h1
    · have := ih (by omega)
      simp only [plc]
      omega
    · have : i = j + 1 := by omega
      rw [this]; exact Int.le_refl _

theorem PtsAt.below {Bq m : Nat} {P : Nat → Int} {E : Nat → Nat} {w w' : World} {B : Nat} (h : PtsAt Bq m P E w) (hb : Below B w w') (hq : Bq < B) : PtsAt Bq m P E w' := fun i hi =>
  ⟨by rw [hb.cell (p := ⟨Bq, i * 2, none⟩) hq]; exact (h i hi).1, by rw [hb.cell (p := ⟨Bq, i * 2 + 1, none⟩) hq]; exact (h i hi).2⟩

theorem eql_nil (a : Option Addr) (l c : Nat) (w : World) : (binOp .eql 86 (.slice a l c) (.slice none 0 0)).run Yba.prog w = .ok (.bool a.isNone) w := by
  simp only [binOp]
  simp [run_equal_slice_nil w 86 88 a l c Yba.underlying86]

theorem bel_drewN {B : Nat} {a w : World} (h : Below B a w) (q : Nat) : Below B a (w.drewN q) := ⟨h.os, h.tape, h.output, h.size, h.block⟩

theorem BaseOk.shape {bv : Value} {w : World} (h : BaseOk bv w) : ∃ a l c, bv = .slice a l c := by
  rcases h with h | ⟨Bb, nb, h, _⟩
  · exact ⟨_, _, _, h⟩
  · exact ⟨_, _, _, h⟩

/-- The processes and the history that was laid into one of them. -/
def Laid (Bp Bs f : Nat) (bv : Value) (hp : Int) (Bl n Bq m : Nat) (w : World) : Prop :=
  (∃ cs : Array Value, w.heap[Bp]? = some (.cells cs 109 (0, 0)) ∧ cs.size = 48 ∧ cs[f * 16 + 4]? = some bv ∧ cs[f * 16 + 4 + 1]? = some (.int .i64 hp) ∧ cs[f * 16 + 4 + 2]? = some (.slice (some ⟨Bl, 0, none⟩) n n) ∧ cs[f * 16 + 4 + 3]? = some (.slice (some ⟨Bq, 0, none⟩) m m)) ∧
  w.cell? ⟨Bs, 0, none⟩ = some (.slice (some ⟨Bp, 0, none⟩) 3 3)

/-- The copy of a base that is there. -/
theorem copy_base (w : World) (a : Addr) (nb cb : Nat) (bz : Nat → Int) (hb : nb ≤ 1024) (ha : ∀ j, j < nb → w.cell? (a.add j) = some (.int .u32 (bz j))) :
    ∃ W2, (∀ ty, (Builtin.copy_ #[86, 84] ty #[.slice (some ⟨w.heap.size, 0, none⟩) nb nb, .slice (some a) nb cb]).run Yba.prog (w.alloc (.cells (madeCells #[Value.int .u32 0] nb) 88)) = .ok (.int .i64 nb) W2) ∧
      BaseOk (.slice (some ⟨w.heap.size, 0, none⟩) nb nb) W2 ∧ Below w.heap.size w W2 := by
  have hsz : (Yba.prog.info? 88).map (·.size) = some 1 := by kernel_rfl
  have hbel := (Below.refl w.heap.size w).alloc (Nat.le_refl _) (.cells (madeCells #[Value.int .u32 0] nb) 88)
  have hnew := blk_new w (.cells (madeCells #[Value.int .u32 0] nb) 88)
  have hms := size_madeCells #[Value.int .u32 0] nb
  generalize madeCells #[Value.int .u32 0] nb = mc at *
  refine ⟨(w.alloc (.cells mc 88)).setRow w.heap.size ((List.range nb).map (fun j => Value.int .u32 (bz j))).toArray, fun ty => ?_, ?_, ?_⟩
  · have := run_copy_row (P := Yba.prog) (w.alloc (.cells mc 88)) 86 84 ty 88 w.heap.size 0 nb nb a nb cb mc 88 ((List.range nb).map (fun j => Value.int .u32 (bz j))) Yba.underlying86 hsz hnew (by simp)
      (fun j v hj => by
        rw [List.getElem?_map] at hj
        obtain ⟨x, hx, rfl⟩ := Option.map_eq_some_iff.1 hj
        have hjl : j < nb := by have := (List.getElem?_eq_some_iff.1 hx).1; simpa using this
        rw [List.getElem?_range hjl] at hx
        cases hx
        have h1 := ha j hjl
        rw [hbel.cell (p := a.add j) (blk_lt h1)]
        exact h1) (by simp; omega) (fun v hv => by
        obtain ⟨x, _, rfl⟩ := List.mem_map.1 hv
        rfl)
    rw [this]
    have e : (mc.toList.take 0 ++ (List.range nb).map (fun j => Value.int .u32 (bz j)) ++ mc.toList.drop (0 + ((List.range nb).map (fun j => Value.int .u32 (bz j))).length)) = (List.range nb).map (fun j => Value.int .u32 (bz j)) := by
      have : mc.toList.length = nb := by simp; omega
      simp [List.drop_eq_nil_of_le, this]
    rw [e]
    simp [goInt]
  · have hrow := setRow_heap (w.alloc (.cells mc 88)) w.heap.size mc ((List.range nb).map (fun j => Value.int .u32 (bz j))).toArray 88 (0, 0) hnew
    refine Or.inr ⟨w.heap.size, nb, rfl, hb, ?_, fun j hj => ⟨bz j, ?_⟩⟩
    · exact lt_of_block hrow
    · rw [cell_row hrow]; simp [hj]
  · exact ⟨hbel.os, hbel.tape, hbel.output, by simp [World.setRow], fun k hk => by rw [setRow_other _ _ _ _ (by omega)]; exact hbel.block k hk⟩

set_option maxHeartbeats 16000000 in
set_option maxRecDepth 100000 in
theorem law_small (w : World) (sel hp p0 : Int) (ba : Option Addr) (nb cb : Nat) (la : Option Addr) (n cl : Nat) (pa : Option Addr) (m cp : Nat) (ea : Option Addr) (ne ce : Nat) (start own : Int) (bz lp lt : Nat → Int) (pz ez : Nat → Nat)
    (hin : In w ba nb cb la n pa m ea ne bz lp lt pz ez) (d1 : 0 ≤ sel) (d2 : sel ≤ 255) (d3 : -128 ≤ hp) (d4 : hp ≤ 127) (d5 : -128 ≤ p0) (d6 : p0 ≤ 127) (l1 : nb ≤ 1024) (l2 : n ≤ 1024) (l3 : m ≤ 1024) (l4 : ne ≤ 1024) :
    Calls Yba.prog 4 #[.int .u8 sel, .int .i8 hp, .int .i8 p0, .slice ba nb cb, .slice la n cl, .slice pa m cp, .slice ea ne ce, .int .i64 start, .int .i64 own] w fun e w' => e = .returned (.bool true) ∧ Below w.heap.size w w' := by
  have HI : Hid _ := hin
  clear hin
  have k1 : (nb : Int) ≤ 1024 := by omega
  have k2 : (n : Int) ≤ 1024 := by omega
  have k3 : (m : Int) ≤ 1024 := by omega
  have k4 : (ne : Int) ≤ 1024 := by omega
  go_enter Yba.func4, Yba.ntmps4
  go_upto_if 58 with fail
  go_cut [19] from 58 to 64 (fun s19 wx => BaseOk s19 wx ∧ Below w.heap.size w wx)
  case first =>
    rcases HI.out.base with ⟨rfl, rfl, rfl⟩ | ⟨a, rfl, ha⟩
    · go_wp2_with fail
      go_meet
      case rel => exact ⟨Or.inl rfl, Below.refl _ _⟩
    · obtain ⟨W2, hcp, hok, hbl⟩ := copy_base w a nb cb bz l1 ha
      have hmk := make_pairs 86 88 (.int .u32 0) 1 4 Yba.underlying86 i88 nb (by omega) l1 #[.int .u32 0] rfl nb (by omega)
      have HOK : Hid (_ ∧ _) := ⟨hok, hbl⟩
      clear hok hbl ha
      go_wp2_with fail
      go_meet
      case rel => exact HOK.out
  case rest =>
    obtain ⟨hbo, hbl⟩ := hcut
    rename World => w1
    have HB : Hid (_ ∧ _) := ⟨hbo, hbl⟩
    clear hbo hbl
    have hmk := make_pairs 87 92 (.agg #[.int .i32 0, .int .u32 0]) 2 8 Yba.underlying87 i92 n (by omega) l2 #[.int .i32 0, .int .u32 0] rfl (n * 2) rfl
    go_wp2_with fail
    clear hmk
    go_loopg [21] n (fun g s21 wx => ∃ (i : Nat) (cs : Array Value), i + g = n ∧ s21 = .int .i64 i ∧ wx.heap[w1.heap.size]? = some (.cells cs 92 (0, 0)) ∧ cs.size = n * 2 ∧
      Filled (fun j => .int .i32 (lp j)) (fun j => .int .u32 (lt j)) i cs ∧ Below w1.heap.size w1 wx)
    case atStart =>
      refine ⟨0, _, by omega, rfl, blk_new w1 _, size_madeCells _ _, fun j hj => absurd hj (by omega), (Below.refl _ w1).alloc (Nat.le_refl _) _⟩
    case round =>
      obtain ⟨i, cs, hg, rfl, hrow, hsz, hfill, hbel⟩ := hrel
      rename World => w2
      by_cases hlt : i < n
      · have HR : Hid (_ ∧ _ ∧ _ ∧ _) := ⟨hrow, hsz, hfill, hbel⟩
        obtain ⟨gl, ol, hla, hgl, hlc⟩ := HI.out.log (by omega)
        obtain ⟨q1, q2⟩ := hlc i hlt
        have hb12 := HB.out.2.trans (hbel.mono HB.out.2.size)
        rw [← hb12.cell (p := ⟨gl, ol + i * 2, none⟩) hgl] at q1
        rw [← hb12.cell (p := ⟨gl, ol + i * 2 + 1, none⟩) hgl] at q2
        have b1 : (i : Int) < (n : Int) := by omega
        have r1 := cell_row hrow (i * 2)
        have r2 := cell_row hrow (i * 2 + 1)
        rw [Array.getElem?_eq_getElem (by omega)] at r1
        rw [Array.getElem?_eq_getElem (by omega)] at r2
        have r3 := free_row hrow (i * 2)
        have r4 := free_row hrow (i * 2 + 1)
        have hne : gl ≠ w1.heap.size := by have := HB.out.2.size; omega
        generalize cs[i * 2] = x1 at r1
        generalize cs[i * 2 + 1] = x2 at r2
        subst hla
        clear hrow hsz hfill hbel hlc hb12
        go_wp2_with fail
        go_region
        all_goals go_wp2_with fail
        obtain ⟨hrow, hsz, hfill, hbel⟩ := HR.out
        go_roundg (gk - 1)
        case measure => omega
        case rel =>
          exact ⟨i + 1, _, by omega, by go_num, row_step hrow _ _, by simp [hsz], hfill.step (by omega), ((hbel.setCell (Nat.le_refl _) _).setCell (Nat.le_refl _) _).drew⟩
      · obtain rfl : n = i := by omega
        have b1 : ¬ (n : Int) < (n : Int) := by omega
        have hb12 : Below w.heap.size w w2 := HB.out.2.trans (hbel.mono HB.out.2.size)
        have hbo : BaseOk u19 w2 := HB.out.1.below hbel
        generalize hBl : w1.heap.size = Bl at *
        have HL : Hid (_ ∧ _ ∧ _ ∧ _ ∧ _) := ⟨hrow, hsz, hfill, hb12, hbo⟩
        have HLB : Hid (w.heap.size ≤ Bl) := by rw [← hBl]; exact HB.out.2.size
        clear hrow hsz hfill hbel hb12 hbo HB hBl
        have hmk := make_pairs 93 95 (.agg #[.int .i64 0, .int .i64 0]) 2 16 Yba.underlying93 i95 m (by omega) l3 #[.int .i64 0, .int .i64 0] rfl (m * 2) rfl
        go_wp2_with fail
        clear hmk
        have hz : ∀ j, j < m → pz j ≤ 255 := fun j hj => by
          obtain ⟨g, o, _, _, h⟩ := HI.out.pl (by omega)
          exact (h j hj).2
        have HPB : Hid _ := plc_bounds p0 pz m d5 d6 hz
        clear hz
        go_loopg [23, 24, 25] m (fun g s23 s24 s25 wx => ∃ (i : Nat) (cs : Array Value), i + g = m ∧ s25 = .int .i64 i ∧ s23 = .int .i64 (plc p0 pz i) ∧ s24 = .int .i64 (enl ez ne n i : Int) ∧ wx.heap[w2.heap.size]? = some (.cells cs 95 (0, 0)) ∧ cs.size = m * 2 ∧
          Filled (fun j => .int .i64 (plc p0 pz (j + 1))) (fun j => .int .i64 (enl ez ne n (j + 1) : Int)) i cs ∧ Below w2.heap.size w2 wx)
        case atStart =>
          exact ⟨0, _, by omega, rfl, by go_num, rfl, blk_new w2 _, size_madeCells _ _, fun j hj => absurd hj (by omega), (Below.refl _ w2).alloc (Nat.le_refl _) _⟩
        case round =>
          obtain ⟨i, cs, hg, rfl, rfl, rfl, hrow, hsz, hfill, hbel⟩ := hrel
          rename World => w3
          by_cases hlt : i < m
          · have HR : Hid (_ ∧ _ ∧ _ ∧ _) := ⟨hrow, hsz, hfill, hbel⟩
            obtain ⟨gp, op, hpa, hgp, hpc⟩ := HI.out.pl (by omega)
            obtain ⟨q1, q1b⟩ := hpc i hlt
            have hb13 := HL.out.2.2.2.1.trans (hbel.mono HL.out.2.2.2.1.size)
            rw [← hb13.cell (p := ⟨gp, op + i, none⟩) hgp] at q1
            have b1 : (i : Int) < (m : Int) := by omega
            have r1 := cell_row hrow (i * 2)
            have r2 := cell_row hrow (i * 2 + 1)
            rw [Array.getElem?_eq_getElem (by omega)] at r1
            rw [Array.getElem?_eq_getElem (by omega)] at r2
            have r3 := free_row hrow (i * 2)
            have r4 := free_row hrow (i * 2 + 1)
            generalize cs[i * 2] = x1 at r1
            generalize cs[i * 2 + 1] = x2 at r2
            have hpb := HPB.out i (by omega)
            have hP1 : plc p0 pz (i + 1) = plc p0 pz i + (pz i : Int) := rfl
            have hE1 : enl ez ne n (i + 1) = min (enl ez ne n i + (if i < ne then ez i else 0)) n := rfl
            have hel := enl_le ez ne n i
            obtain ⟨pp, hpp⟩ : ∃ pp, pp = plc p0 pz i := ⟨_, rfl⟩
            obtain ⟨ee, hee⟩ : ∃ ee, ee = enl ez ne n i := ⟨_, rfl⟩
            rw [← hpp] at hpb hP1
            rw [← hee] at hel hE1
            rw [← hpp, ← hee]
            have HPE : Hid (_ ∧ _) := ⟨hP1, hE1⟩
            have k9 : (ee : Int) ≤ (n : Int) := by omega
            subst hpa
            clear hrow hsz hfill hbel hpc hP1 hE1 hpp hee
            by_cases hne : i < ne
            · obtain ⟨ge, oe, hea, hge, hec⟩ := HI.out.en (by omega)
              obtain ⟨q2, q2b⟩ := hec i hne
              rw [← hb13.cell (p := ⟨ge, oe + i, none⟩) hge] at q2
              have b2 : (i : Int) < (ne : Int) := by omega
              subst hea
              clear hec hb13
              by_cases hcl : n < ee + ez i
              · have b3 : (n : Int) < (ee : Int) + (ez i : Int) := by omega
                have hE : enl ez ne n (i + 1) = n := by rw [HPE.out.2, if_pos hne]; omega
                have HE : Hid _ := hE
                clear hE
                go_wp2_with fail
                have hE := HE.out
                obtain ⟨hrow, hsz, hfill, hbel⟩ := HR.out
                go_roundg (gk - 1)
                case measure => omega
                case rel =>
                  refine ⟨i + 1, (cs.setIfInBounds (i * 2) (.int .i64 (plc p0 pz (i + 1)))).setIfInBounds (i * 2 + 1) (.int .i64 (enl ez ne n (i + 1) : Int)), by omega, by go_num, by rw [HPE.out.1], by rw [hE], ?_, by simp [hsz], hfill.step (by omega), (hbel.setCell (Nat.le_refl _) _).setCell (Nat.le_refl _) _⟩
                  rw [HPE.out.1, hE]
                  exact row_step hrow _ _
              · have b3 : ¬ (n : Int) < (ee : Int) + (ez i : Int) := by omega
                have hE : enl ez ne n (i + 1) = ee + ez i := by rw [HPE.out.2, if_pos hne]; omega
                have HE : Hid _ := hE
                clear hE
                go_wp2_with fail
                have hE := HE.out
                obtain ⟨hrow, hsz, hfill, hbel⟩ := HR.out
                go_roundg (gk - 1)
                case measure => omega
                case rel =>
                  refine ⟨i + 1, (cs.setIfInBounds (i * 2) (.int .i64 (plc p0 pz (i + 1)))).setIfInBounds (i * 2 + 1) (.int .i64 (enl ez ne n (i + 1) : Int)), by omega, by go_num, by rw [HPE.out.1], by rw [hE, Int.natCast_add], ?_, by simp [hsz], hfill.step (by omega), (hbel.setCell (Nat.le_refl _) _).setCell (Nat.le_refl _) _⟩
                  rw [HPE.out.1, hE, Int.natCast_add]
                  exact row_step hrow _ _
            · have b2 : ¬ (i : Int) < (ne : Int) := by omega
              have b3 : ¬ (n : Int) < (ee : Int) := by omega
              have hE : enl ez ne n (i + 1) = ee := by rw [HPE.out.2, if_neg hne]; omega
              have HE : Hid _ := hE
              clear hE hb13
              go_wp2_with fail
              have hE := HE.out
              obtain ⟨hrow, hsz, hfill, hbel⟩ := HR.out
              go_roundg (gk - 1)
              case measure => omega
              case rel =>
                refine ⟨i + 1, (cs.setIfInBounds (i * 2) (.int .i64 (plc p0 pz (i + 1)))).setIfInBounds (i * 2 + 1) (.int .i64 (enl ez ne n (i + 1) : Int)), by omega, by go_num, by rw [HPE.out.1], by rw [hE], ?_, by simp [hsz], hfill.step (by omega), (hbel.setCell (Nat.le_refl _) _).setCell (Nat.le_refl _) _⟩
                rw [HPE.out.1, hE]
                exact row_step hrow _ _
          · obtain rfl : m = i := by omega
            have b1 : ¬ (m : Int) < (m : Int) := by omega
            have hpts : PtsAt w2.heap.size m (fun j => plc p0 pz (j + 1)) (fun j => enl ez ne n (j + 1)) w3 := fun j hj => by
              rw [cell_row hrow, cell_row hrow]
              exact hfill j hj
            have hlg : w3.heap[Bl]? = w2.heap[Bl]? := hbel.block Bl (lt_of_block HL.out.1)
            have hlg2 := HL.out.1
            rw [← hlg] at hlg2
            have hfl := HL.out.2.2.1
            have hbo := HL.out.2.2.2.2.below hbel
            have hb13 : Below w.heap.size w w3 := HL.out.2.2.2.1.trans (hbel.mono HL.out.2.2.2.1.size)
            have hq3 : w2.heap.size < w3.heap.size := lt_of_block hrow
            generalize hBq : w2.heap.size = Bq at *
            have HM : Hid (_ ∧ _ ∧ _ ∧ _ ∧ _ ∧ _) := ⟨hpts, hlg2, hfl, hbo, hb13, hq3⟩
            clear hpts hlg hlg2 hfl hbo hb13 hrow hsz hfill hbel HL hBq hq3
            obtain ⟨Z, hZ, hmkp⟩ := make_procs
            have HZ : Hid _ := hZ
            clear hZ
            obtain ⟨f, hf1, hf2, hff⟩ : ∃ f : Nat, 1 ≤ f ∧ f ≤ 2 ∧ 1 + sel % 2 = (f : Int) := ⟨(1 + sel % 2).toNat, by omega, by omega, by omega⟩
            obtain ⟨gg, hg1, hg2⟩ : ∃ gg : Nat, gg = 3 - f ∧ (3 : Int) - (f : Int) = (gg : Int) := ⟨3 - f, rfl, by omega⟩
            have hg3 : gg ≤ 2 := by omega
            have hg4 : gg ≠ f := by omega
            clear hg1
            go_upto_region 28 with fail
            generalize hW4 : ((w3.alloc (.cells Z 109)).alloc (.cells #[.slice (some ⟨w3.heap.size, 0, none⟩) 3 3, .int .i64 2, .int .i64 0, .slice none 0 0, .slice none 0 0, .slice none 0 0, .int .u64 0] 100)) = w4
            have hP4 : w4.heap[w3.heap.size]? = some (.cells Z 109 (0, 0)) := by
              rw [← hW4, Below.heap_alloc _ _ _ (by simp)]; exact blk_new w3 _
            have hS4 : w4.cell? ⟨w3.heap.size + 1, 0, none⟩ = some (.slice (some ⟨w3.heap.size, 0, none⟩) 3 3) := by
              rw [← hW4]; simp [go_sem]
            have hB4 : Below w3.heap.size w3 w4 := by
              rw [← hW4]; exact ((Below.refl _ w3).alloc (Nat.le_refl _) _).alloc (by simp) _
            clear hW4 hmkp
            obtain ⟨ua, ul, uc, hu19⟩ := HM.out.2.2.2.1.shape
            subst hu19
            go_cut [] from 140 to 151 (fun wx => Laid w3.heap.size (w3.heap.size + 1) f (.slice ua ul uc) hp Bl n Bq m wx ∧ Below w3.heap.size w3 wx)
            case first =>
              have hZ := HZ.out
              have t0 := cell_row hP4 (f * 16 + 4)
              have t1 := cell_row hP4 (f * 16 + 4 + 1)
              have t2 := cell_row hP4 (f * 16 + 4 + 2)
              have t3 := cell_row hP4 (f * 16 + 4 + 3)
              have t4 := cell_row hP4 (f * 16 + 4 + 4)
              have t5 := cell_row hP4 (f * 16 + 4 + 5)
              rw [Array.getElem?_eq_getElem (by omega)] at t0 t1 t2 t3 t4 t5
              have v0 := free_row hP4 (f * 16 + 4)
              have v1 := free_row hP4 (f * 16 + 4 + 1)
              have v2 := free_row hP4 (f * 16 + 4 + 2)
              have v3 := free_row hP4 (f * 16 + 4 + 3)
              have v4 := free_row hP4 (f * 16 + 4 + 4)
              have v5 := free_row hP4 (f * 16 + 4 + 5)
              generalize Z[f * 16 + 4] = y0 at t0
              generalize Z[f * 16 + 4 + 1] = y1 at t1
              generalize Z[f * 16 + 4 + 2] = y2 at t2
              generalize Z[f * 16 + 4 + 3] = y3 at t3
              generalize Z[f * 16 + 4 + 4] = y4 at t4
              generalize Z[f * 16 + 4 + 5] = y5 at t5
              have HP4 : Hid (_ ∧ _) := ⟨hP4, hB4⟩
              have HS4 : Hid _ := hS4
              clear hP4 hB4 hZ
              go_wp2_with fail
              go_meet
              case rel =>
                obtain ⟨hP4, hB4⟩ := HP4.out
                have hZ := HZ.out
                have h6 := set6_at Z (f * 16 + 4) (.slice ua ul uc) (.int .i64 hp) (.slice (some ⟨Bl, 0, none⟩) n n) (.slice (some ⟨Bq, 0, none⟩) m m) (.slice none 0 0) (.int .i64 0) (by omega)
                refine ⟨⟨⟨_, row_six hP4 _ _ _ _ _ _, by rw [set6_size]; exact hZ, h6.1, h6.2.1, h6.2.2.1, h6.2.2.2⟩, ?_⟩, ?_⟩
                · rw [World.cell?_of_block (w := w4) (six_other (by simp) _ _ _ _ _ _)]; exact HS4.out
                · exact (((((hB4.setCell (Nat.le_refl _) _).setCell (Nat.le_refl _) _).setCell (Nat.le_refl _) _).setCell (Nat.le_refl _) _).setCell (Nat.le_refl _) _).setCell (Nat.le_refl _) _
            case rest =>
              obtain ⟨⟨⟨cs, hrow, hcsz, c0, c1, c2, c3⟩, hs0⟩, hbel⟩ := hcut
              clear hP4 hS4 hB4
              rename World => w5
              go_upto_region 29 with fail
              go_cut [] from 152 to 165 (fun wx => Laid w3.heap.size (w3.heap.size + 1) f (.slice ua ul uc) hp Bl n Bq m wx ∧ Below w3.heap.size w3 wx)
              case first =>
                have t0 := cell_row hrow (gg * 16 + 4)
                have t1 := cell_row hrow (gg * 16 + 4 + 1)
                have t2 := cell_row hrow (gg * 16 + 4 + 2)
                have t3 := cell_row hrow (gg * 16 + 4 + 3)
                have t4 := cell_row hrow (gg * 16 + 4 + 4)
                have t5 := cell_row hrow (gg * 16 + 4 + 5)
                rw [Array.getElem?_eq_getElem (by omega)] at t0 t1 t2 t3 t4 t5
                have v0 := free_row hrow (gg * 16 + 4)
                have v1 := free_row hrow (gg * 16 + 4 + 1)
                have v2 := free_row hrow (gg * 16 + 4 + 2)
                have v3 := free_row hrow (gg * 16 + 4 + 3)
                have v4 := free_row hrow (gg * 16 + 4 + 4)
                have v5 := free_row hrow (gg * 16 + 4 + 5)
                generalize cs[gg * 16 + 4] = y0 at t0
                generalize cs[gg * 16 + 4 + 1] = y1 at t1
                generalize cs[gg * 16 + 4 + 2] = y2 at t2
                generalize cs[gg * 16 + 4 + 3] = y3 at t3
                generalize cs[gg * 16 + 4 + 4] = y4 at t4
                generalize cs[gg * 16 + 4 + 5] = y5 at t5
                have hlt5 : w3.heap.size < w5.heap.size := lt_of_block hrow
                have hlt6 : w3.heap.size + 1 < w5.heap.size := blk_lt hs0
                have HR5 : Hid (_ ∧ _ ∧ _ ∧ _ ∧ _ ∧ _ ∧ _ ∧ _) := ⟨hrow, hcsz, c0, c1, c2, c3, hs0, hbel⟩
                clear hrow hcsz c0 c1 c2 c3 hbel
                have A1 : ∀ (o1 o2 o3 : Obj) (k : Nat), (((w5.alloc o1).alloc o2).alloc o3).cell? ⟨w3.heap.size, k, none⟩ = w5.cell? ⟨w3.heap.size, k, none⟩ := fun o1 o2 o3 k => World.cell?_of_block (w := w5) (alloc3_block hlt5 o1 o2 o3)
                have A2 : ∀ (o1 o2 o3 : Obj) (k : Nat), (((w5.alloc o1).alloc o2).alloc o3).frozen? ⟨w3.heap.size, k, none⟩ = w5.frozen? ⟨w3.heap.size, k, none⟩ := fun o1 o2 o3 k => World.frozen?_of_block (w := w5) (alloc3_block hlt5 o1 o2 o3)
                go_wp2_with fail
                go_meet
                case rel =>
                  obtain ⟨hrow, hcsz, c0, c1, c2, c3, hs0, hbel⟩ := HR5.out
                  refine ⟨⟨⟨_, row_six (by rw [alloc3_block hlt5]; exact hrow) _ _ _ _ _ _, by rw [set6_size]; exact hcsz, ?_, ?_, ?_, ?_⟩, ?_⟩, ?_⟩
                  · rw [set6_other _ _ _ _ _ _ _ _ _ (by omega)]; exact c0
                  · rw [set6_other _ _ _ _ _ _ _ _ _ (by omega)]; exact c1
                  · rw [set6_other _ _ _ _ _ _ _ _ _ (by omega)]; exact c2
                  · rw [set6_other _ _ _ _ _ _ _ _ _ (by omega)]; exact c3
                  · rw [World.cell?_of_block (w := w5) ((six_other (by simp) _ _ _ _ _ _).trans (alloc3_block hlt6 _ _ _))]; exact hs0
                  · have hb3 := ((hbel.alloc hbel.size (.cells #[.int .u32 0, .int .u32 7] 88)).alloc (by have := hbel.size; simp; omega) (.cells #[.int .i32 1, .int .u32 9, .int .i32 2, .int .u32 5] 92)).alloc (by have := hbel.size; simp; omega) (.cells #[.int .i64 (-1000), .int .i64 2] 95)
                    exact (((((hb3.setCell (Nat.le_refl _) _).setCell (Nat.le_refl _) _).setCell (Nat.le_refl _) _).setCell (Nat.le_refl _) _).setCell (Nat.le_refl _) _).setCell (Nat.le_refl _) _
              case rest =>
                clear hrow hcsz c0 c1 c2 c3 hs0 hbel
                obtain ⟨⟨⟨cs', hrow, hcsz, c0, c1, c2, c3⟩, hs0⟩, hbel⟩ := hcut
                rename World => w6
                obtain ⟨hpts, hlg, hfl, hbo, hb13, hq3⟩ := HM.out
                have hpts6 := hpts.below hbel hq3
                obtain ⟨K1, hK1⟩ := cut_exists (fun j => plc p0 pz (j + 1)) (fun i j h => plc_mono p0 pz _ _ (by omega)) start m
                obtain ⟨own', hown⟩ : ∃ own', wrap64 (own - 1) = own' := ⟨_, rfl⟩
                obtain ⟨K2, hK2⟩ := cut_exists (fun j => plc p0 pz (j + 1)) (fun i j h => plc_mono p0 pz _ _ (by omega)) own' m
                have hEn : ∀ i, i < m → enl ez ne n (i + 1) ≤ n := fun i _ => enl_le ez ne n (i + 1)
                obtain ⟨lo, hlo⟩ : ∃ lo, lo = if start < hp then 0 else endAt (fun j => enl ez ne n (j + 1)) K1 := ⟨_, rfl⟩
                obtain ⟨hi, hhi⟩ : ∃ hi, hi = endAt (fun j => enl ez ne n (j + 1)) K2 := ⟨_, rfl⟩
                obtain ⟨mx, hmx⟩ : ∃ mx, mx = max lo hi := ⟨_, rfl⟩
                have H6 : Hid _ := c6 (w3.heap.size + 1) w3.heap.size Bq Bl f m n _ _ (.slice ua ul uc) hp start own K1 K2 w6 hf1 hf2 l3 l2 hs0
                  (by rw [cell_row hrow]; exact c0) (by rw [cell_row hrow]; exact c1) (by rw [cell_row hrow]; exact c2) (by rw [cell_row hrow]; exact c3) hpts6 hK1 own' hown hK2 hEn lo hi mx hmx hlo hhi
                have HN : Hid (_ ∧ _ ∧ _ ∧ _ ∧ _ ∧ _ ∧ _ ∧ _) := ⟨hpts6, hK1, hK2, hlo, hhi, hmx, hbel, hrow⟩
                clear hpts hlg hfl hbo hb13 hq3 hpts6 hK1 hK2 hlo hhi hmx hrow hcsz c0 c1 c2 c3 hs0 hEn hbel
                go_wp2_with fail
                refine Calls.mono H6.out ?_
                rintro e w7 ⟨⟨v, ⟨va, rfl, hva⟩, rfl⟩, q, rfl⟩
                obtain ⟨hpts6, hK1, hK2, hlo, hhi, hmx, hbel, hrow⟩ := HN.out
                obtain ⟨hpts, hlg, hfl, hbo, hb13, hq3⟩ := HM.out
                have hpts7 : PtsAt Bq m (fun j => plc p0 pz (j + 1)) (fun j => enl ez ne n (j + 1)) (w6.drewN q) := hpts6
                have hlg7 : (w6.drewN q).heap[Bl]? = some (.cells _ 92 (0, 0)) := (hbel.block Bl (lt_of_block hlg)).trans hlg
                have hbo7 : BaseOk (.slice ua ul uc) (w6.drewN q) := hbo.below (w' := w6.drewN q) ⟨hbel.os, hbel.tape, hbel.output, hbel.size, hbel.block⟩
                have hb7 : Below w.heap.size w (w6.drewN q) := hb13.trans (Below.mono (w' := w6.drewN q) ⟨hbel.os, hbel.tape, hbel.output, hbel.size, hbel.block⟩ hb13.size)
                generalize w6.drewN q = w7 at *
                obtain ⟨gb, hgb⟩ : ∃ gb : Value, gb = if start < hp then .slice ua ul uc else .slice none 0 0 := ⟨_, rfl⟩
                rw [← hgb]
                have HF : Hid (_ ∧ _ ∧ _ ∧ _ ∧ _ ∧ _ ∧ _ ∧ _ ∧ _ ∧ _ ∧ _) := ⟨hpts7, hlg7, hfl, hbo7, hb7, hK1, hK2, hlo, hhi, hmx, hgb⟩
                have HVA : Hid _ := hva
                clear hva hpts6 hK1 hK2 hlo hhi hmx hbel hrow hpts hlg hfl hbo hb13 hq3 hpts7 hlg7 hbo7 hb7 hgb H6 HN HM HI HZ
                go_upto_if 176 with fail
                go_cut [32, 33] from 176 to 194 (fun s32 _ wx => s32 = .int .i64 lo ∧ wx = w7)
                case first =>
                  by_cases hs : start < hp
                  · have h2 := HF.out.2.2.2.2.2.2.2.1
                    rw [if_pos hs] at h2
                    subst h2
                    go_wp2_with fail
                    go_meet
                    case rel => exact ⟨rfl, rfl⟩
                  · have h2 := HF.out.2.2.2.2.2.2.2.1
                    rw [if_neg hs] at h2
                    have HLO : Hid _ := h2
                    clear h2
                    go_wp2_with fail
                    go_loopg [32, 33] m (fun g s32 s33 wx => ∃ i : Nat, i + g = m ∧ s33 = .int .i64 i ∧ s32 = .int .i64 (endAt (fun j => enl ez ne n (j + 1)) (min i K1) : Int) ∧ wx = w7)
                    case atStart => exact ⟨0, by omega, rfl, by simp [endAt], rfl⟩
                    case round =>
                      obtain ⟨i, hg, rfl, rfl, rfl⟩ := hrel
                      rename World => w7
                      obtain ⟨hKm, hKl, hKg⟩ := HF.out.2.2.2.2.2.1
                      by_cases hlt : i < m
                      · obtain ⟨q1, q2⟩ := HF.out.1 i hlt
                        have b1 : (i : Int) < (m : Int) := by omega
                        have HKS : Hid (_ ∧ _ ∧ _) := ⟨hKm, hKl, hKg⟩
                        clear hKm hKl hKg
                        by_cases hp1 : plc p0 pz (i + 1) ≤ start
                        · have hiK : i < K1 := by
                            apply Nat.lt_of_not_le
                            intro h
                            have := HKS.out.2.2 i h hlt
                            simp only at this
                            omega
                          go_wp2_with fail
                          go_roundg (gk - 1)
                          case measure => omega
                          case rel =>
                            refine ⟨i + 1, by omega, by go_num, ?_, rfl⟩
                            have e : min (i + 1) K1 = i + 1 := by omega
                            rw [e]; simp [endAt]
                        · have hiK : K1 ≤ i := by
                            apply Nat.le_of_not_lt
                            intro h
                            exact hp1 (HKS.out.2.1 i h)
                          go_wp2_with fail
                          go_roundg (gk - 1)
                          case measure => omega
                          case rel =>
                            refine ⟨i + 1, by omega, by go_num, ?_, rfl⟩
                            have e : min (i + 1) K1 = K1 := by omega
                            rw [e]
                      · have hK : min i K1 = K1 := by omega
                        rw [hK, ← HLO.out]
                        have b1 : ¬ (i : Int) < (m : Int) := by omega
                        clear hKm hKl hKg
                        go_wp2_with fail
                        go_meet
                        case rel => exact ⟨rfl, rfl⟩
                case rest =>
                  obtain ⟨rfl, rfl⟩ := hcut
                  rename World => w7
                  have HOWN : Hid _ := hown
                  clear hown
                  go_wp2_with fail
                  rw [HOWN.out]
                  go_loopg [35, 36] m (fun g s35 s36 wx => ∃ i : Nat, i + g = m ∧ s36 = .int .i64 i ∧ s35 = .int .i64 (endAt (fun j => enl ez ne n (j + 1)) (min i K2) : Int) ∧ wx = w7)
                  case atStart => exact ⟨0, by omega, rfl, by simp [endAt], rfl⟩
                  case round =>
                    obtain ⟨i, hg, rfl, rfl, rfl⟩ := hrel
                    rename World => w7
                    obtain ⟨hKm, hKl, hKg⟩ := HF.out.2.2.2.2.2.2.1
                    by_cases hlt : i < m
                    · obtain ⟨q1, q2⟩ := HF.out.1 i hlt
                      have b1 : (i : Int) < (m : Int) := by omega
                      have HKS : Hid (_ ∧ _ ∧ _) := ⟨hKm, hKl, hKg⟩
                      clear hKm hKl hKg
                      by_cases hp1 : plc p0 pz (i + 1) ≤ own'
                      · have hiK : i < K2 := by
                          apply Nat.lt_of_not_le
                          intro h
                          have := HKS.out.2.2 i h hlt
                          simp only at this
                          omega
                        go_wp2_with fail
                        go_roundg (gk - 1)
                        case measure => omega
                        case rel =>
                          refine ⟨i + 1, by omega, by go_num, ?_, rfl⟩
                          have e : min (i + 1) K2 = i + 1 := by omega
                          rw [e]; simp [endAt]
                      · have hiK : K2 ≤ i := by
                          apply Nat.le_of_not_lt
                          intro h
                          exact hp1 (HKS.out.2.1 i h)
                        go_wp2_with fail
                        go_roundg (gk - 1)
                        case measure => omega
                        case rel =>
                          refine ⟨i + 1, by omega, by go_num, ?_, rfl⟩
                          have e : min (i + 1) K2 = K2 := by omega
                          rw [e]
                    · have hK : min i K2 = K2 := by omega
                      rw [hK, ← HF.out.2.2.2.2.2.2.2.2.1]
                      have b1 : ¬ (i : Int) < (m : Int) := by omega
                      clear hKm hKl hKg
                      go_upto_if 217 with fail
                      go_cut [35] from 217 to 218 (fun s35 wx => s35 = .int .i64 mx ∧ wx = w7)
                      case first =>
                        have hmx := HF.out.2.2.2.2.2.2.2.2.2.1
                        by_cases hhl : hi < lo
                        · have e : Hid (mx = lo) := by show mx = lo; omega
                          clear hmx
                          have b2 : (hi : Int) < (lo : Int) := by omega
                          go_wp2_with fail
                          go_meet
                          case rel => exact ⟨by rw [e.out], rfl⟩
                        · have e : Hid (mx = hi) := by show mx = hi; omega
                          clear hmx
                          have b2 : ¬ (hi : Int) < (lo : Int) := by omega
                          go_wp2_with fail
                          go_meet
                          case rel => exact ⟨by rw [e.out], rfl⟩
                      case rest =>
                        obtain ⟨rfl, rfl⟩ := hcut
                        rename World => w7
                        go_upto_if 221 with fail
                        go_cut [37] from 221 to 250 (fun _ wx => ∃ q, wx = w7.drewN q)
                        case first =>
                          have hgb := HF.out.2.2.2.2.2.2.2.2.2.2
                          by_cases hs : start < hp
                          · rw [if_pos hs] at hgb
                            subst hgb
                            rcases HF.out.2.2.2.1 with hnil | ⟨Bb, nq, hbv, hnq, hbq, hcells⟩
                            · cases hnil
                              have heq := eql_nil
                              go_wp2_with fail
                              go_loopg [18, 37] 1 (fun _ s18 s37 wx => s18 = .bool false ∧ s37 = .int .i64 0 ∧ wx = w7)
                              case atStart => exact ⟨rfl, rfl, rfl⟩
                              case round =>
                                obtain ⟨rfl, rfl, rfl⟩ := hrel
                                go_wp2_with fail
                                go_meet
                                case rel => exact ⟨0, rfl⟩
                            · cases hbv
                              have heq := eql_nil
                              go_wp2_with fail
                              clear heq
                              go_loopg [18, 37] ul (fun g s18 s37 wx => ∃ i : Nat, i + g = ul ∧ s18 = .bool false ∧ s37 = .int .i64 i ∧ ∃ q, wx = w7.drewN q)
                              case atStart => exact ⟨0, by omega, rfl, rfl, 0, rfl⟩
                              case round =>
                                obtain ⟨i, hg, rfl, rfl, q, rfl⟩ := hrel
                                by_cases hlt : i < ul
                                · obtain ⟨z, hz⟩ := hcells i hlt
                                  have b1 : (i : Int) < (ul : Int) := by omega
                                  go_wp2_with fail
                                  go_quiet (fail)
                                  go_wp2_with fail
                                  go_roundg (gk - 1)
                                  case measure => omega
                                  case rel => exact ⟨i + 1, by omega, rfl, by go_num, _, rfl⟩
                                · have b1 : ¬ (i : Int) < (ul : Int) := by omega
                                  go_wp2_with fail
                                  go_meet
                                  case rel => exact ⟨q, rfl⟩
                          · rw [if_neg hs] at hgb
                            subst hgb
                            go_wp2_with fail
                            go_meet
                            case rel => exact ⟨0, rfl⟩
                        case rest =>
                          obtain ⟨q0, rfl⟩ := hcut
                          have hmx := HF.out.2.2.2.2.2.2.2.2.2.1
                          have hln : mx ≤ n := by
                            obtain ⟨_, _, _, _, _, k1', k2', hlo, hhi, _, _⟩ := HF.out
                            have e1 : lo ≤ n := by
                              rw [hlo]; split
                              · omega
                              · exact endAt_le (m := m) (fun i _ => enl_le ez ne n (i + 1)) k1'.1
                            have e2 : hi ≤ n := by rw [hhi]; exact endAt_le (m := m) (fun i _ => enl_le ez ne n (i + 1)) k2'.1
                            omega
                          have hlm : lo ≤ mx := by omega
                          obtain ⟨len, hlen⟩ : ∃ len, len = mx - lo := ⟨_, rfl⟩
                          have e5 : (mx : Int) - (lo : Int) = (len : Int) := by omega
                          have e6 : ((len : Int) != wrap64 (len : Int)) = false := by
                            have e : wrap64 (len : Int) = (len : Int) := by unfold wrap64; omega
                            rw [e]; simp
                          rw [← hlen]
                          have HLN : Hid (_ ∧ _ ∧ _) := ⟨hln, hlm, hlen⟩
                          clear hmx hln hlm hlen
                          go_wp2_with fail
                          go_loopg [18, 38] len (fun g s18 s38 wx => ∃ i : Nat, i + g = len ∧ s38 = .int .i64 i ∧ ∃ q, wx = w7.drewN q)
                          case atStart => exact ⟨0, by omega, rfl, q0, rfl⟩
                          case round =>
                            obtain ⟨i, hg, rfl, q, rfl⟩ := hrel
                            by_cases hlt : i < len
                            · have b1 : (i : Int) < (len : Int) := by omega
                              obtain ⟨hln, hlm, hlen⟩ := HLN.out
                              have hva := HVA.out (by omega)
                              subst hva
                              obtain ⟨r1, r2⟩ := HF.out.2.2.1 (lo + i) (by omega)
                              rw [← cell_row HF.out.2.1] at r1 r2
                              have r3 := r1
                              have r4 := r2
                              have e7 : (lo + i) * 2 = lo * 2 + i * 2 := by omega
                              rw [e7] at r3 r4
                              have b2 : (lo : Int) + (i : Int) < (n : Int) := by omega
                              have b3 : ((lo + i : Nat) : Int) = (lo : Int) + (i : Int) := by omega
                              clear hln hlm hlen e7
                              go_wp2_with fail
                              go_quiet (fail)
                              go_wp2_with fail
                              go_roundg (gk - 1)
                              case measure => omega
                              case rel => exact ⟨i + 1, by omega, by go_num, _, rfl⟩
                            · have b1 : ¬ (i : Int) < (len : Int) := by omega
                              go_wp2_with fail
                              go_ret
                              exact ⟨rfl, bel_drewN HF.out.2.2.2.2.1 _⟩
end Go.Proofs.Ybulksbm
