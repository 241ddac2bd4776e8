import Derived.Test.YbulkryuRunPan
import Derived.Deep.CutBlock
import Derived.Deep.DeepCutAuto
namespace Go.Proofs.Ybulkryu
open Go.RowKit

theorem run_store_u32 {a : Addr} {y : Int} {u : Value} {w : World} (hc : w.cell? a = some u) (hz : w.frozen? a = false) : (callFunc 16 #[.pointer (some a), .int .u32 y]).run Yba.prog w = .ok (.value (.tuple #[])) (w.setCell a (.int .u32 y)) :=
  run_call_store (P := Yba.prog) Yba.func16 (by kernel_rfl) (by kernel_rfl) (by kernel_rfl) (by kernel_rfl) hc hz

theorem store_state (b o : Nat) (x : Int) (u : Value) (w : World) (hc : w.cell? ⟨b, o, none⟩ = some u) (hz : w.frozen? ⟨b, o, none⟩ = false) :
    Calls Yba.prog 11 #[.pointer (some ⟨b, o, none⟩), .int .u32 x] w fun e w' => e = .returned (.tuple #[]) ∧ w.setCell ⟨b, o, none⟩ (.int .u32 x) = w' := by
  have hl := run_store_u32 (y := x) hc hz
  go_enter Yba.func11, Yba.ntmps11
  go_wp2
  go_end0
  exact ⟨rfl, rfl⟩

/-- The world in which the law calls run. -/
def atRun (w : World) (iv : Value) (boom : Bool) (kk st seed : Int) : World :=
  (((((((w.alloc (.cells #[iv] 57)).alloc (.cells #[.bool boom] 4)).alloc (.cells #[.int .i64 kk] 3)).alloc (.cells #[.int .i64 0] 3)).alloc (.cells #[.pointer (some ⟨w.heap.size + 3, 0, none⟩)] 58)).alloc (coCells w.heap.size st seed 0 .nilIface)).alloc
    (.cells #[.slice none 0 0] 57)).alloc (.cells #[.int .i64 0] 3)

theorem preC (w : World) (iv : Value) (boom : Bool) (k : Nat) (st seed : Int) : Pre w.heap.size (atRun w iv boom k st seed) iv boom k st seed := by
  refine ⟨by simp [atRun], ?_, ?_, ?_, ?_, ?_, ?_, ?_⟩
  · exact blk_alloc (blk_alloc (blk_alloc (blk_alloc (blk_alloc (blk_alloc (blk_alloc (heap_alloc_new _ _)))))))
  · refine blk_alloc (blk_alloc (blk_alloc (blk_alloc (blk_alloc (blk_alloc ?_)))))
    have := heap_alloc_new (w.alloc (.cells #[iv] 57)) (.cells #[.bool boom] 4)
    rw [World.size_alloc] at this; exact this
  · refine blk_alloc (blk_alloc (blk_alloc (blk_alloc (blk_alloc ?_))))
    have := heap_alloc_new ((w.alloc (.cells #[iv] 57)).alloc (.cells #[.bool boom] 4)) (.cells #[.int .i64 k] 3)
    rw [World.size_alloc, World.size_alloc] at this; exact this
  · refine blk_alloc (blk_alloc (blk_alloc ?_))
    have := heap_alloc_new ((((w.alloc (.cells #[iv] 57)).alloc (.cells #[.bool boom] 4)).alloc (.cells #[.int .i64 k] 3)).alloc (.cells #[.int .i64 0] 3)) (.cells #[.pointer (some ⟨w.heap.size + 3, 0, none⟩)] 58)
    rw [World.size_alloc, World.size_alloc, World.size_alloc, World.size_alloc] at this; exact this
  · refine blk_alloc (blk_alloc ?_)
    have := heap_alloc_new (((((w.alloc (.cells #[iv] 57)).alloc (.cells #[.bool boom] 4)).alloc (.cells #[.int .i64 k] 3)).alloc (.cells #[.int .i64 0] 3)).alloc (.cells #[.pointer (some ⟨w.heap.size + 3, 0, none⟩)] 58)) (coCells w.heap.size st seed 0 .nilIface)
    rw [World.size_alloc, World.size_alloc, World.size_alloc, World.size_alloc, World.size_alloc] at this; exact this
  · refine blk_alloc ?_
    have := heap_alloc_new ((((((w.alloc (.cells #[iv] 57)).alloc (.cells #[.bool boom] 4)).alloc (.cells #[.int .i64 k] 3)).alloc (.cells #[.int .i64 0] 3)).alloc (.cells #[.pointer (some ⟨w.heap.size + 3, 0, none⟩)] 58)).alloc (coCells w.heap.size st seed 0 .nilIface)) (.cells #[.slice none 0 0] 57)
    rw [World.size_alloc, World.size_alloc, World.size_alloc, World.size_alloc, World.size_alloc, World.size_alloc] at this; exact this
  · have := heap_alloc_new (((((((w.alloc (.cells #[iv] 57)).alloc (.cells #[.bool boom] 4)).alloc (.cells #[.int .i64 k] 3)).alloc (.cells #[.int .i64 0] 3)).alloc (.cells #[.pointer (some ⟨w.heap.size + 3, 0, none⟩)] 58)).alloc (coCells w.heap.size st seed 0 .nilIface)).alloc (.cells #[.slice none 0 0] 57)) (.cells #[.int .i64 0] 3)
    rw [World.size_alloc, World.size_alloc, World.size_alloc, World.size_alloc, World.size_alloc, World.size_alloc, World.size_alloc] at this; exact this

theorem below_atRun (w : World) (iv : Value) (boom : Bool) (kk st seed : Int) : Below w.heap.size w (atRun w iv boom kk st seed) :=
  ((((((((Below.refl _ _).alloc (Nat.le_refl _) _).alloc (by simp) _).alloc (by simp; omega) _).alloc (by simp; omega) _).alloc (by simp; omega) _).alloc (by simp; omega) _).alloc (by simp; omega) _).alloc (by simp; omega) _

/-- What the rest of the law reads. -/
structure Fin (B : Nat) (w : World) (iv : Value) (boom : Bool) (k : Nat) (st seed res : Int) (pan : Value) (L : List Int) : Prop where
  items : w.heap[B]? = some (.cells #[iv] 57 (0, 0))
  boomv : w.heap[B + 1]? = some (.cells #[.bool boom] 4 (0, 0))
  kv : w.heap[B + 2]? = some (.cells #[.int .i64 k] 3 (0, 0))
  markv : w.heap[B + 4]? = some (.cells #[.pointer (some ⟨B + 3, 0, none⟩)] 58 (0, 0))
  co : w.heap[B + 5]? = some (coCells B st seed res pan)
  log : Log B w L

theorem runC (w : World) (ia : Option Addr) (icap : Nat) (Z : List Int) (seed : Int) (k : Nat) (st : Int) (boom : Bool) (hst : st = 0 ∨ st = 2) (hI : ItemsIn w.heap.size w ia Z) (hn : Z.length ≤ 1024) :
    Calls Yba.prog 13 #[.pointer (some ⟨w.heap.size + 5, 0, none⟩), .func (.func 12) #[] #[.pointer (some ⟨w.heap.size + 7, 0, none⟩), .pointer (some ⟨w.heap.size + 6, 0, none⟩), .pointer (some ⟨w.heap.size + 2, 0, none⟩)]] (atRun w (.slice ia Z.length icap) boom k st seed) fun e w' =>
      e = .returned (.tuple #[]) ∧ Below w.heap.size w w' ∧ Fin w.heap.size w' (.slice ia Z.length icap) boom k st seed (expects w.heap.size st seed Z k boom).1 (expects w.heap.size st seed Z k boom).2.1 (expects w.heap.size st seed Z k boom).2.2 := by
  have hp := preC w (.slice ia Z.length icap) boom k st seed
  have hb := below_atRun w (.slice ia Z.length icap) boom k st seed
  refine (run_any hp (hI.carry hb) hn hst).mono fun e w' ⟨h1, h2⟩ => ⟨h1, hb.trans h2.below, ?_⟩
  exact ⟨by rw [h2.items, hp.items], by rw [h2.boomv, hp.boomv], by rw [h2.kv, hp.kv], by rw [h2.markv, hp.markv], h2.co, h2.log⟩

theorem cells_own {w : World} {base : Nat} {v : Value} {L : List Int} (h : w.ownsRow base 3 1 v L.length (L.map (Value.int .i64))) :
    (v = .slice none 0 0 ∧ L = []) ∨ ∃ g cap, v = .slice (some ⟨g, 0, none⟩) L.length cap ∧ ∀ j, j < L.length → w.cell? ⟨g, j, none⟩ = some (.int .i64 (L.getD j 0)) := by
  obtain ⟨_, ⟨h1, h2⟩ | ⟨g, cap, cur, rfl, _, hg, h3, h4, _, h6⟩⟩ := h
  · exact Or.inl ⟨h1, List.eq_nil_of_length_eq_zero h2⟩
  · refine Or.inr ⟨g, cap, rfl, fun j hj => ?_⟩
    rw [cell_of_row w g j cur 3 (0, 0) hg]
    have : (cur.toList.take (L.length * 1))[j]? = (L.map (Value.int .i64))[j]? := by rw [h6]
    rw [List.getElem?_take_of_lt (by omega), List.getElem?_map, List.getElem?_eq_getElem hj] at this
    rw [← Array.getElem?_toList, this]
    simp [List.getD_eq_getElem?_getD, List.getElem?_eq_getElem hj]

theorem expects_facts {B : Nat} {st seed : Int} {Z : List Int} {k : Nat} {boom : Bool} {res : Int} {pan : Value} {L : List Int} (h : expects B st seed Z k boom = (res, pan, L)) :
    L.length ≤ Z.length ∧ (∀ j, j < L.length → L.getD j 0 = Z.getD j 0) ∧ (pan = .nilIface ∨ pan = .iface 58 (.pointer (some ⟨B + 3, 0, none⟩)) ∨ pan = .iface 63 (.pointer (some ⟨B + 5, 8, none⟩))) := by
  have hL : L = [] ∨ L = Z ∨ L = Z.take (k + 1) := by
    unfold expects at h
    repeat' split at h
    all_goals (simp only [Prod.mk.injEq] at h; obtain ⟨_, _, rfl⟩ := h; simp)
  have hP : pan = .nilIface ∨ pan = .iface 58 (.pointer (some ⟨B + 3, 0, none⟩)) ∨ pan = .iface 63 (.pointer (some ⟨B + 5, 8, none⟩)) := by
    unfold expects markP cancelP at h
    repeat' split at h
    all_goals (simp only [Prod.mk.injEq] at h; obtain ⟨_, rfl, _⟩ := h; simp)
  refine ⟨?_, ?_, hP⟩
  · rcases hL with rfl | rfl | rfl
    · simp
    · exact Nat.le_refl _
    · simp; omega
  · intro j hj
    rcases hL with rfl | rfl | rfl
    · simp at hj
    · rfl
    · simp at hj
      simp [List.getD_eq_getElem?_getD, List.getElem?_take_of_lt (show j < k + 1 by omega)]

set_option maxRecDepth 100000 in
set_option maxHeartbeats 1000000 in
theorem lawC_small (w : World) (ia : Option Addr) (icap : Nat) (Z : List Int) (seed lim : Int) (cancel boom : Bool) (hI : ItemsIn w.heap.size w ia Z) (hn : Z.length ≤ 1024) (hl0 : 0 ≤ lim) (hl1 : lim ≤ 255) :
    Calls Yba.prog 4 #[.slice ia Z.length icap, .int .i64 seed, .int .u8 lim, .bool cancel, .bool boom] w fun e w' => e = .returned (.bool true) ∧ Below w.heap.size w w' := by
  have hmf : ∀ (fn : Fn) (first cap : Array Value) (w : World), (Instr.makeFunc fn first cap).run Yba.prog w = .ok (.func fn first cap) w := fun _ _ _ _ => rfl
  obtain ⟨k, hk⟩ : ∃ k : Nat, lim % 12 = (k : Int) := ⟨(lim % 12).toNat, by omega⟩
  have hk11 : k ≤ 11 := by omega
  have HRUN : Hid _ := runC w ia icap Z seed k (if cancel then 2 else 0) boom (by cases cancel <;> simp) hI hn
  have HI : Hid _ := hI
  clear hI
  obtain ⟨B, hB⟩ : ∃ B, B = w.heap.size := ⟨_, rfl⟩
  have HB : Hid _ := hB
  clear hB
  cases cancel with
  | true =>
    have HRUN' : Hid _ := HRUN.out
    clear HRUN
    simp only [if_true] at HRUN'
    go_enter Yba.func4, Yba.ntmps4
    go_wp2_with fail
    refine (store_state _ _ 2 (.int .u32 0) _ ?_ ?_).mono ?_
    · simp [go_sem]
    · simp [go_sem]
    rintro e w' ⟨rfl, rfl⟩
    go_upto_region 16 with fail
    go_cut [5, 9, 11, 13, 14, 16, 17, 18] from 24 to 52 (fun s5 s9 s11 s13 s14 s16 _ _ wx => s5 = .pointer (some ⟨B, 0, none⟩) ∧ s9 = .pointer (some ⟨B + 1, 0, none⟩) ∧ s11 = .pointer (some ⟨B + 2, 0, none⟩) ∧ s13 = .pointer (some ⟨B + 4, 0, none⟩) ∧ s14 = .pointer (some ⟨B + 5, 0, none⟩) ∧ s16 = .pointer (some ⟨B + 6, 0, none⟩) ∧
      Below w.heap.size w wx ∧ Fin B wx (.slice ia Z.length icap) boom k 2 seed (expects B 2 seed Z k boom).1 (expects B 2 seed Z k boom).2.1 (expects B 2 seed Z k boom).2.2)
    case first =>
      go_wp2_with fail
      refine Calls.mono HRUN'.out ?_
      rintro e w1 ⟨rfl, hbel, hfin⟩
      have HF : Hid (_ ∧ _) := ⟨hbel, hfin⟩
      clear hbel hfin
      go_wp2_with fail
      go_meet
      case rel =>
        have hB := HB.out
        refine ⟨by rw [hB], by rw [hB], by rw [hB], by rw [hB], by rw [hB], by rw [hB], HF.out.1, ?_⟩
        rw [hB]
        exact HF.out.2
    case rest =>
      obtain ⟨rfl, rfl, rfl, rfl, rfl, rfl, hbel, hfin⟩ := hcut
      clear HRUN' hmf
      obtain ⟨res, pan, L, hex⟩ : ∃ res pan L, expects B 2 seed Z k boom = (res, pan, L) := ⟨_, _, _, rfl⟩
      rw [hex] at hfin
      rename World => w1
      obtain ⟨q1, q2, q3, q4, q5, q6⟩ := hfin
      have c0 := cell_of_one q1
      have cb1 := cell_of_one q2
      have c2 := cell_of_one q3
      have c4 := cell_of_one q4
      obtain ⟨_, d1, d5, d6, d7, _, _⟩ := co_cell q5
      have hseed : (seed != seed) = false := by simp
      have HX : Hid (_ ∧ _ ∧ _) := ⟨hex, q6, hbel⟩
      have HC : Hid _ := co_cell q5
      have hI1 : Hid _ := ItemsIn.carry (B := w.heap.size) HI.out hbel
      clear hex q1 q2 q3 q4 q5 q6 hbel HI
      go_wp2_with fail
      refine (load_state _ _ 2 _ d1).mono ?_
      rintro e w' ⟨rfl, rfl⟩
      rename World => w1
      go_upto_if 67 with fail
      go_cut [19, 20, 21] from 53 to 100 (fun s19 s20 s21 wx => s19 = .int .i64 L.length ∧ s20 = .int .i64 res ∧ s21 = pan ∧ wx = w1)
      case first =>
        have hex := HX.out.1
        have HEX : Hid _ := hex
        clear hex
        by_cases hz : Z.length = 0
        · have hz0 : ((Z.length : Int) == 0) = true := beq_iff_eq.2 (by omega)
          cases boom with
          | true =>
            have e : expects B 2 seed Z k true = (0, markP B, []) := by simp [expects, hz]
            have h2 := HEX.out
            rw [e] at h2
            cases h2
            go_wp2
            go_meet
            case rel => exact ⟨rfl, rfl, rfl, rfl⟩
          | false =>
            have e : expects B 2 seed Z k false = (seed, .nilIface, []) := by simp [expects, hz]
            have h2 := HEX.out
            rw [e] at h2
            cases h2
            go_wp2
            go_meet
            case rel => exact ⟨rfl, rfl, rfl, rfl⟩
        · have hz0 : ((Z.length : Int) == 0) = false := beq_eq_false_iff_ne.2 (by omega)
          have e : expects B 2 seed Z k boom = (0, .nilIface, []) := by simp [expects, hz]
          have h2 := HEX.out
          rw [e] at h2
          cases h2
          go_wp2
          go_meet
          case rel => exact ⟨rfl, rfl, rfl, rfl⟩
      case rest =>
        obtain ⟨rfl, rfl, rfl, rfl⟩ := hcut
        rename World => w1
        obtain ⟨hex, hlog, hbel⟩ := HX.out
        obtain ⟨hLz, hLt, hpan⟩ := expects_facts hex
        obtain ⟨⟨lv, hlv, hown⟩, _, _⟩ := hlog
        have c6 := cell_of_one hlv
        have hres : (res != res) = false := by simp
        have he58 := eql58 ⟨B + 3, 0, none⟩
        have he63 := eql63 ⟨B + 5, 8, none⟩
        have HBEL : Hid _ := hbel
        rcases cells_own hown with ⟨rfl, rfl⟩ | ⟨lg, lcap, rfl, hlc⟩
        · clear HX hex hlv hown HC hbel hLt hI1 hLz
          rcases hpan with rfl | rfl | rfl
          all_goals
            go_wp2
            refine wp_loop_rounds 1 ?_
            rw [rounds_succ]
            go_wp2
            go_ret
            exact ⟨rfl, HBEL.out⟩
        · have HL : Hid (_ ∧ _) := ⟨hLt, hlc⟩
          clear HX hex hlv hown HC hbel hLt hlc
          rcases hpan with rfl | rfl | rfl
          all_goals
            go_wp2
            go_loopg [23] L.length (fun g i wx => ∃ j : Nat, j + g = L.length ∧ i = .int .i64 j ∧ ∃ q, wx = w1.drewN q)
            case atStart => exact ⟨0, by omega, rfl, 0, rfl⟩
            case round =>
              obtain ⟨j, hj, rfl, q, rfl⟩ := hrel
              by_cases hlt : j < L.length
              · obtain ⟨b, off, rfl, hb, hc⟩ := hI1.out (by omega)
                have hcj := hc j (by omega)
                have hlj := HL.out.2 j hlt
                rw [HL.out.1 j hlt] at hlj
                generalize Z.getD j 0 = z at *
                have b1 : (j : Int) < (L.length : Int) := by omega
                have b2 : (j : Int) < (Z.length : Int) := by omega
                have hzz : (z != z) = false := by simp
                clear hc
                go_wp2
                go_quiet (fail)
                go_wp2
                go_roundg (L.length - (j + 1))
                case measure => omega
                case rel => exact ⟨j + 1, by omega, by go_num, _, rfl⟩
              · go_wp2
                go_ret
                exact ⟨rfl, ⟨HBEL.out.os, HBEL.out.tape, HBEL.out.output, HBEL.out.size, HBEL.out.block⟩⟩
  | false =>
    have HRUN' : Hid _ := HRUN.out
    clear HRUN
    simp only [Bool.false_eq_true, if_false] at HRUN'
    go_enter Yba.func4, Yba.ntmps4
    go_wp2_with fail
    refine (store_state _ _ 0 (.int .u32 0) _ ?_ ?_).mono ?_
    · simp [go_sem]
    · simp [go_sem]
    rintro e w' ⟨rfl, rfl⟩
    go_upto_region 16 with fail
    go_cut [5, 9, 11, 13, 14, 16, 17, 18] from 24 to 52 (fun s5 s9 s11 s13 s14 s16 _ _ wx => s5 = .pointer (some ⟨B, 0, none⟩) ∧ s9 = .pointer (some ⟨B + 1, 0, none⟩) ∧ s11 = .pointer (some ⟨B + 2, 0, none⟩) ∧ s13 = .pointer (some ⟨B + 4, 0, none⟩) ∧ s14 = .pointer (some ⟨B + 5, 0, none⟩) ∧ s16 = .pointer (some ⟨B + 6, 0, none⟩) ∧
      Below w.heap.size w wx ∧ Fin B wx (.slice ia Z.length icap) boom k 0 seed (expects B 0 seed Z k boom).1 (expects B 0 seed Z k boom).2.1 (expects B 0 seed Z k boom).2.2)
    case first =>
      go_wp2_with fail
      refine Calls.mono HRUN'.out ?_
      rintro e w1 ⟨rfl, hbel, hfin⟩
      have HF : Hid (_ ∧ _) := ⟨hbel, hfin⟩
      clear hbel hfin
      go_wp2_with fail
      go_meet
      case rel =>
        have hB := HB.out
        refine ⟨by rw [hB], by rw [hB], by rw [hB], by rw [hB], by rw [hB], by rw [hB], HF.out.1, ?_⟩
        rw [hB]
        exact HF.out.2
    case rest =>
      obtain ⟨rfl, rfl, rfl, rfl, rfl, rfl, hbel, hfin⟩ := hcut
      clear HRUN' hmf
      obtain ⟨res, pan, L, hex⟩ : ∃ res pan L, expects B 0 seed Z k boom = (res, pan, L) := ⟨_, _, _, rfl⟩
      rw [hex] at hfin
      rename World => w1
      obtain ⟨q1, q2, q3, q4, q5, q6⟩ := hfin
      have c0 := cell_of_one q1
      have cb1 := cell_of_one q2
      have c2 := cell_of_one q3
      have c4 := cell_of_one q4
      obtain ⟨_, d1, d5, d6, d7, _, _⟩ := co_cell q5
      have hseed : (seed != seed) = false := by simp
      have HX : Hid (_ ∧ _ ∧ _) := ⟨hex, q6, hbel⟩
      have HC : Hid _ := co_cell q5
      have hI1 : Hid _ := ItemsIn.carry (B := w.heap.size) HI.out hbel
      clear hex q1 q2 q3 q4 q5 q6 hbel HI
      go_wp2_with fail
      refine (load_state _ _ 0 _ d1).mono ?_
      rintro e w' ⟨rfl, rfl⟩
      rename World => w1
      go_upto_if 67 with fail
      go_cut [19, 20, 21] from 53 to 100 (fun s19 s20 s21 wx => s19 = .int .i64 L.length ∧ s20 = .int .i64 res ∧ s21 = pan ∧ wx = w1)
      case first =>
        have hex := HX.out.1
        have HEX : Hid _ := hex
        clear hex
        by_cases hzk : Z.length ≤ k
        · have hd : decide ((Z.length : Int) ≤ (k : Int)) = true := by simp; omega
          cases boom with
          | true =>
            have e : expects B 0 seed Z k true = (0, markP B, Z) := by simp [expects, hzk]
            have h2 := HEX.out
            rw [e] at h2
            cases h2
            go_wp2
            go_meet
            case rel => exact ⟨rfl, rfl, rfl, rfl⟩
          | false =>
            have e : expects B 0 seed Z k false = (accTo seed Z seed, .nilIface, Z) := by simp [expects, hzk]
            have h2 := HEX.out
            rw [e] at h2
            cases h2
            clear HX HC HEX e
            go_wp2
            go_loopg [20, 22] Z.length (fun g a i wx => ∃ j : Nat, j + g = Z.length ∧ i = .int .i64 j ∧ a = .int .i64 (accTo seed (Z.take j) seed) ∧ wx = w1)
            case atStart => exact ⟨0, by omega, rfl, rfl, rfl⟩
            case round =>
              obtain ⟨j, hj, rfl, rfl, rfl⟩ := hrel
              by_cases hlt : j < Z.length
              · obtain ⟨b, off, rfl, hb, hc⟩ := hI1.out (by omega)
                have hcj := hc j hlt
                have HT : Hid (_ ∧ _) := ⟨take_succ Z j hlt, accTo_snoc seed (Z.take j) (Z.getD j 0) seed⟩
                generalize Z.getD j 0 = z at *
                generalize hacc : accTo seed (Z.take j) seed = a at *
                clear hacc hc
                go_wp2
                go_roundg (Z.length - (j + 1))
                case measure => omega
                case rel => exact ⟨j + 1, by omega, by go_num, by rw [HT.out.1, HT.out.2], rfl⟩
              · have hjn : Z.take j = Z := List.take_of_length_le (by omega)
                rw [hjn]
                clear hjn
                go_wp2_with fail
                go_meet
                case rel => exact ⟨rfl, rfl, rfl, rfl⟩
        · have hd : decide ((Z.length : Int) ≤ (k : Int)) = false := by simp; omega
          have e : expects B 0 seed Z k boom = (0, cancelP B, Z.take (k + 1)) := by simp [expects, hzk]
          have h2 := HEX.out
          rw [e] at h2
          cases h2
          go_wp2
          go_meet
          case rel => exact ⟨by rw [List.length_take, Nat.min_eq_left (by omega)]; go_num, rfl, rfl, rfl⟩
      case rest =>
        obtain ⟨rfl, rfl, rfl, rfl⟩ := hcut
        rename World => w1
        obtain ⟨hex, hlog, hbel⟩ := HX.out
        obtain ⟨hLz, hLt, hpan⟩ := expects_facts hex
        obtain ⟨⟨lv, hlv, hown⟩, _, _⟩ := hlog
        have c6 := cell_of_one hlv
        have hres : (res != res) = false := by simp
        have he58 := eql58 ⟨B + 3, 0, none⟩
        have he63 := eql63 ⟨B + 5, 8, none⟩
        have HBEL : Hid _ := hbel
        rcases cells_own hown with ⟨rfl, rfl⟩ | ⟨lg, lcap, rfl, hlc⟩
        · clear HX hex hlv hown HC hbel hLt hI1 hLz
          rcases hpan with rfl | rfl | rfl
          all_goals
            go_wp2
            refine wp_loop_rounds 1 ?_
            rw [rounds_succ]
            go_wp2
            go_ret
            exact ⟨rfl, HBEL.out⟩
        · have HL : Hid (_ ∧ _) := ⟨hLt, hlc⟩
          clear HX hex hlv hown HC hbel hLt hlc
          rcases hpan with rfl | rfl | rfl
          all_goals
            go_wp2
            go_loopg [23] L.length (fun g i wx => ∃ j : Nat, j + g = L.length ∧ i = .int .i64 j ∧ ∃ q, wx = w1.drewN q)
            case atStart => exact ⟨0, by omega, rfl, 0, rfl⟩
            case round =>
              obtain ⟨j, hj, rfl, q, rfl⟩ := hrel
              by_cases hlt : j < L.length
              · obtain ⟨b, off, rfl, hb, hc⟩ := hI1.out (by omega)
                have hcj := hc j (by omega)
                have hlj := HL.out.2 j hlt
                rw [HL.out.1 j hlt] at hlj
                generalize Z.getD j 0 = z at *
                have b1 : (j : Int) < (L.length : Int) := by omega
                have b2 : (j : Int) < (Z.length : Int) := by omega
                have hzz : (z != z) = false := by simp
                clear hc
                go_wp2
                go_quiet (fail)
                go_wp2
                go_roundg (L.length - (j + 1))
                case measure => omega
                case rel => exact ⟨j + 1, by omega, by go_num, _, rfl⟩
              · go_wp2
                go_ret
                exact ⟨rfl, ⟨HBEL.out.os, HBEL.out.tape, HBEL.out.output, HBEL.out.size, HBEL.out.block⟩⟩
end Go.Proofs.Ybulkryu
