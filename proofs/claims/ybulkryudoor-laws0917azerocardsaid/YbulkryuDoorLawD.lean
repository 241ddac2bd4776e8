import Derived.Test.YbulkryuDoorReadD
import Derived.Test.YbulkryuDoorHeads
import Derived.Test.YbulkryuDoorEof
import Derived.Deep.CutBlock
import Derived.Deep.DeepCutAuto
import Derived.Deep.OwnRows
import Derived.Laws.AppendOwnNone
namespace Go.Proofs.YbulkryuDoor
open Go.RowKit

/-- The chunks as they come in. -/
def ChunksIn (w : World) (ca : Option Addr) (C : List (List Int × Bool)) : Prop :=
  0 < C.length → ∃ b off, ca = some ⟨b, off, none⟩ ∧ b < w.heap.size ∧ ∀ i c, C[i]? = some c →
    ∃ p cp, w.cell? ⟨b, off + i * 2, none⟩ = some (.slice p c.1.length cp) ∧ w.cell? ⟨b, off + i * 2 + 1, none⟩ = some (.bool c.2) ∧ Bytes w.heap.size w (.slice p c.1.length cp) c.1 ∧ (p = none → cp = 0) ∧ c.1.length ≤ 140737488351232

theorem ChunksIn.boxed {w : World} {ca : Option Addr} {cap : Nat} {C : List (List Int × Bool)} (h : ChunksIn w ca C) (hC : C.length ≤ 256) :
    Chunks (w.heap.size + 1) w.heap.size (w.alloc (.cells #[.slice ca C.length cap] 22)) (.slice ca C.length cap) C := by
  have hbel : Below w.heap.size w (w.alloc (.cells #[.slice ca C.length cap] 22)) := (Below.refl _ _).alloc (Nat.le_refl _) _
  refine ⟨by omega, heap_alloc_new _ _, hC, ca, cap, rfl, fun hp => ?_⟩
  obtain ⟨b, off, rfl, hb, hc⟩ := h hp
  refine ⟨b, off, rfl, by omega, fun i c hi => ?_⟩
  obtain ⟨p, cp, h1, h2, h3, _⟩ := hc i c hi
  exact ⟨p, cp, by rw [hbel.cell (p := ⟨b, off + i * 2, none⟩) hb]; exact h1, by rw [hbel.cell (p := ⟨b, off + i * 2 + 1, none⟩) hb]; exact h2, (h3.carry hbel).mono (by omega)⟩

theorem Ybad.info5 : (Ybad.prog.info? 5).map (fun i => (i.zero, i.size, i.bytes)) = some (some (.int .u8 0), 1, 1) := by kernel_rfl

/-- What the append of a chunk asks of its cells, in a world that holds the old ones. -/
theorem news_cells {D : Nat} {w w' : World} {ad : Addr} {cp : Nat} {zs : List Int} (h : Bytes D w (.slice (some ad) zs.length cp) zs) (hb : Below D w w') :
    ∀ j u, (zs.map (Value.int .u8))[j]? = some u → w'.cell? (ad.add j) = some u := by
  intro j u hj
  obtain ⟨a, cap, e, _, _, hc⟩ := h
  cases e
  have hjl : j < zs.length := by simpa using (List.getElem?_eq_some_iff.1 hj).1
  obtain ⟨b, off, e1, e2, e3⟩ := hc (by omega)
  cases e1
  rw [show (⟨b, off, none⟩ : Addr).add j = ⟨b, off + j, none⟩ from by simp [Addr.add], hb.cell (p := ⟨b, off + j, none⟩) e2, e3 j hjl]
  rw [List.getElem?_map, List.getElem?_eq_getElem hjl] at hj
  simp at hj
  subst hj
  simp [List.getD_eq_getElem?_getD, List.getElem?_eq_getElem hjl]

theorem one_of_bytes (L : List Int) : ∀ u ∈ L.map (Value.int .u8), u.oneCell' = true := by
  intro u hu
  obtain ⟨z, _, rfl⟩ := List.mem_map.1 hu
  rfl

theorem ownBlock_ge {w : World} {base : Nat} {e : TypeId} {size : Nat} {v : Value} {n : Nat} {xs : List Value} (h : w.ownsRow base e size v n xs) : ∀ k, v.ownBlock = some k → base ≤ k := by
  intro k hk
  obtain ⟨_, h | ⟨g, cap, cur, rfl, hg, _⟩⟩ := h
  · rw [h.1] at hk; simp [Value.ownBlock] at hk
  · simp [Value.ownBlock] at hk; omega

/-- The state ahead of the reading loop. -/
theorem startD (wc : World) (D B K8 : Nat) (hD : D = wc.heap.size) : 
    RdD D B ((((((wc.alloc (.cells #[.int .i64 0] 3)).alloc (.cells #[.int .i64 0] 3)).alloc (.cells #[.int .i64 0] 3)).alloc (.cells #[.bool false] 4)).alloc
      (.cells #[.slice none 0 0, .bool false, .int .i64 0, .func (.func 5) #[] #[.pointer (some ⟨D + 3, 0, none⟩), .pointer (some ⟨D + 1, 0, none⟩), .pointer (some ⟨D, 0, none⟩), .pointer (some ⟨B, 0, none⟩), .pointer (some ⟨D + 2, 0, none⟩)]] 35)).alloc
      (.cells (madeCells #[.int .u8 0] K8) 5)) 0 0 0 (.slice none 0 0) false 0 (madeCells #[.int .u8 0] K8).toList := by
  subst hD
  refine ⟨⟨?_, ?_, ?_, ?_⟩, ?_, ?_⟩
  · exact blk_alloc (blk_alloc (blk_alloc (blk_alloc (blk_alloc (heap_alloc_new _ _)))))
  · refine blk_alloc (blk_alloc (blk_alloc (blk_alloc ?_))); have := heap_alloc_new (wc.alloc (.cells #[.int .i64 0] 3)) (.cells #[.int .i64 0] 3); rw [World.size_alloc] at this; exact this
  · refine blk_alloc (blk_alloc (blk_alloc ?_)); have := heap_alloc_new ((wc.alloc (.cells #[.int .i64 0] 3)).alloc (.cells #[.int .i64 0] 3)) (.cells #[.int .i64 0] 3); rw [World.size_alloc, World.size_alloc] at this; exact this
  · refine blk_alloc (blk_alloc ?_); have := heap_alloc_new (((wc.alloc (.cells #[.int .i64 0] 3)).alloc (.cells #[.int .i64 0] 3)).alloc (.cells #[.int .i64 0] 3)) (.cells #[.bool false] 4); rw [World.size_alloc, World.size_alloc, World.size_alloc] at this; exact this
  · refine blk_alloc ?_
    have := heap_alloc_new ((((wc.alloc (.cells #[.int .i64 0] 3)).alloc (.cells #[.int .i64 0] 3)).alloc (.cells #[.int .i64 0] 3)).alloc (.cells #[.bool false] 4)) (.cells #[.slice none 0 0, .bool false, .int .i64 0, .func (.func 5) #[] #[.pointer (some ⟨wc.heap.size + 3, 0, none⟩), .pointer (some ⟨wc.heap.size + 1, 0, none⟩), .pointer (some ⟨wc.heap.size, 0, none⟩), .pointer (some ⟨B, 0, none⟩), .pointer (some ⟨wc.heap.size + 2, 0, none⟩)]] 35)
    rw [World.size_alloc, World.size_alloc, World.size_alloc, World.size_alloc] at this; exact this
  · have := heap_alloc_new (((((wc.alloc (.cells #[.int .i64 0] 3)).alloc (.cells #[.int .i64 0] 3)).alloc (.cells #[.int .i64 0] 3)).alloc (.cells #[.bool false] 4)).alloc
      (.cells #[.slice none 0 0, .bool false, .int .i64 0, .func (.func 5) #[] #[.pointer (some ⟨wc.heap.size + 3, 0, none⟩), .pointer (some ⟨wc.heap.size + 1, 0, none⟩), .pointer (some ⟨wc.heap.size, 0, none⟩), .pointer (some ⟨B, 0, none⟩), .pointer (some ⟨wc.heap.size + 2, 0, none⟩)]] 35)) (.cells (madeCells #[.int .u8 0] K8) 5)
    rw [World.size_alloc, World.size_alloc, World.size_alloc, World.size_alloc, World.size_alloc] at this
    simpa using this

theorem startD_below (wc : World) (D : Nat) (hD : D = wc.heap.size) (o1 o2 o3 o4 o5 o6 : Obj) : Below D wc ((((((wc.alloc o1).alloc o2).alloc o3).alloc o4).alloc o5).alloc o6) ∧ ((((((wc.alloc o1).alloc o2).alloc o3).alloc o4).alloc o5).alloc o6).heap.size = D + 6 := by
  subst hD
  exact ⟨((((((Below.refl _ _).alloc (Nat.le_refl _) _).alloc (by simp) _).alloc (by simp; omega) _).alloc (by simp; omega) _).alloc (by simp; omega) _).alloc (by simp; omega) _, by simp⟩

set_option maxRecDepth 100000 in
set_option maxHeartbeats 1000000 in
theorem lawD_small (w : World) (ca : Option Addr) (cap : Nat) (C : List (List Int × Bool)) (k : Int) (hk0 : 0 ≤ k) (hk1 : k ≤ 255) (hC : ChunksIn w ca C) (hn : C.length ≤ 256) {ea : Addr}
    (he : w.cell? ⟨0, 0, none⟩ = some (.iface 41 (.pointer (some ea)))) :
    Calls Ybad.prog 3 #[.slice ca C.length cap, .int .u8 k] w fun e w' => e = .returned (.bool true) ∧ Below w.heap.size w w' := by
  have HCH : Hid _ := hC.boxed (cap := cap) hn
  obtain ⟨i0, hi, hz0, hz1, hz2⟩ := info_parts Ybad.info5
  go_enter Ybad.func3, Ybad.ntmps3
  go_wp2
  go_loop [5, 31] (fun t i => ∃ j s : Nat, j ≤ C.length ∧ i = .int .i64 j ∧ t = .int .i64 s ∧ s + Pl.tot (C.drop j) = Pl.tot C ∧ s ≤ 4096) (fun _ i => C.length - (intOf i).toNat)
  case atStart => exact ⟨0, 0, Nat.zero_le _, rfl, rfl, by simp, by omega⟩
  case round =>
    obtain ⟨j, s, hj, rfl, rfl, hs, hs2⟩ := hrel
    have HS : Hid _ := hs
    clear hs
    by_cases hlt : j < C.length
    · obtain ⟨b, off, rfl, hb, hcc⟩ := hC (by omega)
      obtain ⟨c, hcj⟩ : ∃ c, C[j]? = some c := ⟨C[j], List.getElem?_eq_getElem hlt⟩
      obtain ⟨p, cp, h1, h2, _, _, h3⟩ := hcc j c hcj
      have hta := Pl.tot_at C j c hcj
      have HT : Hid _ := hta
      clear hta hcj hcc
      go_wp2
      · go_ret
        exact ⟨rfl, (Below.refl _ _).alloc (Nat.le_refl _) _⟩
      · go_round
        case rel => exact ⟨j + 1, s + c.1.length, by omega, by go_num, by go_num, by have := HS.out; have := HT.out; omega, by omega⟩
        case measure => simp [intOf]; omega
    · have hjn : j = C.length := by omega
      have hst : Pl.tot C = s := by
        have h1 := HS.out
        rw [Pl.tot_end C j (by omega)] at h1
        omega
      have HTOT : Hid _ := hst
      clear HS hst
      obtain ⟨K8, hK8⟩ : ∃ K8 : Nat, (K8 : Int) = 1 + k % 8 := ⟨(1 + k % 8).toNat, by omega⟩
      have hK1 : 1 ≤ K8 := by omega
      have hK2 : K8 ≤ 8 := by omega
      have HK8 : Hid _ := hK8
      clear hK8
      subst hjn
      clear hlt hj
      go_upto_block 2 with fail
      go_cut [7, 8, 9] from 26 to 71 (fun s7 v8 s9 wx => s7 = .int .i64 K8 ∧ s9 = .int .i64 (Pl.ncalls C) ∧ wx.ownsRow (w.heap.size + 1) 5 1 v8 (Pl.strm C).length ((Pl.strm C).map (Value.int .u8)) ∧ Below (w.heap.size + 1) (w.alloc (.cells #[.slice ca C.length cap] 22)) wx)
      case first =>
        go_wp2_with fail
        go_loopg [8, 9, 54] C.length (fun g v c9 i wx => ∃ (j : Nat) (L : List Int), j + g = C.length ∧ i = .int .i64 j ∧ c9 = .int .i64 (C.length + 1) ∧ wx.ownsRow (w.heap.size + 1) 5 1 v L.length (L.map (Value.int .u8)) ∧
          L ++ Pl.strm (C.drop j) = Pl.strm C ∧ j + Pl.ncalls (C.drop j) = Pl.ncalls C ∧ Below (w.heap.size + 1) (w.alloc (.cells #[.slice ca C.length cap] 22)) wx)
        case atStart => exact ⟨0, [], by omega, rfl, rfl, World.ownsRow_nil _ _ _ _, by simp, by simp, Below.refl _ _⟩
        case round =>
          obtain ⟨j, L, hj, rfl, rfl, hown, hL, hN, hbel⟩ := hrel
          have hsz := hbel.size
          simp only [World.size_alloc] at hsz
          by_cases hlt : j < C.length
          · obtain ⟨b, off, rfl, hb, hcc⟩ := hC (by omega)
            obtain ⟨c, hcj⟩ : ∃ c, C[j]? = some c := ⟨C[j], List.getElem?_eq_getElem hlt⟩
            obtain ⟨p, cp, h1, h2, hby, hpn, h3⟩ := hcc j c hcj
            have hsj := Pl.strm_at C j c hcj
            have hnj := Pl.ncalls_at C j c hcj
            have hlen : L.length + c.1.length ≤ 4096 := by
              have t1 := Pl.strm_le C
              have t2 := HTOT.out
              have t3 : (L ++ Pl.strm (C.drop j)).length = (Pl.strm C).length := by rw [hL]
              rw [hsj] at t3
              simp only [List.length_append] at t3
              omega
            have hold : Below w.heap.size w wr := ((Below.refl w.heap.size w).alloc (Nat.le_refl _) _).trans (hbel.mono (by omega))
            have hB : wr.cell? ⟨w.heap.size, 0, none⟩ = some (.slice (some ⟨b, off, none⟩) C.length cap) := by
              rw [hbel.cell (p := ⟨w.heap.size, 0, none⟩) (by simp)]; simp
            have h1r : wr.cell? ⟨b, off + j * 2, none⟩ = some (.slice p c.1.length cp) := by rw [hold.cell (p := ⟨b, off + j * 2, none⟩) hb]; exact h1
            have h2r : wr.cell? ⟨b, off + j * 2 + 1, none⟩ = some (.bool c.2) := by rw [hold.cell (p := ⟨b, off + j * 2 + 1, none⟩) hb]; exact h2
            have HD : Hid (_ ∧ _ ∧ _ ∧ _ ∧ _) := ⟨hcj, hsj, hnj, hL, hN⟩
            clear hcj hsj hnj hL hN h1 h2 hcc hsz
            cases p with
            | none =>
              have hc0 : c.1.length = 0 := by
                obtain ⟨a, cap', e, _, _, hc⟩ := hby
                cases e
                rcases Nat.eq_zero_or_pos c.1.length with h | h
                · exact h
                · obtain ⟨_, _, e, _⟩ := hc h; cases e
              obtain rfl := hpn rfl
              rw [hc0] at h1r
              go_wp2_with (at_builtin; refine wpList_append_own_none rfl (.tmp 57) (.tmp 62) 23 rfl (w.heap.size + 1) 5 i0 1 Ybad.underlying23 hi _ L.length (L.map (Value.int .u8)) rfl hown rfl ?_)
              · have he1 : c.2 = true := by assumption
                go_meet
                case rel =>
                  obtain ⟨_, hsj, hnj, hL, hN⟩ := HD.out
                  have hc1 : c.1 = [] := List.eq_nil_of_length_eq_zero hc0
                  rw [hsj, he1, hc1] at hL
                  rw [hnj, he1] at hN
                  simp at hL hN
                  exact ⟨by rw [HK8.out], by rw [← hN]; go_num, by rw [← hL]; exact hown, hbel⟩
              · have he1 : c.2 = false := by assumption
                go_roundg (C.length - (j + 1))
                case measure => omega
                case rel =>
                  obtain ⟨_, hsj, hnj, hL, hN⟩ := HD.out
                  have hc1 : c.1 = [] := List.eq_nil_of_length_eq_zero hc0
                  rw [hsj, he1, hc1] at hL
                  rw [hnj, he1] at hN
                  simp at hL hN
                  exact ⟨j + 1, L, by omega, by go_num, rfl, hown, hL, by omega, hbel⟩
            | some ad =>
              have hnews := news_cells hby hold
              have HN : Hid _ := hnews
              clear hnews hpn
              go_wp2_with (at_builtin; refine wpList_append_own _ rfl (.tmp 57) (.tmp 62) 23 rfl (w.heap.size + 1) 5 i0 (.int .u8 0) 1 1 Ybad.underlying23 hi hz0 hz1 hz2 rfl (by decide) _ L.length (L.map (Value.int .u8)) rfl hown ad c.1.length cp (c.1.map (Value.int .u8)) rfl (by simp) HN.out (by simp [Value.oneCell']) ?b1 ?b2 ?b3 ?_)
              case b1 => unfold maxLen; omega
              case b2 => omega
              case b3 => have := hbel.size; simp at this; omega
              · intro v' w1 hown' hgrow _
                have hbel1 := hbel.grown hgrow (by have := hbel.size; simp at this; omega) (ownBlock_ge hown)
                have hold1 := hold.grown hgrow (by have := hbel.size; simp at this; omega) (fun k hk => by have := ownBlock_ge hown k hk; omega)
                have hB1 : w1.cell? ⟨w.heap.size, 0, none⟩ = some (.slice (some ⟨b, off, none⟩) C.length cap) := by
                  rw [hbel1.cell (p := ⟨w.heap.size, 0, none⟩) (by simp)]; simp
                have h2r1 : w1.cell? ⟨b, off + j * 2 + 1, none⟩ = some (.bool c.2) := by
                  rw [hold1.cell (p := ⟨b, off + j * 2 + 1, none⟩) hb, ← hold.cell (p := ⟨b, off + j * 2 + 1, none⟩) hb]; exact h2r
                clear hgrow hB h1r h2r hbel hold HN
                go_wp2
                · have he1 : c.2 = true := by assumption
                  go_meet
                  case rel =>
                    obtain ⟨_, hsj, hnj, hL, hN⟩ := HD.out
                    rw [hsj, he1] at hL
                    rw [hnj, he1] at hN
                    simp at hL hN
                    exact ⟨by rw [HK8.out], by rw [← hN]; go_num, by rw [← hL]; simpa using hown', hbel1⟩
                · have he1 : c.2 = false := by assumption
                  go_roundg (C.length - (j + 1))
                  case measure => omega
                  case rel =>
                    obtain ⟨_, hsj, hnj, hL, hN⟩ := HD.out
                    rw [hsj, he1] at hL
                    rw [hnj, he1] at hN
                    simp at hL hN
                    exact ⟨j + 1, L ++ c.1, by omega, by go_num, rfl, by simpa using hown', by simpa using hL, by omega, hbel1⟩
          · have HD : Hid (_ ∧ _) := ⟨hL, hN⟩
            clear hL hN
            go_wp2_with fail
            go_meet
            case rel =>
              obtain ⟨hL, hN⟩ := HD.out
              rw [Pl.strm_end C j (by omega)] at hL
              rw [Pl.ncalls_end C j (by omega)] at hN
              simp at hL
              have hjn : j = C.length := by omega
              exact ⟨by rw [HK8.out], by rw [← hN, hjn]; go_num, by rw [← hL]; exact hown, hbel⟩
      case rest =>
        obtain ⟨rfl, rfl, hown, hbelc⟩ := hcut
        rename World => w0
        have hsz := hbelc.size
        simp only [World.size_alloc] at hsz
        have h0B : 0 < w.heap.size := block_lt_of_cell he
        have hchc : Chunks w0.heap.size w.heap.size w0 (.slice ca C.length cap) C := (HCH.out.carry hbelc).mono (by omega)
        have hec : w0.cell? ⟨0, 0, none⟩ = some (.iface 41 (.pointer (some ea))) := by
          rw [hbelc.cell (p := ⟨0, 0, none⟩) (by simp), World.cell?_alloc_lt _ _ ⟨0, 0, none⟩ h0B]; exact he
        have hmf : ∀ (fn : Fn) (first cap : Array Value) (w : World), (Instr.makeFunc fn first cap).run Ybad.prog w = .ok (.func fn first cap) w := fun _ _ _ _ => rfl
        have hmk := run_make_row' (P := Ybad.prog) 23 5 (.int .u8 0) 1 Ybad.underlying23 Ybad.info5 rfl .i64 .i64 K8 (by omega) (by omega)
        have HO : Hid (_ ∧ _ ∧ _ ∧ _) := ⟨hown, hbelc, hchc, hec⟩
        clear hown hbelc hchc hec HCH he hC hi hz0 hz1 hz2
        obtain ⟨D, hD⟩ : ∃ D, D = w0.heap.size := ⟨_, rfl⟩
        have HDD : Hid _ := hD
        clear hD
        go_upto_region 28 with fail
        go_cut [11, 12, 13, 14, 15, 16, 18, 20] from 72 to 77 (fun s11 s12 s13 s14 _ s16 s18 s20 wx => s11 = .pointer (some ⟨D, 0, none⟩) ∧ s12 = .pointer (some ⟨D + 1, 0, none⟩) ∧ s13 = .pointer (some ⟨D + 2, 0, none⟩) ∧ s14 = .pointer (some ⟨D + 3, 0, none⟩) ∧
          s16 = .pointer (some ⟨D + 4, 0, none⟩) ∧ s18 = .slice (some ⟨D + 5, 0, none⟩) K8 K8 ∧ s20 = .int .i64 0 ∧ RdD D w.heap.size wx 0 0 0 (.slice none 0 0) false 0 (madeCells #[.int .u8 0] K8).toList ∧ Below D w0 wx ∧ wx.heap.size = D + 6)
        case first =>
          go_wp2_with fail
          go_meet
          case rel =>
            have hD := HDD.out
            refine ⟨by rw [hD], by rw [hD], by rw [hD], by rw [hD], by rw [hD], by rw [hD], rfl, ?_, (startD_below w0 D hD _ _ _ _ _ _).1, (startD_below w0 D hD _ _ _ _ _ _).2⟩
            have := startD w0 D w.heap.size K8 hD
            subst hD
            exact this
        case rest =>
          obtain ⟨rfl, rfl, rfl, rfl, rfl, rfl, rfl, hst0, hbel0, hsz0⟩ := hcut
          obtain ⟨hown, hbelc, hchc, hec⟩ := HO.out
          have hD := HDD.out
          rw [← hD] at hchc
          have h0D : 0 < D := by omega
          have hcl0 : (madeCells #[Value.int .u8 0] K8).toList.length = K8 := by simp [madeCells]
          have HW : Hid (_ ∧ _ ∧ _ ∧ _ ∧ _) := ⟨hown, hbelc, hchc, hec, hD⟩
          have HST : Hid (_ ∧ _ ∧ _ ∧ _) := ⟨hst0, hbel0, hsz0, hcl0⟩
          clear hown hbelc hchc hec hD HO hst0 hbel0 hsz0 hcl0 hmk
          go_wp2_with fail
          go_loopg [17, 19, 20] (s + 2) (fun g got dn st wx => ∃ (t : Nat) (G : List Int) (i c l : Nat) (v : Value) (zs : List Int) (eof : Bool) (rd : Nat) (cur : List Value), g = s + 2 - t ∧ st = .int .i64 t ∧ dn = .bool false ∧ t ≤ G.length ∧
            wx.ownsRow (D + 6) 5 1 got G.length (G.map (Value.int .u8)) ∧ Below D w0 wx ∧ D + 6 ≤ wx.heap.size ∧ RdD D w.heap.size wx i c l v eof rd cur ∧ Bytes D w0 v zs ∧ Pl.InvD C G i c l zs eof rd ∧ cur.length = K8)
          case atStart =>
            obtain ⟨hst0, hbel0, hsz0, hcl0⟩ := HST.out
            exact ⟨0, [], 0, 0, 0, _, [], false, 0, _, rfl, rfl, rfl, by omega, World.ownsRow_nil _ _ _ _, hbel0, by omega, hst0, Bytes.nil _ _, Pl.InvD.start C, hcl0⟩
          case round =>
            clear HST
            obtain ⟨t, G, i, c, l, v, zs, eof, rd, cur, hg, rfl, rfl, htG, hown, hbel, hsz6, hst, hby, hI, hcl⟩ := hrel
            have hts : t ≤ s := by have := hI.len; have := HTOT.out; omega
            have htot : Pl.tot C ≤ 4096 := by have := HTOT.out; omega
            obtain ⟨hown0, hbelc, hchc, hec, hD⟩ := HW.out
            have HR : Hid _ := readD (Pl.InvD C G) hchc hec h0D (Pl.InvD.more htot) Pl.InvD.last (Pl.InvD.bound hn) hbel hst hby hI K8 K8 hK1 hK2 (by omega)
            have HG : Hid _ := hg
            have HX : Hid (_ ∧ _ ∧ _ ∧ _ ∧ _ ∧ _) := ⟨hown, hbel, hst, hby, hI, hcl⟩
            clear hg hown hbel hst hby hI hown0 hbelc hchc hec hD hcl htot
            go_wp2_with fail
            refine Calls.mono HR.out ?_
            rintro e w1 ⟨hkept, ⟨rfl, i', c', l', v', rd', hst', hby', hI'⟩ | ⟨i', c', l', v', zs', eof', rd', k', cur', hk', hk1', rfl, hst', hby', hI', hcl', hcur'⟩⟩
            · obtain ⟨hown0, hbelc, hchc, hec, hD⟩ := HW.out
              obtain ⟨hown, hbel, hst, hby, hI, hcl⟩ := HX.out
              have hbel' : Below D w0 w1 := hbel.trans (hkept.below (by omega))
              have he1 : w1.cell? ⟨0, 0, none⟩ = some (.iface 41 (.pointer (some ea))) := by rw [hbel'.cell (p := ⟨0, 0, none⟩) h0D]; exact hec
              have heq := eql_eof ea w1
              have hbad := cell_of_one hst'.env.bad
              have hcalls := cell_of_one hst'.env.calls
              obtain ⟨hG, hc'⟩ := hI'.done
              have hown1 := ownsRow_kept hown hkept
              have hb2 : c' ≤ 300 ∧ ([] : List Int).length + rd' ≤ 9223372036854775807 := Pl.InvD.bound hn _ _ _ _ _ _ hI'
              have HR2 : Hid _ := readD (fun _ c _ zs eof rd => c = c' ∧ zs = [] ∧ eof = true ∧ rd = rd') hchc hec h0D (fun _ _ _ _ _ h _ => absurd h.2.2.1 (by simp)) (fun _ _ _ _ h _ => absurd h.2.2.1 (by simp))
                (fun _ _ _ _ _ _ h => by obtain ⟨rfl, rfl, _, rfl⟩ := h; exact hb2) hbel' hst' hby' ⟨rfl, rfl, rfl, rfl⟩ K8 K8 hK1 hK2 (by omega)
              have HY : Hid (_ ∧ _ ∧ _ ∧ _ ∧ _ ∧ _) := ⟨hG, hc', hown1, hown0, hbel', hD⟩
              clear hown0 hbelc hchc hec hD hown hbel hst hby hI hcl hG hc' hown1 hI' hst' hby' hkept HX HR
              go_wp2_with fail
              refine Calls.mono HR2.out ?_
              rintro e w2 ⟨hkept2, ⟨rfl, i2, c2, l2, v2, rd2, hst2, hby2, hI2⟩ | ⟨i2, c2, l2, v2, zs2, eof2, rd2, k2, cur2, hk2, hk12, _, _, _, hI2, _⟩⟩
              · obtain ⟨hG, hc', hown1, hown0, hbel', hD⟩ := HY.out
                obtain ⟨rfl, _, _, _⟩ := hI2
                have hbel2 : Below D w0 w2 := hbel'.trans (hkept2.below (by have := hbel'.size; omega))
                have he2 : w2.cell? ⟨0, 0, none⟩ = some (.iface 41 (.pointer (some ea))) := by rw [hbel2.cell (p := ⟨0, 0, none⟩) h0D, ← hbel'.cell (p := ⟨0, 0, none⟩) h0D]; exact he1
                have hcalls2 := cell_of_one hst2.env.calls
                have hneq := neq_eof ea w2
                have hg2 := ownsRow_kept hown1 hkept2
                have hw2 := ownsRow_below hown0 hD hbel2
                obtain ⟨a1, p1, rfl⟩ := own_form hg2
                obtain ⟨a2, p2, rfl⟩ := own_form hw2
                have HP : Hid _ := heads_own (M := []) hg2 (by rw [List.append_nil, hG]; exact hw2)
                have HZ : Hid (_ ∧ _) := ⟨hbel2, hD⟩
                rw [← hc'] at *
                have hlen : ((G.length : Int) == ((Pl.strm C).length : Int)) = true := by rw [hG]; simp
                clear HY hG hc' hown1 hown0 hbel' hD hg2 hw2 hbel2 hst2 hby2 hkept2 he1 heq hbad hcalls HR2
                go_wp2_with fail
                refine Calls.mono HP.out ?_
                rintro e w3 ⟨rfl, q, rfl⟩
                go_wp2
                go_ret
                obtain ⟨_, hbelc, _, _, _⟩ := HW.out
                obtain ⟨hbel2, hD⟩ := HZ.out
                refine ⟨rfl, Below.drewN' (((Below.refl w.heap.size w).alloc (Nat.le_refl _) _).trans ((hbelc.mono (by omega)).trans (hbel2.mono ?_))) q⟩
                have := hbelc.size
                simp at this
                omega
              · exfalso
                obtain ⟨_, rfl, _, _⟩ := hI2
                simp at hk2
                omega
            · obtain ⟨hown0, hbelc, hchc, hec, hD⟩ := HW.out
              obtain ⟨hown, hbel, hst, hby, hI, hcl⟩ := HX.out
              have hbel' : Below D w0 w1 := hbel.trans (hkept.below (by omega))
              have he1 : w1.cell? ⟨0, 0, none⟩ = some (.iface 41 (.pointer (some ea))) := by rw [hbel'.cell (p := ⟨0, 0, none⟩) h0D]; exact hec
              have heq := eql_nil_eof (.pointer (some ea)) w1
              have hown1 := ownsRow_kept hown hkept
              have hkk : k' ≤ K8 := by omega
              have hkz : k' ≤ zs'.length := by omega
              have hI2 := hI'.took k' hkz
              have hGl := hI'.len
              have hGt := HTOT.out
              have hsz1 : D + 6 ≤ w1.heap.size := by have := hkept.size; omega
              obtain ⟨i1, hi, hz0, hz1, hz2⟩ := info_parts Ybad.info5
              have hnews : ∀ j u, ((zs'.take k').map (Value.int .u8))[j]? = some u → w1.cell? ((⟨D + 5, 0, none⟩ : Addr).add j) = some u := by
                intro j u hj
                have hjk : j < k' := by have := (List.getElem?_eq_some_iff.1 hj).1; simp at this; omega
                have h1 := hcur' j hjk
                rw [show (⟨D + 5, 0, none⟩ : Addr).add j = ⟨D + 5, j, none⟩ from by simp [Addr.add]; omega, cell_of_row w1 (D + 5) j _ 5 (0, 0) hst'.buf]
                rw [List.getElem?_map, List.getElem?_take_of_lt hjk, List.getElem?_eq_getElem (by omega)] at hj
                simp at hj
                subst hj
                simp only [List.getElem?_toArray, h1]
                simp [List.getD_eq_getElem?_getD, List.getElem?_eq_getElem (show j < zs'.length by omega)]
              have HN : Hid (_ ∧ _) := ⟨hnews, hown1⟩
              have HY : Hid (_ ∧ _ ∧ _ ∧ _ ∧ _) := ⟨hbel', hst', hby', hI2, hcl'.trans hcl⟩
              have HB : Hid (G.length + k' ≤ 4096) := by show _ ≤ _; omega
              have HZ : Hid ((zs'.take k').length = k') := by show _ = _; simp; omega
              clear hnews hown0 hbelc hchc hec hD hown hbel hst hby hI hcl hcur' hown1 hI' hI2 hst' hby' hkept HX HR hGl hGt hcl' hk'
              go_wp2_with (at_builtin; refine wpList_append_own _ rfl (.tmp 106) (.tmp 109) 23 rfl (D + 6) 5 i1 (.int .u8 0) 1 1 Ybad.underlying23 hi hz0 hz1 hz2 rfl (by decide) _ G.length (G.map (Value.int .u8)) rfl HN.out.2 ⟨D + 5, 0, none⟩ k' K8 ((zs'.take k').map (Value.int .u8)) rfl ?b0 HN.out.1 (one_of_bytes _) ?b1 ?b2 ?b3 ?_)
              case b0 => rw [List.length_map, HZ.out, Nat.mul_one]
              case b1 => have := HB.out; unfold maxLen; omega
              case b2 => have := HB.out; omega
              case b3 => exact hsz1
              · intro v2 w2 hown2 hgrow _
                have hown2' : w2.ownsRow (D + 6) 5 1 v2 (G ++ zs'.take k').length ((G ++ zs'.take k').map (Value.int .u8)) := by
                  rw [List.length_append, HZ.out]
                  simpa using hown2
                obtain ⟨hbel', hst', hby', hI2, hcl2⟩ := HY.out
                have hown1 := HN.out.2
                have hbel2 : Below D w0 w2 := hbel'.grown hgrow (by omega) (fun k hk => by have := ownBlock_ge hown1 k hk; omega)
                have hst2 : RdD D w.heap.size w2 i' c' l' v' eof' (rd' + k') cur' := hst'.carry (fun k h1 h2 => hgrow.block k (by omega) (fun e => by have := ownBlock_ge hown1 k e.symm; omega))
                have hsz2 : D + 6 ≤ w2.heap.size := by have := hgrow.size; omega
                generalize hr1 : rd' + k' = r1 at *
                generalize hz1 : zs'.drop k' = zs1 at *
                generalize hG1 : G ++ zs'.take k' = G1 at *
                have hGl : t + 1 ≤ G1.length := by rw [← hG1, List.length_append, HZ.out]; omega
                obtain ⟨av, cv, rfl, hv1, hv2, hv3⟩ := hby'
                obtain ⟨x0, x1, x2, x3, _, _, _⟩ := four_cell hst2.rdr
                have xl := cell_of_one hst2.env.last
                have hrl : zs1.length + r1 = l' := hI2.2.2.1
                have hl4 : l' ≤ 4096 := hI2.2.2.2
                have HF : Hid (_ ∧ _ ∧ _ ∧ _ ∧ _ ∧ _) := ⟨hown2', hbel2, hst2, (⟨av, cv, rfl, hv1, hv2, hv3⟩ : Bytes D w0 (.slice av zs1.length cv) zs1), hI2, hcl2⟩
                clear hown2 hown2' hgrow HY HN hbel' hst' hI2 hown1 hbel2 hst2 hv1 hv2 hv3 hr1 hz1 hG1 hcl2 HB HZ he1 heq hi hz0 hz2 hkk hkz hsz1
                go_wp2
                go_quiet (fail)
                go_wp2
                go_roundg (s + 2 - (t + 1))
                case measure => rw [HG.out]; omega
                case rel =>
                  obtain ⟨hown2', hbel2, hst2, hby2, hI2, hcl2⟩ := HF.out
                  exact ⟨t + 1, G1, i', c', l', _, zs1, eof', r1, cur', rfl, by go_num, rfl, hGl, hown2', Below.drewN' hbel2 _, hsz2, hst2.drewN _, hby2, hI2, hcl2⟩
end Go.Proofs.YbulkryuDoor
