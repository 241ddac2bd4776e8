import Derived.Test.YbulkryuDoorReadZ0
import Derived.Test.YbulkryuDoorLawD
namespace Go.Proofs.YbulkryuDoor
open Go.RowKit

/-- The bytes of the second argument. -/
def OpsIn (w : World) (oa : Option Addr) (Z : List Int) : Prop :=
  0 < Z.length → ∃ b off, oa = some ⟨b, off, none⟩ ∧ b < w.heap.size ∧ ∀ j, j < Z.length → w.cell? ⟨b, off + j, none⟩ = some (.int .u8 (Z.getD j 0)) ∧ 0 ≤ Z.getD j 0 ∧ Z.getD j 0 ≤ 255

/-- The state ahead of Zero's reading loop. -/
theorem startZ (wc : World) (D B : Nat) (hD : D = wc.heap.size) :
    RdZ D B ((((wc.alloc (.cells #[.int .i64 0] 3)).alloc (.cells #[.int .i64 0] 3)).alloc
      (.cells #[.slice none 0 0, .bool false, .int .i64 0, .func (.func 8) #[] #[.pointer (some ⟨D + 1, 0, none⟩), .pointer (some ⟨D, 0, none⟩), .pointer (some ⟨B, 0, none⟩)]] 35)).alloc
      (.cells #[.int .u8 0, .int .u8 0] 5)) 0 0 (.slice none 0 0) false 0 [.int .u8 0, .int .u8 0] := by
  subst hD
  refine ⟨⟨?_, ?_⟩, ?_, ?_⟩
  · exact blk_alloc (blk_alloc (blk_alloc (heap_alloc_new _ _)))
  · refine blk_alloc (blk_alloc ?_); have := heap_alloc_new (wc.alloc (.cells #[.int .i64 0] 3)) (.cells #[.int .i64 0] 3); rw [World.size_alloc] at this; exact this
  · refine blk_alloc ?_
    have := heap_alloc_new ((wc.alloc (.cells #[.int .i64 0] 3)).alloc (.cells #[.int .i64 0] 3)) (.cells #[.slice none 0 0, .bool false, .int .i64 0, .func (.func 8) #[] #[.pointer (some ⟨wc.heap.size + 1, 0, none⟩), .pointer (some ⟨wc.heap.size, 0, none⟩), .pointer (some ⟨B, 0, none⟩)]] 35)
    rw [World.size_alloc, World.size_alloc] at this; exact this
  · have := heap_alloc_new (((wc.alloc (.cells #[.int .i64 0] 3)).alloc (.cells #[.int .i64 0] 3)).alloc
      (.cells #[.slice none 0 0, .bool false, .int .i64 0, .func (.func 8) #[] #[.pointer (some ⟨wc.heap.size + 1, 0, none⟩), .pointer (some ⟨wc.heap.size, 0, none⟩), .pointer (some ⟨B, 0, none⟩)]] 35)) (.cells #[.int .u8 0, .int .u8 0] 5)
    rw [World.size_alloc, World.size_alloc, World.size_alloc] at this
    exact this

theorem startZ_below (wc : World) (D : Nat) (hD : D = wc.heap.size) (o1 o2 o3 o4 : Obj) : Below D wc ((((wc.alloc o1).alloc o2).alloc o3).alloc o4) ∧ ((((wc.alloc o1).alloc o2).alloc o3).alloc o4).heap.size = D + 4 := by
  subst hD
  exact ⟨((((Below.refl _ _).alloc (Nat.le_refl _) _).alloc (by simp) _).alloc (by simp; omega) _).alloc (by simp; omega) _, by simp⟩

theorem make2 (w : World) : (Instr.makeSlice 23 (.int .i64 2) (.int .i64 2)).run Ybad.prog w = .ok (.slice (some ⟨w.heap.size, 0, none⟩) 2 2) (w.alloc (.cells #[.int .u8 0, .int .u8 0] 5)) := by
  have h := run_make_row' (P := Ybad.prog) 23 5 (.int .u8 0) 1 Ybad.underlying23 Ybad.info5 rfl .i64 .i64 2 (by omega) (by omega) w
  have e : madeCells #[Value.int .u8 0] 2 = #[.int .u8 0, .int .u8 0] := by kernel_rfl
  rw [e] at h
  exact h

set_option maxRecDepth 100000 in
set_option maxHeartbeats 1000000 in
theorem lawZ_small (w : World) (ca oa : Option Addr) (cap ocap : Nat) (C : List (List Int × Bool)) (Z : List Int) (hC : ChunksIn w ca C) (hn : C.length ≤ 256) (hO : OpsIn w oa Z) (hm : Z.length ≤ 256) {ea : Addr}
    (he : w.cell? ⟨0, 0, none⟩ = some (.iface 41 (.pointer (some ea)))) :
    Calls Ybad.prog 4 #[.slice ca C.length cap, .slice oa Z.length ocap] w fun e w' => e = .returned (.bool true) ∧ Below w.heap.size w w' := by
  have HCH : Hid _ := hC.boxed (cap := cap) hn
  have HO : Hid _ := hO
  clear hO
  obtain ⟨i0, hi, hz0, hz1, hz2⟩ := info_parts Ybad.info5
  have hn' : decide ((256 : Int) < (C.length : Int)) = false := by simp; omega
  have hm' : decide ((256 : Int) < (Z.length : Int)) = false := by simp; omega
  go_enter Ybad.func4, Ybad.ntmps4
  go_upto_block 0 with fail
  go_cut [5] from 22 to 50 (fun v5 wx => wx.ownsRow (w.heap.size + 1) 5 1 v5 (Pl.strm C).length ((Pl.strm C).map (Value.int .u8)) ∧ (Pl.strm C).length ≤ 4096 ∧ Below (w.heap.size + 1) (w.alloc (.cells #[.slice ca C.length cap] 22)) wx)
  case first =>
    go_wp2_with fail
    go_loopg [5, 32] C.length (fun g v i wx => ∃ (j : Nat) (L : List Int), j + g = C.length ∧ i = .int .i64 j ∧ wx.ownsRow (w.heap.size + 1) 5 1 v L.length (L.map (Value.int .u8)) ∧ L.length ≤ 4096 ∧
      L ++ Pl.strm (C.drop j) = Pl.strm C ∧ Below (w.heap.size + 1) (w.alloc (.cells #[.slice ca C.length cap] 22)) wx)
    case atStart => exact ⟨0, [], by omega, rfl, World.ownsRow_nil _ _ _ _, by simp, by simp, Below.refl _ _⟩
    case round =>
      obtain ⟨j, L, hj, rfl, hown, hL4, hL, hbel⟩ := hrel
      have hsz := hbel.size
      simp only [World.size_alloc] at hsz
      by_cases hlt : j < C.length
      · obtain ⟨b, off, rfl, hb, hcc⟩ := hC (by omega)
        obtain ⟨c, hcj⟩ : ∃ c, C[j]? = some c := ⟨C[j], List.getElem?_eq_getElem hlt⟩
        obtain ⟨p, cp, h1, h2, hby, hpn, h3⟩ := hcc j c hcj
        have hsj := Pl.strm_at C j c hcj
        have hold : Below w.heap.size w wr := ((Below.refl w.heap.size w).alloc (Nat.le_refl _) _).trans (hbel.mono (by omega))
        have hB : wr.cell? ⟨w.heap.size, 0, none⟩ = some (.slice (some ⟨b, off, none⟩) C.length cap) := by
          rw [hbel.cell (p := ⟨w.heap.size, 0, none⟩) (by simp)]; simp
        have h1r : wr.cell? ⟨b, off + j * 2, none⟩ = some (.slice p c.1.length cp) := by rw [hold.cell (p := ⟨b, off + j * 2, none⟩) hb]; exact h1
        have h2r : wr.cell? ⟨b, off + j * 2 + 1, none⟩ = some (.bool c.2) := by rw [hold.cell (p := ⟨b, off + j * 2 + 1, none⟩) hb]; exact h2
        have HD : Hid (_ ∧ _) := ⟨hsj, hL⟩
        clear hcj hsj hL h1 h2 hcc hsz
        cases p with
        | none =>
          have hc0 : c.1.length = 0 := by
            obtain ⟨a, cap', e, _, _, hc⟩ := hby
            cases e
            rcases Nat.eq_zero_or_pos c.1.length with h | h
            · exact h
            · obtain ⟨_, _, e, _⟩ := hc h; cases e
          obtain rfl := hpn rfl
          rw [hc0] at h1r
          obtain ⟨va, vc, rfl⟩ := own_form hown
          go_wp2_with (at_builtin; refine wpList_append_own_none rfl (.tmp 35) (.tmp 40) 23 rfl (w.heap.size + 1) 5 i0 1 Ybad.underlying23 hi _ L.length (L.map (Value.int .u8)) rfl hown rfl ?_)
          · have he1 : c.2 = true := by assumption
            go_meet
            case rel =>
              obtain ⟨hsj, hL⟩ := HD.out
              have hc1 : c.1 = [] := List.eq_nil_of_length_eq_zero hc0
              rw [hsj, he1, hc1] at hL
              simp at hL
              exact ⟨by rw [← hL]; exact hown, by rw [← hL]; exact hL4, hbel⟩
          · have he1 : c.2 = false := by assumption
            go_roundg (C.length - (j + 1))
            case measure => omega
            case rel =>
              obtain ⟨hsj, hL⟩ := HD.out
              have hc1 : c.1 = [] := List.eq_nil_of_length_eq_zero hc0
              rw [hsj, he1, hc1] at hL
              simp at hL
              exact ⟨j + 1, L, by omega, by go_num, hown, hL4, hL, hbel⟩
        | some ad =>
          have HN : Hid _ := news_cells hby hold
          clear hpn
          go_wp2_with (at_builtin; refine wpList_append_own _ rfl (.tmp 35) (.tmp 40) 23 rfl (w.heap.size + 1) 5 i0 (.int .u8 0) 1 1 Ybad.underlying23 hi hz0 hz1 hz2 rfl (by decide) _ L.length (L.map (Value.int .u8)) rfl hown ad c.1.length cp (c.1.map (Value.int .u8)) rfl (by simp) HN.out (one_of_bytes _) ?b1 ?b2 ?b3 ?_)
          case b1 => unfold maxLen; omega
          case b2 => omega
          case b3 => have := hbel.size; simp at this; omega
          · intro v' w1 hown' hgrow _
            have hown1 : w1.ownsRow (w.heap.size + 1) 5 1 v' (L ++ c.1).length ((L ++ c.1).map (Value.int .u8)) := by simpa using hown'
            have hbel1 := hbel.grown hgrow (by have := hbel.size; simp at this; omega) (ownBlock_ge hown)
            have hold1 := hold.grown hgrow (by have := hbel.size; simp at this; omega) (fun k hk => by have := ownBlock_ge hown k hk; omega)
            have hB1 : w1.cell? ⟨w.heap.size, 0, none⟩ = some (.slice (some ⟨b, off, none⟩) C.length cap) := by
              rw [hbel1.cell (p := ⟨w.heap.size, 0, none⟩) (by simp)]; simp
            have h2r1 : w1.cell? ⟨b, off + j * 2 + 1, none⟩ = some (.bool c.2) := by
              rw [hold1.cell (p := ⟨b, off + j * 2 + 1, none⟩) hb, ← hold.cell (p := ⟨b, off + j * 2 + 1, none⟩) hb]; exact h2r
            generalize hL1 : L ++ c.1 = L1 at *
            obtain ⟨va, vc, rfl⟩ := own_form hown1
            have HL1 : Hid _ := hL1
            have hL2 : L1.length ≤ 140737488355328 := by rw [← hL1, List.length_append]; omega
            clear hgrow hB h1r h2r hbel hold HN hown' hL1
            go_wp2
            · go_ret
              exact ⟨rfl, hold1⟩
            · have he1 : c.2 = true := by assumption
              go_meet
              case rel =>
                obtain ⟨hsj, hL⟩ := HD.out
                rw [hsj, he1] at hL
                simp only [if_true, List.append_nil] at hL
                rw [HL1.out] at hL
                exact ⟨by rw [← hL]; exact hown1, by rw [← hL]; omega, hbel1⟩
            · have he1 : c.2 = false := by assumption
              go_roundg (C.length - (j + 1))
              case measure => omega
              case rel =>
                obtain ⟨hsj, hL⟩ := HD.out
                rw [hsj, he1, ← List.append_assoc, HL1.out] at hL
                exact ⟨j + 1, L1, by omega, by go_num, hown1, by omega, by simpa using hL, hbel1⟩
      · have HD : Hid _ := hL
        clear hL
        go_wp2_with fail
        go_meet
        case rel =>
          have hL := HD.out
          rw [Pl.strm_end C j (by omega)] at hL
          simp at hL
          exact ⟨by rw [← hL]; exact hown, by rw [← hL]; exact hL4, hbel⟩
  case rest =>
    obtain ⟨hown, hs4, hbelc⟩ := hcut
    rename World => w0
    have hsz := hbelc.size
    simp only [World.size_alloc] at hsz
    have h0B : 0 < w.heap.size := block_lt_of_cell he
    have hchc : Chunks w0.heap.size w.heap.size w0 (.slice ca C.length cap) C := (HCH.out.carry hbelc).mono (by omega)
    have hec : w0.cell? ⟨0, 0, none⟩ = some (.iface 41 (.pointer (some ea))) := by
      rw [hbelc.cell (p := ⟨0, 0, none⟩) (by simp), World.cell?_alloc_lt _ _ ⟨0, 0, none⟩ h0B]; exact he
    have hmf : ∀ (fn : Fn) (first cap : Array Value) (w : World), (Instr.makeFunc fn first cap).run Ybad.prog w = .ok (.func fn first cap) w := fun _ _ _ _ => rfl
    have hmk : ∀ w : World, (Instr.makeSlice 23 (.int .i64 2) (.int .i64 2)).run Ybad.prog w = .ok (.slice (some ⟨w.heap.size, 0, none⟩) 2 2) (w.alloc (.cells #[.int .u8 0, .int .u8 0] 5)) :=
      make2
    have hold : Below w.heap.size w w0 := ((Below.refl w.heap.size w).alloc (Nat.le_refl _) _).trans (hbelc.mono (by omega))
    have HOO : Hid (_ ∧ _ ∧ _ ∧ _) := ⟨hown, hbelc, hchc, hec⟩
    have HOLD : Hid _ := hold
    clear hown hbelc hchc hec HCH he hC hi hz0 hz1 hz2 hold
    obtain ⟨D, hD⟩ : ∃ D, D = w0.heap.size := ⟨_, rfl⟩
    have HDD : Hid _ := hD
    clear hD
    go_upto_region 17 with fail
    go_cut [7, 8, 9, 10, 12, 13] from 51 to 55 (fun s7 s8 _ s10 s12 s13 wx => s7 = .pointer (some ⟨D, 0, none⟩) ∧ s8 = .pointer (some ⟨D + 1, 0, none⟩) ∧
      s10 = .pointer (some ⟨D + 2, 0, none⟩) ∧ s12 = .slice (some ⟨D + 3, 0, none⟩) 2 2 ∧ s13 = .int .i64 0 ∧ RdZ D w.heap.size wx 0 0 (.slice none 0 0) false 0 [.int .u8 0, .int .u8 0] ∧ Below D w0 wx ∧ wx.heap.size = D + 4)
    case first =>
      go_wp2_with fail
      go_meet
      case rel =>
        have hD := HDD.out
        refine ⟨by rw [hD], by rw [hD], by rw [hD], by rw [hD], rfl, ?_, (startZ_below w0 D hD _ _ _ _).1, (startZ_below w0 D hD _ _ _ _).2⟩
        have := startZ w0 D w.heap.size hD
        subst hD
        exact this
    case rest =>
      obtain ⟨rfl, rfl, rfl, rfl, rfl, hst0, hbel0, hsz0⟩ := hcut
      obtain ⟨hown, hbelc, hchc, hec⟩ := HOO.out
      have hD := HDD.out
      rw [← hD] at hchc
      have h0D : 0 < D := by omega
      have HW : Hid (_ ∧ _ ∧ _ ∧ _ ∧ _) := ⟨hown, hbelc, hchc, hec, hD⟩
      have HST : Hid (_ ∧ _ ∧ _) := ⟨hst0, hbel0, hsz0⟩
      clear hown hbelc hchc hec hD HOO hst0 hbel0 hsz0 hmk hmf
      go_wp2_with fail
      go_loopg [11, 13] Z.length (fun g got st wx => ∃ (t : Nat) (G : List Int) (i c : Nat) (v : Value) (zs : List Int) (eof : Bool) (rd : Nat) (cur : List Value), t + g = Z.length ∧ st = .int .i64 t ∧
        wx.ownsRow (D + 4) 5 1 got G.length (G.map (Value.int .u8)) ∧ Below D w0 wx ∧ D + 4 ≤ wx.heap.size ∧ RdZ D w.heap.size wx i c v eof rd cur ∧ Bytes D w0 v zs ∧ Pl.InvZ C G i c zs eof rd ∧ cur.length = 2)
      case atStart =>
        obtain ⟨hst0, hbel0, hsz0⟩ := HST.out
        exact ⟨0, [], 0, 0, _, [], false, 0, _, by omega, rfl, World.ownsRow_nil _ _ _ _, hbel0, by omega, hst0, Bytes.nil _ _, Pl.InvZ.start C, rfl⟩
      case round =>
        clear HST
        obtain ⟨t, G, i, c, v, zs, eof, rd, cur, hg, rfl, hown, hbel, hsz4, hst, hby, hI, hcl⟩ := hrel
        obtain ⟨hown0, hbelc, hchc, hec, hD⟩ := HW.out
        have hbB : Below w.heap.size w wr := HOLD.out.trans (hbel.mono (by omega))
        by_cases hlt : t < Z.length
        · obtain ⟨ob, ooff, rfl, hob, hoc⟩ := HO.out (by omega)
          obtain ⟨hz, hzl, hzh⟩ := hoc t hlt
          have hzr : wr.cell? ⟨ob, ooff + t, none⟩ = some (.int .u8 (Z.getD t 0)) := by rw [hbB.cell (p := ⟨ob, ooff + t, none⟩) hob]; exact hz
          generalize Z.getD t 0 = z at *
          have he1 : wr.cell? ⟨0, 0, none⟩ = some (.iface 41 (.pointer (some ea))) := by rw [hbel.cell (p := ⟨0, 0, none⟩) h0D]; exact hec
          have hc300 := Pl.InvZ.bound hn _ _ _ _ _ hI
          by_cases h3 : z % 3 = 0
          · obtain ⟨a, pcap, rfl, hp1, hp2, hp3⟩ := hby
            have HR : Hid (∀ q, Calls Ybad.prog 6 #[.pointer (some ⟨D + 2, 0, none⟩), .slice (some ⟨D + 3, 0, none⟩) 0 2] (wr.drewN q) fun e w' => OutZ0 w0 (wr.drewN q) D w.heap.size (.iface 41 (.pointer (some ea))) i c zs eof rd cur e w') :=
              fun q => readZ0 hec h0D (Below.drewN' hbel q) (hst.drewN q) ⟨a, pcap, rfl, hp1, hp2, hp3⟩ hc300.2 2
            have HFIN : Hid (∀ q w1 v', Kept D 4 (wr.drewN q) w1 → RdZ D w.heap.size w1 i c v' eof rd cur → Bytes D w0 v' zs → ∃ (t' : Nat) (G : List Int) (i c : Nat) (v : Value) (zs : List Int) (eof : Bool) (rd : Nat) (cur : List Value), t' + (Z.length - (t + 1)) = Z.length ∧ Value.int .i64 ((t : Int) + 1) = .int .i64 t' ∧
              w1.ownsRow (D + 4) 5 1 u11 G.length (G.map (Value.int .u8)) ∧ Below D w0 w1 ∧ D + 4 ≤ w1.heap.size ∧ RdZ D w.heap.size w1 i c v eof rd cur ∧ Bytes D w0 v zs ∧ Pl.InvZ C G i c zs eof rd ∧ cur.length = 2) := by
              intro q w1 v' hkk hst' hby'
              have hkk' : Kept D 4 wr w1 := ((Kept.refl D 4 wr).drewN q).trans hkk
              exact ⟨t + 1, G, i, c, v', zs, eof, rd, cur, by omega, by go_num, ownsRow_kept hown hkk', hbel.trans (hkk'.below (by omega)), by have := hkk'.size; omega, hst', hby', hI, hcl⟩
            obtain ⟨r0, r1, r2, r3, _, _, _⟩ := four_cell hst.rdr
            have hcalls := cell_of_one hst.env.calls
            have HB : Hid (_ ∧ _) := ⟨hbel, hec⟩
            clear hown hbel hst hI hcl hown0 hbelc hchc hec hD hbB hp1 hp2 hp3 hz hoc hc300
            go_wp2_with fail
            go_quiet (fail)
            go_wp2_with fail
            refine Calls.mono (HR.out _) ?_
            rintro e w1 ⟨hkk, rfl, v', hst', hby'⟩
            obtain ⟨a', pcap', rfl, hp1', hp2', hp3'⟩ := hby'
            have HX := HFIN.out nq w1 _ hkk hst' ⟨a', pcap', rfl, hp1', hp2', hp3'⟩
            have HXX : Hid _ := HX
            obtain ⟨hbel, hec⟩ := HB.out
            have hbel1 : Below D w0 w1 := (Below.drewN' hbel nq).trans (hkk.below (by show D ≤ wr.heap.size; omega))
            have he2 : w1.cell? ⟨0, 0, none⟩ = some (.iface 41 (.pointer (some ea))) := by rw [hbel1.cell (p := ⟨0, 0, none⟩) h0D]; exact hec
            have hneq := neq_eof ea w1
            obtain ⟨q0, q1, q2, q3, _, _, _⟩ := four_cell hst'.rdr
            have hcalls1 := cell_of_one hst'.env.calls
            clear HX hkk hst' hp1' hp2' hp3' hbel hec hbel1 HR HFIN HB r0 r1 r2 r3 he1 hcalls hzr
            by_cases hzz : (zs.isEmpty && eof) = true
            · rw [if_pos hzz]
              simp at hzz
              obtain ⟨rfl, rfl⟩ := hzz
              simp only [List.length_nil] at q0
              go_wp2
              go_roundg (Z.length - (t + 1))
              case measure => omega
              case rel => exact HXX.out
            · rw [if_neg hzz]
              by_cases hz2 : zs = []
              · subst hz2
                have hef : eof = false := by simpa using hzz
                subst hef
                clear hzz
                simp only [List.length_nil] at q0
                go_wp2
                go_roundg (Z.length - (t + 1))
                case measure => omega
                case rel => exact HXX.out
              · have hzl : ((zs.length : Int) == 0) = false := by simp; exact hz2
                clear hzz
                go_wp2
                go_roundg (Z.length - (t + 1))
                case measure => omega
                case rel => exact HXX.out
          · obtain ⟨s, hs3, hs1, hs2⟩ : ∃ s : Nat, z % 3 = (s : Int) ∧ 1 ≤ s ∧ s ≤ 2 := ⟨(z % 3).toNat, by omega, by omega, by omega⟩
            have HR : Hid _ := readZ (Pl.InvZ C G) hchc hec h0D (Pl.InvZ.more hs4) Pl.InvZ.last (Pl.InvZ.bound hn) hbel hst hby hI s 2 hs1 (by omega) (by omega)
            have HX : Hid (_ ∧ _ ∧ _ ∧ _ ∧ _ ∧ _) := ⟨hown, hbel, hst, hby, hI, hcl⟩
            clear hown hbel hst hby hI hcl hown0 hbelc hchc hec hD hbB hz hoc hc300
            go_wp2_with fail
            refine Calls.mono HR.out ?_
            rintro e w1 ⟨hkept, ⟨rfl, i', c', v', rd', hst', hby', hI'⟩ | ⟨i', c', v', zs', eof', rd', k', cur', hk', hk1', rfl, hst', hby', hI', hcl', hcur'⟩⟩
            · obtain ⟨hown0, hbelc, hchc, hec, hD⟩ := HW.out
              obtain ⟨hown, hbel, hst, hby, hI, hcl⟩ := HX.out
              have hbel' : Below D w0 w1 := hbel.trans (hkept.below (by omega))
              have he2 : w1.cell? ⟨0, 0, none⟩ = some (.iface 41 (.pointer (some ea))) := by rw [hbel'.cell (p := ⟨0, 0, none⟩) h0D]; exact hec
              have heq := eql_eof ea w1
              have hown1 := ownsRow_kept hown hkept
              have hsz1 : D + 4 ≤ w1.heap.size := by have := hkept.size; omega
              have HY : Hid (_ ∧ _ ∧ _ ∧ _ ∧ _ ∧ _) := ⟨hown1, hbel', hst', hby', hI', hcl⟩
              clear hown0 hbelc hchc hec hD hown hbel hst hby hI hcl hown1 hbel' hst' hby' hI' hkept HX HR hzr he1
              go_wp2
              go_roundg (Z.length - (t + 1))
              case measure => omega
              case rel =>
                obtain ⟨hown1, hbel', hst', hby', hI', hcl⟩ := HY.out
                exact ⟨t + 1, G, i', c', v', [], true, rd', cur, by omega, by go_num, hown1, hbel', hsz1, hst', hby', hI', hcl⟩
            · obtain ⟨hown0, hbelc, hchc, hec, hD⟩ := HW.out
              obtain ⟨hown, hbel, hst, hby, hI, hcl⟩ := HX.out
              have hbel' : Below D w0 w1 := hbel.trans (hkept.below (by omega))
              have he2 : w1.cell? ⟨0, 0, none⟩ = some (.iface 41 (.pointer (some ea))) := by rw [hbel'.cell (p := ⟨0, 0, none⟩) h0D]; exact hec
              have heq := eql_nil_eof (.pointer (some ea)) w1
              have hown1 := ownsRow_kept hown hkept
              have hkk : k' ≤ s := by omega
              have hkz : k' ≤ zs'.length := by omega
              have hI2 := hI'.took k' hkz
              have hGl := hI'.len
              have hsz1 : D + 4 ≤ w1.heap.size := by have := hkept.size; omega
              obtain ⟨i1, hi, hz0, hz1, hz2⟩ := info_parts Ybad.info5
              have hnews : ∀ j u, ((zs'.take k').map (Value.int .u8))[j]? = some u → w1.cell? ((⟨D + 3, 0, none⟩ : Addr).add j) = some u := by
                intro j u hj
                have hjk : j < k' := by have := (List.getElem?_eq_some_iff.1 hj).1; simp at this; omega
                have h1 := hcur' j hjk
                rw [show (⟨D + 3, 0, none⟩ : Addr).add j = ⟨D + 3, j, none⟩ from by simp [Addr.add]; omega, cell_of_row w1 (D + 3) j _ 5 (0, 0) hst'.buf]
                rw [List.getElem?_map, List.getElem?_take_of_lt hjk, List.getElem?_eq_getElem (by omega)] at hj
                simp at hj
                subst hj
                simp only [List.getElem?_toArray, h1]
                simp [List.getD_eq_getElem?_getD, List.getElem?_eq_getElem (show j < zs'.length by omega)]
              have HN : Hid (_ ∧ _) := ⟨hnews, hown1⟩
              have HY : Hid (_ ∧ _ ∧ _ ∧ _ ∧ _) := ⟨hbel', hst', hby', hI2, hcl'.trans hcl⟩
              have HB : Hid (G.length + k' ≤ 4096) := by show _ ≤ _; omega
              have HZ : Hid ((zs'.take k').length = k') := by show _ = _; simp; omega
              clear hnews hown0 hbelc hchc hec hD hown hbel hst hby hI hcl hcur' hown1 hI' hI2 hst' hby' hkept HX HR hGl hcl' hk' hzr he1
              go_wp2_with (at_builtin; refine wpList_append_own _ rfl (.tmp 140) (.tmp 143) 23 rfl (D + 4) 5 i1 (.int .u8 0) 1 1 Ybad.underlying23 hi hz0 hz1 hz2 rfl (by decide) _ G.length (G.map (Value.int .u8)) rfl HN.out.2 ⟨D + 3, 0, none⟩ k' 2 ((zs'.take k').map (Value.int .u8)) rfl ?b0 HN.out.1 (one_of_bytes _) ?b1 ?b2 ?b3 ?_)
              case b0 => rw [List.length_map, HZ.out, Nat.mul_one]
              case b1 => have := HB.out; unfold maxLen; omega
              case b2 => have := HB.out; omega
              case b3 => exact hsz1
              · intro v2 w2 hown2 hgrow _
                have hown2' : w2.ownsRow (D + 4) 5 1 v2 (G ++ zs'.take k').length ((G ++ zs'.take k').map (Value.int .u8)) := by
                  rw [List.length_append, HZ.out]
                  simpa using hown2
                obtain ⟨hbel', hst', hby', hI2, hcl2⟩ := HY.out
                have hown1 := HN.out.2
                have hbel2 : Below D w0 w2 := hbel'.grown hgrow (by omega) (fun k hk => by have := ownBlock_ge hown1 k hk; omega)
                have hst2 : RdZ D w.heap.size w2 i' c' v' eof' (rd' + k') cur' := hst'.carry (fun k h1 h2 => hgrow.block k (by omega) (fun e => by have := ownBlock_ge hown1 k e.symm; omega))
                have hsz2 : D + 4 ≤ w2.heap.size := by have := hgrow.size; omega
                have HF : Hid (_ ∧ _ ∧ _ ∧ _ ∧ _ ∧ _) := ⟨hown2', hbel2, hst2, hby', hI2, hcl2⟩
                clear hown2 hown2' hgrow HY HN hbel' hst' hby' hI2 hown1 hbel2 hst2 hcl2 HB HZ he2 heq hi hz0 hz1 hz2 hkk hkz hsz1
                go_wp2
                go_roundg (Z.length - (t + 1))
                case measure => omega
                case rel =>
                  obtain ⟨hown2', hbel2, hst2, hby2, hI2, hcl2⟩ := HF.out
                  exact ⟨t + 1, _, i', c', _, _, eof', _, cur', by omega, by go_num, hown2', hbel2, hsz2, hst2, hby2, hI2, hcl2⟩
        · have hg2 := hown
          have hw2 := ownsRow_below hown0 hD hbel
          obtain ⟨a1, p1, rfl⟩ := own_form hg2
          obtain ⟨a2, p2, rfl⟩ := own_form hw2
          have HP : Hid _ := heads_own (M := zs ++ Pl.rest C eof i) hg2 (by rw [← List.append_assoc, hI.1]; exact hw2)
          have HZ : Hid _ := hbB
          clear hown hbel hst hby hI hcl hown0 hbelc hchc hec hD hbB hg2 hw2
          go_wp2_with fail
          refine Calls.mono HP.out ?_
          rintro e w3 ⟨rfl, q, rfl⟩
          go_wp2
          go_ret
          exact ⟨rfl, Below.drewN' HZ.out q⟩
end Go.Proofs.YbulkryuDoor
