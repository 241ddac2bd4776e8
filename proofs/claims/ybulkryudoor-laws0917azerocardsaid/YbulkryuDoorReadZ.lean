import Derived.Test.YbulkryuDoorYieldZ
namespace Go.Proofs.YbulkryuDoor
open Go.RowKit

/-- The reader's state in Zero: the captured variables, the reader's own four cells, the buffer. -/
structure RdZ (D cb : Nat) (w : World) (i c : Nat) (v : Value) (eof : Bool) (rd : Nat) (cur : List Value) : Prop where
  env : EnvZ D w i c
  rdr : w.heap[D + 2]? = some (.cells #[v, .bool eof, .int .i64 rd, .func (.func 8) #[] #[.pointer (some ⟨D + 1, 0, none⟩), .pointer (some ⟨D, 0, none⟩), .pointer (some ⟨cb, 0, none⟩)]] 35 (0, 0))
  buf : w.heap[D + 3]? = some (.cells cur.toArray 5 (0, 0))

theorem RdZ.drewN {D cb : Nat} {w : World} {i c : Nat} {v : Value} {eof : Bool} {rd : Nat} {cur : List Value} (h : RdZ D cb w i c v eof rd cur) (q : Nat) : RdZ D cb (w.drewN q) i c v eof rd cur :=
  ⟨⟨h.env.idx, h.env.calls⟩, h.rdr, h.buf⟩

theorem RdZ.carry {D cb : Nat} {w w' : World} {i c : Nat} {v : Value} {eof : Bool} {rd : Nat} {cur : List Value} (h : RdZ D cb w i c v eof rd cur) (hk : ∀ k, D ≤ k → k < D + 4 → w'.heap[k]? = w.heap[k]?) : RdZ D cb w' i c v eof rd cur :=
  ⟨⟨(hk _ (by omega) (by omega)).trans h.env.idx, (hk _ (by omega) (by omega)).trans h.env.calls⟩,
    (hk _ (by omega) (by omega)).trans h.rdr, (hk _ (by omega) (by omega)).trans h.buf⟩

theorem RdZ.stored {D cb : Nat} {w : World} {i c : Nat} {x0 x1 x2 : Value} {cur : List Value} (henv : EnvZ D w i c)
    (hr : w.heap[D + 2]? = some (.cells #[x0, x1, x2, .func (.func 8) #[] #[.pointer (some ⟨D + 1, 0, none⟩), .pointer (some ⟨D, 0, none⟩), .pointer (some ⟨cb, 0, none⟩)]] 35 (0, 0)))
    (hb : w.heap[D + 3]? = some (.cells cur.toArray 5 (0, 0))) (v : Value) (e : Bool) :
    RdZ D cb (((w.setCell ⟨D + 2, 0, none⟩ v).setCell ⟨D + 2, 1, none⟩ (.bool e)).setCell ⟨D + 2, 2, none⟩ (.int .i64 0)) i c v e 0 cur :=
  ⟨⟨blk_other (blk_other (blk_other henv.idx (by simp)) (by simp)) (by simp), blk_other (blk_other (blk_other henv.calls (by simp)) (by simp)) (by simp)⟩,
    (four_set (four_set (four_set hr v).1 (.bool e)).2.1 (.int .i64 0)).2.2, blk_other (blk_other (blk_other hb (by simp)) (by simp)) (by simp)⟩

/-- How a Read into a buffer that is not empty ends. -/
def OutZ (I : Nat → Nat → List Int → Bool → Nat → Prop) (w0 ws : World) (D cb : Nat) (ev : Value) (sz : Nat) (cur : List Value) (e : Ending) (w' : World) : Prop :=
  Kept D 4 ws w' ∧ ((e = .returned (.tuple #[.int .i64 0, ev]) ∧ ∃ i c v rd, RdZ D cb w' i c v true rd cur ∧ Bytes D w0 v [] ∧ I i c [] true rd) ∨
    (∃ i c v zs eof rd k cur', k = min zs.length sz ∧ 1 ≤ k ∧ e = .returned (.tuple #[.int .i64 k, .nilIface]) ∧ RdZ D cb w' i c v eof (rd + k) cur' ∧ Bytes D w0 v (zs.drop k) ∧ I i c zs eof rd ∧
      cur'.length = cur.length ∧ ∀ j, j < k → cur'[j]? = some (.int .u8 (zs.getD j 0))))

/-- The state behind a copy, a cut and a count. -/
theorem RdZ.copied {D cb : Nat} {w : World} {i c : Nat} {v : Value} {eof : Bool} {rd : Nat} {cur : List Value} (h : RdZ D cb w i c v eof rd cur) (R : List Value) (v' : Value) (k : Nat) :
    RdZ D cb (((w.setRow (D + 3) R.toArray).setCell ⟨D + 2, 0, none⟩ v').setCell ⟨D + 2, 2, none⟩ (.int .i64 (rd + k))) i c v' eof (rd + k) R :=
  ⟨⟨blk_other (blk_other (blk_setRow h.env.idx (by simp)) (by simp)) (by simp), blk_other (blk_other (blk_setRow h.env.calls (by simp)) (by simp)) (by simp)⟩,
    (four_set (four_set (blk_setRow h.rdr (by simp)) v').1 (.int .i64 (rd + k))).2.2, blk_other (blk_other (setRow_heap w (D + 3) _ _ 5 _ h.buf) (by simp)) (by simp)⟩

set_option maxHeartbeats 1000000 in
theorem readZ (I : Nat → Nat → List Int → Bool → Nat → Prop) {w0 : World} {D cb : Nat} {cv : Value} {C : List (List Int × Bool)} (hC : Chunks D cb w0 cv C) {ti : TypeId} {ea : Addr} (he : w0.cell? ⟨0, 0, none⟩ = some (.iface ti (.pointer (some ea)))) (hD0 : 0 < D)
    (hmore : ∀ i c rd ch, I i c [] false rd → C[i]? = some ch → I (i + 1) (c + 1) ch.1 ch.2 0)
    (hlast : ∀ i c rd, I i c [] false rd → C.length ≤ i → I i (c + 1) [] true 0)
    (hbd : ∀ i c zs eof rd, I i c zs eof rd → c ≤ 300 ∧ zs.length + rd ≤ 9223372036854775807)
    {ws : World} (hk : Below D w0 ws) {i c : Nat} {v : Value} {zs : List Int} {eof : Bool} {rd : Nat} {cur : List Value} (hst : RdZ D cb ws i c v eof rd cur) (hby : Bytes D w0 v zs) (hI : I i c zs eof rd)
    (sz bc : Nat) (hsz : 1 ≤ sz) (hsz8 : sz ≤ 8) (hcur : sz ≤ cur.length) :
    Calls Ybad.prog 6 #[.pointer (some ⟨D + 2, 0, none⟩), .slice (some ⟨D + 3, 0, none⟩) sz bc] ws fun e w' =>
      OutZ I w0 ws D cb (.iface ti (.pointer (some ea))) sz cur e w' := by
  have hDs := lt_of_block hst.buf
  go_enter Ybad.func6, Ybad.ntmps6
  go_wp2
  go_loopg [] (C.length - i + (if eof then 0 else 1)) (fun g wx => ∃ i c v zs eof rd, g = C.length - i + (if eof then 0 else 1) ∧ Kept D 4 ws wx ∧ RdZ D cb wx i c v eof rd cur ∧ Bytes D w0 v zs ∧ I i c zs eof rd)
  case atStart => exact ⟨i, c, v, zs, eof, rd, rfl, Kept.refl _ _ _, hst, hby, hI⟩
  case round =>
    clear hst hby hI
    obtain ⟨i, c, v, zs, eof, rd, hg, hkept, ⟨henv, hrdr, hbuf⟩, hby, hI⟩ := hrel
    have HG : Hid (gk = C.length - i + (if eof then 0 else 1)) := hg
    clear hg
    have hlt := lt_of_block hbuf
    have hbel : Below D w0 wr := hk.trans (hkept.below (by omega))
    obtain ⟨hbd1, hbd2⟩ := hbd _ _ _ _ _ hI
    obtain ⟨a, cap, rfl, hcap1, hcap2, hcells⟩ := hby
    by_cases hz : zs = []
    · subst hz
      cases eof with
      | true =>
        obtain ⟨r0, r1, r2, r3, f0, f1, f2⟩ := four_cell hrdr
        have he' : wr.cell? ⟨0, 0, none⟩ = some (.iface ti (.pointer (some ea))) := by rw [hbel.cell (p := ⟨0, 0, none⟩) hD0]; exact he
        simp only [List.length_nil] at r0
        go_wp2
        go_quiet (fail)
        go_wp2
        go_ret2
        exact ⟨hkept.drewN _, Or.inl ⟨rfl, i, c, _, rd, RdZ.drewN ⟨henv, hrdr, hbuf⟩ _, ⟨a, cap, rfl, hcap1, hcap2, hcells⟩, hI⟩⟩
      | false =>
        obtain ⟨r0, r1, r2, r3, f0, f1, f2⟩ := four_cell hrdr
        simp only [List.length_nil] at r0
        have hbel1 : Below D w0 (wr.setCell ⟨D + 2, 0, none⟩ (.slice none 0 0)) := hbel.setCell (by simp) _
        have hC1 := hC.carry hbel1
        have hE1 : EnvZ D (wr.setCell ⟨D + 2, 0, none⟩ (.slice none 0 0)) i c := ⟨blk_other henv.idx (by simp), blk_other henv.calls (by simp)⟩
        have hr1 := (four_set hrdr (.slice none 0 0)).1
        have hb1 : (wr.setCell ⟨D + 2, 0, none⟩ (.slice none 0 0)).heap[D + 3]? = some (.cells cur.toArray 5 (0, 0)) := blk_other hbuf (by simp)
        have hk1 : Kept D 4 ws (wr.setCell ⟨D + 2, 0, none⟩ (.slice none 0 0)) := hkept.setCell (by simp) (by simp) _
        rcases Nat.lt_or_ge i C.length with hi | hi
        · obtain ⟨ch, hch⟩ : ∃ ch, C[i]? = some ch := ⟨C[i], List.getElem?_eq_getElem hi⟩
          have hy := yieldZ_more hC1 hE1 hch (by omega)
          have HY : Hid _ := hy
          clear hy
          have HS : Hid (_ ∧ _ ∧ _ ∧ _) := ⟨hbel1, hr1, hb1, hk1⟩
          clear hC1 hE1 hr1 hb1 hbel1 hk1
          have HC : Hid _ := hch
          clear hch
          go_wp2_with fail
          refine Calls.mono HY.out ?_
          rintro e w1 ⟨p, cp, rfl, hby1, henv1, hkk⟩
          obtain ⟨hbel1, hr1, hb1, hk1⟩ := HS.out
          have hr2 := hkk.blk hr1 (by omega)
          have hb2 := hkk.blk hb1 (by omega)
          have hk2 : Kept D 4 ws w1 := hk1.trans (hkk.wider (by omega) (by omega))
          obtain ⟨q0, q1, q2, q3, qf0, qf1, qf2⟩ := four_cell hr2
          clear r0 r1 r2 r3 f0 f1 f2
          go_wp2_with fail
          go_roundg (C.length - (i + 1) + (if ch.2 then 0 else 1))
          case measure => rw [HG.out]; cases ch.2 <;> simp <;> omega
          case rel =>
            have hI2 := hmore i c rd ch hI HC.out
            exact ⟨i + 1, c + 1, _, ch.1, ch.2, 0, rfl, ((hk2.setCell (by simp) (by simp) _).setCell (by simp) (by simp) _).setCell (by simp) (by simp) _, RdZ.stored henv1 hr2 hb2 _ _, hby1.back hbel1, hI2⟩
        · have hy := yieldZ_last hC1 hE1 hi (by omega)
          have HY : Hid _ := hy
          clear hy
          have HS : Hid (_ ∧ _ ∧ _ ∧ _) := ⟨hbel1, hr1, hb1, hk1⟩
          clear hC1 hE1 hr1 hb1 hbel1 hk1
          go_wp2_with fail
          refine Calls.mono HY.out ?_
          rintro e w1 ⟨rfl, henv1, hkk⟩
          obtain ⟨hbel1, hr1, hb1, hk1⟩ := HS.out
          have hr2 := hkk.blk hr1 (by omega)
          have hb2 := hkk.blk hb1 (by omega)
          have hk2 : Kept D 4 ws w1 := hk1.trans (hkk.wider (by omega) (by omega))
          obtain ⟨q0, q1, q2, q3, qf0, qf1, qf2⟩ := four_cell hr2
          clear r0 r1 r2 r3 f0 f1 f2
          go_wp2_with fail
          go_roundg 0
          case measure => rw [HG.out]; simp
          case rel =>
            have hI2 := hlast i c rd hI hi
            exact ⟨i, c + 1, _, [], true, 0, by simp; omega, ((hk2.setCell (by simp) (by simp) _).setCell (by simp) (by simp) _).setCell (by simp) (by simp) _, RdZ.stored henv1 hr2 hb2 _ _, Bytes.nil _ _, hI2⟩
    · have hzl : 0 < zs.length := List.length_pos_iff.2 hz
      obtain ⟨b, off, rfl, hb, hc⟩ := hcells hzl
      obtain ⟨r0, r1, r2, r3, f0, f1, f2⟩ := four_cell hrdr
      have hz0 : ((zs.length : Int) == 0) = false := by simp; exact hz
      obtain ⟨k, hk0⟩ : ∃ k, k = min zs.length sz := ⟨_, rfl⟩
      have hk1 : k ≤ zs.length := by omega
      have hk2 : k ≤ sz := by omega
      have hk3 : 1 ≤ k := by omega
      obtain ⟨cs, hcs⟩ : ∃ cs : List Value, cs = (zs.take k).map (Value.int .u8) := ⟨_, rfl⟩
      have hcl : cs.length = k := by subst hcs; simp; omega
      obtain ⟨R, hR⟩ : ∃ R, R = cs ++ cur.drop k := ⟨_, rfl⟩
      have hsrc : ∀ j u, cs[j]? = some u → wr.cell? ((⟨b, off, none⟩ : Addr).add j) = some u := by
        intro j u hj
        have hjl : j < k := by rw [← hcl]; exact (List.getElem?_eq_some_iff.1 hj).1
        have := hc j (by omega)
        rw [show (⟨b, off, none⟩ : Addr).add j = ⟨b, off + j, none⟩ from by simp [Addr.add], hbel.cell (p := ⟨b, off + j, none⟩) hb, this]
        subst hcs
        rw [List.getElem?_map, List.getElem?_take_of_lt hjl, List.getElem?_eq_getElem (by omega)] at hj
        simp at hj
        subst hj
        simp [List.getD_eq_getElem?_getD, List.getElem?_eq_getElem (show j < zs.length by omega)]
      have hone : ∀ u ∈ cs, u.oneCell' = true := by
        intro u hu
        subst hcs
        obtain ⟨z, _, rfl⟩ := List.mem_map.1 hu
        rfl
      obtain ⟨t0, t1, t2, t3, tf0, tf1, tf2⟩ := four_cell (blk_setRow (g := D + 3) (cs := R.toArray) hrdr (by omega))
      have hrun := run_copy_named (P := Ybad.prog) 23 23 3 5 Ybad.underlying23 (by kernel_rfl) (D + 3) sz bc ⟨b, off, none⟩ zs.length cap cur 5 hbuf cs k hcl hk0 hsrc (by omega) hone R hR
      have HS : Hid (_ ∧ _) := ⟨hcl, hR⟩
      have HZ : Hid _ := hcs
      have HK : Hid _ := hk0
      have HC : Hid _ := hc
      clear hcl hsrc hone hR hcs hk0 hc
      have hfin : ∀ (a' : Option Addr) (c' : Nat), (k < cap → a' = some ⟨b, off + k, none⟩) → c' = cap - k →
          OutZ I w0 ws D cb (.iface ti (.pointer (some ea))) sz cur (.returned (.tuple #[.int .i64 k, .nilIface])) (((wr.setRow (D + 3) R.toArray).setCell ⟨D + 2, 0, none⟩ (.slice a' (zs.length - k) c')).setCell ⟨D + 2, 2, none⟩ (.int .i64 (rd + k))) := by
        intro a' c' ha hc'
        refine ⟨((hkept.setRow (by omega) (by omega) _).setCell (by simp) (by simp) _).setCell (by simp) (by simp) _, Or.inr ⟨i, c, _, zs, eof, rd, k, R, HK.out, hk3, rfl, RdZ.copied ⟨henv, hrdr, hbuf⟩ R _ k, ?_, hI, ?_, ?_⟩⟩
        · exact Bytes.cut hk1 hcap1 hcap2 hb HC.out ha rfl hc'
        · obtain ⟨x1, x2⟩ := HS.out
          rw [x2, List.length_append, x1, List.length_drop]; omega
        · intro j hj
          obtain ⟨x1, x2⟩ := HS.out
          have hz' := HZ.out
          rw [x2, List.getElem?_append_left (by omega), hz', List.getElem?_map, List.getElem?_take_of_lt hj, List.getElem?_eq_getElem (by omega)]
          simp [List.getD_eq_getElem?_getD, List.getElem?_eq_getElem (show j < zs.length by omega)]
      have HF : Hid _ := hfin
      clear hfin
      go_wp2
      · go_ret2
        have hck : cap = k := by assumption
        exact HF.out _ _ (fun h => absurd hck (by omega)) (by omega)
      · go_ret2
        exact HF.out _ _ (fun _ => rfl) rfl
end Go.Proofs.YbulkryuDoor
