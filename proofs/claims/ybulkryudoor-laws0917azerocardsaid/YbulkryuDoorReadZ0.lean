import Derived.Test.YbulkryuDoorReadZ
namespace Go.Proofs.YbulkryuDoor
open Go.RowKit

/-- How a Read into an empty buffer ends: the state is as it was. -/
def OutZ0 (w0 ws : World) (D cb : Nat) (ev : Value) (i c : Nat) (zs : List Int) (eof : Bool) (rd : Nat) (cur : List Value) (e : Ending) (w' : World) : Prop :=
  Kept D 4 ws w' ∧ (e = .returned (.tuple #[.int .i64 0, if zs.isEmpty && eof then ev else .nilIface])) ∧ ∃ v', RdZ D cb w' i c v' eof rd cur ∧ Bytes D w0 v' zs

theorem RdZ.same {D cb : Nat} {w : World} {i c : Nat} {v : Value} {eof : Bool} {rd : Nat} {cur : List Value} (h : RdZ D cb w i c v eof rd cur) (v' : Value) :
    RdZ D cb ((w.setCell ⟨D + 2, 0, none⟩ v').setCell ⟨D + 2, 2, none⟩ (.int .i64 rd)) i c v' eof rd cur :=
  ⟨⟨blk_other (blk_other h.env.idx (by simp)) (by simp), blk_other (blk_other h.env.calls (by simp)) (by simp)⟩,
    (four_set (four_set h.rdr v').1 (.int .i64 rd)).2.2, blk_other (blk_other h.buf (by simp)) (by simp)⟩

set_option maxHeartbeats 1000000 in
theorem readZ0 {w0 : World} {D cb : Nat} {ti : TypeId} {ea : Addr} (he : w0.cell? ⟨0, 0, none⟩ = some (.iface ti (.pointer (some ea)))) (hD0 : 0 < D)
    {ws : World} (hk : Below D w0 ws) {i c : Nat} {v : Value} {zs : List Int} {eof : Bool} {rd : Nat} {cur : List Value} (hst : RdZ D cb ws i c v eof rd cur) (hby : Bytes D w0 v zs)
    (hrd : zs.length + rd ≤ 9223372036854775807) (bc : Nat) :
    Calls Ybad.prog 6 #[.pointer (some ⟨D + 2, 0, none⟩), .slice (some ⟨D + 3, 0, none⟩) 0 bc] ws fun e w' =>
      OutZ0 w0 ws D cb (.iface ti (.pointer (some ea))) i c zs eof rd cur e w' := by
  have hDs := lt_of_block hst.buf
  obtain ⟨a, cap, rfl, hcap1, hcap2, hcells⟩ := hby
  obtain ⟨r0, r1, r2, r3, f0, f1, f2⟩ := four_cell hst.rdr
  have he' : ws.cell? ⟨0, 0, none⟩ = some (.iface ti (.pointer (some ea))) := by rw [hk.cell (p := ⟨0, 0, none⟩) hD0]; exact he
  by_cases hz : zs = []
  · subst hz
    simp only [List.length_nil] at r0
    cases eof with
    | true =>
      have HF : Hid (∀ q, OutZ0 w0 ws D cb (.iface ti (.pointer (some ea))) i c [] true rd cur (.returned (.tuple #[.int .i64 0, .iface ti (.pointer (some ea))])) (ws.drewN q)) :=
        fun q => ⟨(Kept.refl _ _ _).drewN q, rfl, _, hst.drewN q, ⟨a, cap, rfl, hcap1, hcap2, hcells⟩⟩
      clear hst hcells hk he
      go_enter Ybad.func6, Ybad.ntmps6
      go_wp2
      refine wp_loop_rounds 1 ?_
      rw [rounds_succ]
      go_wp2
      go_quiet (fail)
      go_wp2
      go_ret2
      exact HF.out _
    | false =>
      have HF : Hid (OutZ0 w0 ws D cb (.iface ti (.pointer (some ea))) i c [] false rd cur (.returned (.tuple #[.int .i64 0, .nilIface])) ws) :=
        ⟨Kept.refl _ _ _, rfl, _, hst, ⟨a, cap, rfl, hcap1, hcap2, hcells⟩⟩
      clear hst hcells hk he
      go_enter Ybad.func6, Ybad.ntmps6
      go_wp2
      refine wp_loop_rounds 1 ?_
      rw [rounds_succ]
      go_wp2
      go_ret2
      exact HF.out
  · have hzl : 0 < zs.length := List.length_pos_iff.2 hz
    obtain ⟨b, off, rfl, hb, hc⟩ := hcells hzl
    have hz0 : ((zs.length : Int) == 0) = false := by simp; exact hz
    have hrun := run_copy_none (P := Ybad.prog) ws 23 23 3 5 (some ⟨D + 3, 0, none⟩) (some ⟨b, off, none⟩) 0 bc zs.length cap Ybad.underlying23 (by kernel_rfl) (by exact Nat.min_eq_right (Nat.zero_le _))
    have hze : zs.isEmpty = false := by cases zs <;> simp_all
    have HF : Hid (OutZ0 w0 ws D cb (.iface ti (.pointer (some ea))) i c zs eof rd cur (.returned (.tuple #[.int .i64 0, .nilIface])) ((ws.setCell ⟨D + 2, 0, none⟩ (.slice (some ⟨b, off, none⟩) zs.length cap)).setCell ⟨D + 2, 2, none⟩ (.int .i64 rd))) :=
      ⟨((Kept.refl _ _ _).setCell (by simp) (by simp) _).setCell (by simp) (by simp) _, by rw [hze]; rfl, _, hst.same _, ⟨_, cap, rfl, hcap1, hcap2, hcells⟩⟩
    clear hst hcells hk he hc hze
    go_enter Ybad.func6, Ybad.ntmps6
    go_wp2
    refine wp_loop_rounds 1 ?_
    rw [rounds_succ]
    go_wp2
    go_ret2
    exact HF.out
end Go.Proofs.YbulkryuDoor
