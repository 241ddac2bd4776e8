import Derived.Test.YbulkryuYield
namespace Go.Proofs.Ybulkryu
open Go.RowKit

/-- The items that came in. -/
def ItemsIn (B : Nat) (w : World) (ia : Option Addr) (Z : List Int) : Prop :=
  0 < Z.length → ∃ b off, ia = some ⟨b, off, none⟩ ∧ b < B ∧ ∀ j, j < Z.length → w.cell? ⟨b, off + j, none⟩ = some (.int .i64 (Z.getD j 0))

theorem ItemsIn.carry {B : Nat} {w w' : World} {ia : Option Addr} {Z : List Int} (h : ItemsIn B w ia Z) (hb : Below B w w') : ItemsIn B w' ia Z := by
  intro hp
  obtain ⟨b, off, e1, e2, e3⟩ := h hp
  exact ⟨b, off, e1, e2, fun j hj => by rw [hb.cell (p := ⟨b, off + j, none⟩) e2]; exact e3 j hj⟩

/-- What f gathers. -/
def accTo (seed : Int) : List Int → Int → Int
  | [], a => a
  | z :: r, a => accTo seed r (wrap64 (a + bits .xor .i64 z seed))

theorem accTo_snoc (seed : Int) : ∀ (L : List Int) (z a : Int), accTo seed (L ++ [z]) a = wrap64 (accTo seed L a + bits .xor .i64 z seed)
  | [], _, _ => rfl
  | y :: r, z, a => by
    show accTo seed (r ++ [z]) _ = _
    rw [accTo_snoc seed r z]
    rfl

theorem take_succ (Z : List Int) (j : Nat) (h : j < Z.length) : Z.take (j + 1) = Z.take j ++ [Z.getD j 0] := by
  rw [List.take_succ_eq_append_getElem h]
  simp [List.getD_eq_getElem?_getD, List.getElem?_eq_getElem h]

/-- What the law's own panic carries. -/
def markP (B : Nat) : Value := .iface 58 (.pointer (some ⟨B + 3, 0, none⟩))

/-- How f ends where nothing is canceled. -/
def OutF (B : Nat) (w : World) (Z : List Int) (k : Nat) (seed : Int) (boom : Bool) (e : Ending) (w' : World) : Prop :=
  KeptS B w w' ∧ ((Z.length ≤ k ∧ Log B w' Z ∧ e = if boom then .panicked [{ v := markP B, recovered := false }] else .returned (.int .i64 (accTo seed Z seed))) ∨
    (k < Z.length ∧ Log B w' (Z.take (k + 1)) ∧ e = .panicked [{ v := cancelP B, recovered := false }]))

set_option maxHeartbeats 1000000 in
theorem f_plain {B : Nat} {w : World} {ia : Option Addr} {icap : Nat} {Z : List Int} {boom : Bool} {k : Nat} {seed : Int} (hE : Env B w (.slice ia Z.length icap) boom k 0 seed) (hI : ItemsIn B w ia Z) (hn : Z.length ≤ 1024) (hL : Log B w []) :
    Calls Yba.prog 10 #[.int .i64 seed, .func (.func 20) #[] #[.pointer (some ⟨B + 8, 0, none⟩), .pointer (some ⟨B + 9, 0, none⟩)], .pointer (some ⟨B, 0, none⟩), .pointer (some ⟨B + 1, 0, none⟩), .pointer (some ⟨B + 4, 0, none⟩)] w
      fun e w' => OutF B w Z k seed boom e w' := by
  go_enter Yba.func10, Yba.ntmps10
  go_wp2
  go_loopg [8, 9] Z.length (fun g a i wx => ∃ j : Nat, j + g = Z.length ∧ j ≤ k ∧ i = .int .i64 j ∧ a = .int .i64 (accTo seed (Z.take j) seed) ∧ Log B wx (Z.take j) ∧ KeptS B w wx)
  case atStart => exact ⟨0, by omega, by omega, rfl, rfl, by simpa using hL, KeptS.refl _ _⟩
  case round =>
    clear hL
    obtain ⟨j, hj, hjk, rfl, rfl, hlog, hkept⟩ := hrel
    have hE1 := hE.kept hkept
    have hI1 := hI.carry hkept.below
    have c0 := cell_of_one hE1.items
    have c1 := cell_of_one hE1.boomv
    have c4 := cell_of_one hE1.markv
    by_cases hlt : j < Z.length
    · obtain ⟨b, off, rfl, hb, hc⟩ := hI1 (by omega)
      have hcj := hc j hlt
      have hts := take_succ Z j hlt
      have hlj : (Z.take j).length = j := by simp; omega
      have HY : Hid _ := yield_plain (Z.getD j 0) hE1 hlog (by omega)
      generalize hz : Z.getD j 0 = z at *
      have HT : Hid (_ ∧ _) := ⟨hts, hlj⟩
      have HA : Hid _ := accTo_snoc seed (Z.take j) z seed
      generalize hacc : accTo seed (Z.take j) seed = a at *
      have HK : Hid _ := hkept
      clear hts hlj hz hacc hE1 hI1 hc hlog hkept
      have hE' : Hid _ := hE
      have hI' : Hid _ := hI
      clear hE hI
      go_wp2_with fail
      refine Calls.mono HY.out ?_
      rintro e w1 ⟨hlog1, hkept1, rfl⟩
      have hE2 := (hE'.out.kept HK.out).kept hkept1
      have d0 := cell_of_one hE2.items
      have hcj1 : w1.cell? ⟨b, off + j, none⟩ = some (.int .i64 z) := by rw [hkept1.below.cell (p := ⟨b, off + j, none⟩) hb]; exact hcj
      have HL : Hid (_ ∧ _) := ⟨hlog1, hkept1⟩
      clear hE2 hlog1 hkept1 hcj c0 c1 c4
      obtain ⟨hts, hlj⟩ := HT.out
      rw [hlj]
      clear hts hlj
      by_cases hk1 : j + 1 ≤ k
      · rw [if_pos hk1]
        go_wp2
        go_roundg (Z.length - (j + 1))
        case measure => omega
        case rel =>
          obtain ⟨hts, hlj⟩ := HT.out
          refine ⟨j + 1, by omega, hk1, by go_num, ?_, ?_, HK.out.trans HL.out.2⟩
          · rw [hts, HA.out]
          · rw [hts]; exact HL.out.1
      · rw [if_neg hk1]
        go_wp2
        refine ⟨rfl, HK.out.trans HL.out.2, Or.inr ⟨by omega, ?_, rfl⟩⟩
        obtain ⟨hts, hlj⟩ := HT.out
        have : k = j := by omega
        rw [this, hts]
        exact HL.out.1
    · have hjn : Z.take j = Z := List.take_of_length_le (by omega)
      rw [hjn] at hlog
      rw [hjn]
      have HK : Hid (_ ∧ _) := ⟨hlog, hkept⟩
      clear hE hI hE1 hI1 hlog hkept hjn
      cases boom with
      | true =>
        go_wp2
        exact ⟨rfl, HK.out.2, Or.inl ⟨by omega, HK.out.1, rfl⟩⟩
      | false =>
        go_wp2
        go_ret
        exact ⟨HK.out.2, Or.inl ⟨by omega, HK.out.1, rfl⟩⟩

/-- How f ends where the coroutine is canceled from the start. -/
def OutC (B : Nat) (w : World) (Z : List Int) (seed : Int) (boom : Bool) (e : Ending) (w' : World) : Prop :=
  w' = w ∧ ((Z.length = 0 ∧ e = if boom then .panicked [{ v := markP B, recovered := false }] else .returned (.int .i64 seed)) ∨
    (0 < Z.length ∧ e = .panicked [{ v := cancelP B, recovered := false }]))

set_option maxHeartbeats 1000000 in
theorem f_canceled {B : Nat} {w : World} {ia : Option Addr} {icap : Nat} {Z : List Int} {boom : Bool} {k : Nat} {seed : Int} (hE : Env B w (.slice ia Z.length icap) boom k 2 seed) (hI : ItemsIn B w ia Z) (hn : Z.length ≤ 1024) :
    Calls Yba.prog 10 #[.int .i64 seed, .func (.func 20) #[] #[.pointer (some ⟨B + 8, 0, none⟩), .pointer (some ⟨B + 9, 0, none⟩)], .pointer (some ⟨B, 0, none⟩), .pointer (some ⟨B + 1, 0, none⟩), .pointer (some ⟨B + 4, 0, none⟩)] w
      fun e w' => OutC B w Z seed boom e w' := by
  have c0 := cell_of_one hE.items
  have c1 := cell_of_one hE.boomv
  have c4 := cell_of_one hE.markv
  by_cases hlt : 0 < Z.length
  · obtain ⟨b, off, rfl, hb, hc⟩ := hI (by omega)
    have hcj := hc 0 hlt
    simp only [Nat.add_zero] at hcj
    have HY : Hid _ := yield_canceled (Z.getD 0 0) hE
    generalize Z.getD 0 0 = z at *
    clear hE hI hc
    go_enter Yba.func10, Yba.ntmps10
    go_wp2
    refine wp_loop_rounds 1 ?_
    rw [rounds_succ]
    go_wp2_with fail
    refine Calls.mono HY.out ?_
    rintro e w1 ⟨rfl, rfl⟩
    go_wp2
    exact ⟨rfl, rfl, Or.inr ⟨hlt, rfl⟩⟩
  · have hz0 : Z.length = 0 := by omega
    rw [hz0] at c0
    clear hE hI
    cases boom with
    | true =>
      go_enter Yba.func10, Yba.ntmps10
      go_wp2
      refine wp_loop_rounds 1 ?_
      rw [rounds_succ]
      go_wp2
      exact ⟨rfl, rfl, Or.inl ⟨by omega, rfl⟩⟩
    | false =>
      go_enter Yba.func10, Yba.ntmps10
      go_wp2
      refine wp_loop_rounds 1 ?_
      rw [rounds_succ]
      go_wp2
      go_ret
      exact ⟨rfl, Or.inl ⟨by omega, rfl⟩⟩
end Go.Proofs.Ybulkryu
