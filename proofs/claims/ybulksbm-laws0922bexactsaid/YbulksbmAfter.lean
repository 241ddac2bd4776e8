import Derived.Test.YbulksbmPoint
import Derived.Lib.MinMax
namespace Go.Proofs.Ybulksbm
open Go.RowKit

/-- The end that the points up to K give. -/
def endAt (E : Nat → Nat) (K : Nat) : Nat := if K = 0 then 0 else E (K - 1)

theorem endAt_le {E : Nat → Nat} {m n K : Nat} (hE : ∀ i, i < m → E i ≤ n) (hK : K ≤ m) : endAt E K ≤ n := by
  unfold endAt
  split
  · omega
  · exact hE _ (by omega)

/-- What is left of the log: however the cut is spelled. -/
def LogCut (Bl n lo hi : Nat) (v : Value) : Prop := ∃ a, v = .slice a (hi - lo) (n - lo) ∧ (lo < n → a = some ⟨Bl, lo * 2, none⟩)

theorem c6 (Bs Bp Bq Bl f m n : Nat) (P : Nat → Int) (E : Nat → Nat) (bv : Value) (hp start own : Int) (K1 K2 : Nat) (w : World) (hf1 : 1 ≤ f) (hf2 : f ≤ 2) (hm : m ≤ 1024) (hn : n ≤ 1024)
    (s0 : w.cell? ⟨Bs, 0, none⟩ = some (.slice (some ⟨Bp, 0, none⟩) 3 3))
    (p0 : w.cell? ⟨Bp, f * 16 + 4, none⟩ = some bv) (p1 : w.cell? ⟨Bp, f * 16 + 4 + 1, none⟩ = some (.int .i64 hp))
    (p2 : w.cell? ⟨Bp, f * 16 + 4 + 2, none⟩ = some (.slice (some ⟨Bl, 0, none⟩) n n)) (p3 : w.cell? ⟨Bp, f * 16 + 4 + 3, none⟩ = some (.slice (some ⟨Bq, 0, none⟩) m m))
    (hpts : PtsAt Bq m P E w) (hK1 : IsCut m P start K1) (own' : Int) (hown2 : wrap64 (own - 1) = own') (hK2 : IsCut m P own' K2) (hE : ∀ i, i < m → E i ≤ n)
    (lo hi mx : Nat) (hmx : mx = max lo hi) (hlo : lo = if start < hp then 0 else endAt E K1) (hhi : hi = endAt E K2) :
    Calls Yba.prog 6 #[.pointer (some ⟨Bs, 0, none⟩), .int .i64 f, .int .i64 start, .int .i64 own] w fun e w' => (∃ v, LogCut Bl n lo mx v ∧ e = .returned (.tuple #[if start < hp then bv else .slice none 0 0, v])) ∧ ∃ q, w' = w.drewN q := by
  have HP : Hid (_ ∧ _ ∧ _ ∧ _) := ⟨hpts, hK1, hK2, hE⟩
  have hlon : lo ≤ n := by
    rw [hlo]; split
    · omega
    · exact endAt_le hE hK1.1
  have hhin : hi ≤ n := by rw [hhi]; exact endAt_le hE hK2.1
  have HL : Hid (_ ∧ _) := ⟨hlo, hhi⟩
  have HMX : Hid _ := hmx
  clear hmx
  have H8a : Hid _ := c8 Bq m m P E start K1 w hm hpts hK1
  have H8b : Hid _ := c8 Bq m m P E own' K2 w hm hpts hK2
  obtain ⟨bw, hbw⟩ : ∃ bw, bw = if start < hp then bv else .slice none 0 0 := ⟨_, rfl⟩
  have HBW : Hid _ := hbw
  rw [← hbw]
  clear hpts hK1 hK2 hE hlo hhi hbw
  go_enter Yba.func6, Yba.ntmps6
  go_upto_if 27 with fail
  go_cut [8, 11, 12] from 27 to 48 (fun s8 s11 _ wx => s8 = bw ∧ s11 = .int .i64 lo ∧ wx = w)
  case first =>
    by_cases hs : start < hp
    · have h1 := HBW.out
      have h2 := HL.out.1
      rw [if_pos hs] at h1 h2
      subst h1
      subst h2
      go_wp2_with fail
      go_meet
      case rel => exact ⟨rfl, rfl, rfl⟩
    · have h1 := HBW.out
      have h2 := HL.out.1
      rw [if_neg hs] at h1 h2
      subst h1
      go_wp2_with fail
      refine Calls.mono H8a.out ?_
      rintro e w' ⟨rfl, rfl⟩
      rcases Nat.eq_zero_or_pos K1 with h0 | h0
      · subst h0
        have h3 : lo = 0 := h2
        clear h2
        subst h3
        go_wp2_with fail
        go_meet
        case rel => exact ⟨rfl, rfl, rfl⟩
      · have h3 : lo = E (K1 - 1) := by rw [h2]; unfold endAt; rw [if_neg (by omega)]
        have hk := HP.out.2.1.1
        obtain ⟨_, c2⟩ := HP.out.1 (K1 - 1) (by omega)
        rw [← h3] at c2
        obtain ⟨k, hk1⟩ : ∃ k, K1 = k + 1 := ⟨K1 - 1, by omega⟩
        subst hk1
        simp only [Nat.add_sub_cancel] at c2
        have hkm : (k : Int) < (m : Int) := by omega
        have e1 : ((k + 1 : Nat) : Int) - 1 = (k : Int) := by omega
        clear h2 h3
        go_wp2_with fail
        go_meet
        case rel => exact ⟨rfl, rfl, rfl⟩
  case rest =>
    obtain ⟨rfl, rfl, rfl⟩ := hcut
    rename World => w
    clear H8a HBW
    go_wp2_with fail
    refine Calls.mono H8b.out ?_
    rintro e w' ⟨rfl, rfl⟩
    rename World => w
    go_upto_if 57 with fail
    go_cut [13] from 57 to 66 (fun s13 wx => s13 = .int .i64 hi ∧ wx = w)
    case first =>
      have h2 := HL.out.2
      rcases Nat.eq_zero_or_pos K2 with h0 | h0
      · subst h0
        have h3 : hi = 0 := h2
        clear h2
        subst h3
        go_wp2_with fail
        go_meet
        case rel => exact ⟨rfl, rfl⟩
      · have h3 : hi = E (K2 - 1) := by rw [h2]; unfold endAt; rw [if_neg (by omega)]
        have hk := HP.out.2.2.1.1
        obtain ⟨_, c2⟩ := HP.out.1 (K2 - 1) (by omega)
        rw [← h3] at c2
        obtain ⟨k, hk1⟩ : ∃ k, K2 = k + 1 := ⟨K2 - 1, by omega⟩
        subst hk1
        simp only [Nat.add_sub_cancel] at c2
        have hkm : (k : Int) < (m : Int) := by omega
        have e1 : ((k + 1 : Nat) : Int) - 1 = (k : Int) := by omega
        clear h2 h3
        go_wp2_with fail
        go_meet
        case rel => exact ⟨rfl, rfl⟩
    case rest =>
      obtain ⟨rfl, rfl⟩ := hcut
      rename World => w
      clear H8b HL HP
      have hmx := HMX.out
      have e1 : max (lo : Int) (hi : Int) = (mx : Int) := by omega
      have g1 : lo ≤ mx := by omega
      have g2 : mx ≤ n := by omega
      clear hmx
      have g3 : (lo : Int) ≤ (mx : Int) := by omega
      have g4 : (mx : Int) ≤ (n : Int) := by omega
      go_wp2_with fail
      go_region
      all_goals go_wp2_with fail
      all_goals go_ret2
      · exact ⟨⟨_, ⟨some ⟨Bl, 0, none⟩, by simp, fun h => absurd h (by omega)⟩, rfl⟩, 1, rfl⟩
      · exact ⟨⟨_, ⟨_, rfl, fun _ => rfl⟩, rfl⟩, 1, rfl⟩
end Go.Proofs.Ybulksbm
