import Derived.Test.YbulksbmChecked
import Derived.WalkKit
import Derived.WalkSpells
import Derived.WalkLawsBesides
import Derived.Deep.LoopGhost
import Derived.Deep.QuietTactic
import Derived.BigQuiet
import Derived.Deep.CutBlock
import Derived.Deep.DeepCutAuto
import Derived.RegionTactic
namespace Go.Proofs.Ybulksbm
open Go.RowKit

/-- The points in their row: place and end of each. -/
def PtsAt (Bq m : Nat) (P : Nat → Int) (E : Nat → Nat) (w : World) : Prop :=
  ∀ i, i < m → w.cell? ⟨Bq, i * 2, none⟩ = some (.int .i64 (P i)) ∧ w.cell? ⟨Bq, i * 2 + 1, none⟩ = some (.int .i64 (E i : Int))

/-- Where the points behind x begin. -/
def IsCut (m : Nat) (P : Nat → Int) (x : Int) (K : Nat) : Prop := K ≤ m ∧ (∀ i, i < K → P i ≤ x) ∧ ∀ i, K ≤ i → i < m → x < P i

theorem c8 (Bq m c : Nat) (P : Nat → Int) (E : Nat → Nat) (x : Int) (K : Nat) (w : World) (hm : m ≤ 1024) (hp : PtsAt Bq m P E w) (hK : IsCut m P x K) :
    Calls Yba.prog 8 #[.slice (some ⟨Bq, 0, none⟩) m c, .int .i64 x] w fun e w' => e = .returned (.int .i64 K) ∧ w' = w := by
  have HP : Hid (_ ∧ _) := ⟨hp, hK⟩
  clear hp hK
  go_enter Yba.func8, Yba.ntmps8
  go_wp2_with fail
  go_loopg [5, 6] m (fun g s5 s6 wx => ∃ lo hi : Nat, s5 = .int .i64 lo ∧ s6 = .int .i64 hi ∧ g = hi - lo ∧ lo ≤ K ∧ K ≤ hi ∧ hi ≤ m ∧ wx = w)
  case atStart => exact ⟨0, m, rfl, rfl, by omega, by omega, HP.out.2.1, by omega, rfl⟩
  case round =>
    obtain ⟨lo, hi, rfl, rfl, hg, h1, h2, h3, rfl⟩ := hrel
    rename World => w
    by_cases h : lo < hi
    · obtain ⟨mid, hmid⟩ : ∃ mid, mid = (lo + hi) / 2 := ⟨_, rfl⟩
      have b1 : (lo : Int) < (hi : Int) := by omega
      have l1 : lo ≤ mid := by omega
      have l2 : mid < hi := by omega
      have e1 : ((lo : Int) + (hi : Int)) / 2 = (mid : Int) := by omega
      obtain ⟨c1, c2⟩ := HP.out.1 mid (by omega)
      have hmm : (mid : Int) < (m : Int) := by omega
      have HM : Hid _ := hmid
      clear hmid
      by_cases hx : x < P mid
      · go_wp2_with fail
        go_roundg (mid - lo)
        case measure => omega
        case rel =>
          refine ⟨lo, mid, rfl, rfl, rfl, h1, ?_, by omega, rfl⟩
          apply Nat.le_of_not_lt
          intro hlt
          have := HP.out.2.2.1 mid hlt
          omega
      · go_wp2_with fail
        go_roundg (hi - (mid + 1))
        case measure => omega
        case rel =>
          refine ⟨mid + 1, hi, rfl, rfl, rfl, ?_, h2, h3, rfl⟩
          apply Nat.le_of_not_lt
          intro hlt
          have := HP.out.2.2.2 mid (by omega) (by omega)
          omega
    · have b1 : ¬ (lo : Int) < (hi : Int) := by omega
      go_wp2_with fail
      have : lo = K := by omega
      subst this
      go_ret
      exact ⟨rfl, rfl⟩
end Go.Proofs.Ybulksbm
