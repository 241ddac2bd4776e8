import Derived.Test.YbulksayDoorGcd2
import Derived.LaidEql
import Derived.RegionTactic
import Derived.Deep.RegionWith
namespace Go.Proofs.YbulksayDoor
open Go.RowKit

theorem c23 (v : Int) (h1 : -9223372036854775808 ≤ v) (h2 : v ≤ 9223372036854775807) (w : World) :
    Calls Ybad.prog 23 #[.int .i64 v] w fun e w' => e = .returned (.int .u64 (v.natAbs : Int)) ∧ w' = w := by
  by_cases h : v < 0
  · have e1 : IntKind.u64.wrap (-(IntKind.u64.wrap v)) = (v.natAbs : Int) := by rw [IntKind.wrap_u64, IntKind.wrap_u64]; omega
    go_enter Ybad.func23, Ybad.ntmps23
    go_wp2_with fail
    go_ret
    exact ⟨rfl, rfl⟩
  · have e1 : IntKind.u64.wrap v = (v.natAbs : Int) := by rw [IntKind.wrap_u64]; omega
    go_enter Ybad.func23, Ybad.ntmps23
    go_wp2_with fail
    go_ret
    exact ⟨rfl, rfl⟩

theorem c14 (n d : Int) (w : World) :
    Calls Ybad.prog 14 #[.agg #[.int .i64 n, .int .i64 d]] w fun e w' => e = .returned (.int .i64 n) ∧ Below w.heap.size w w' := by
  go_enter Ybad.func14, Ybad.ntmps14
  go_wp2_with fail
  go_ret
  exact ⟨rfl, (Below.refl _ w).alloc (Nat.le_refl _) _⟩

theorem c15 (n d : Int) (h1 : 0 ≤ d) (h2 : d < 9223372036854775807) (w : World) :
    Calls Ybad.prog 15 #[.agg #[.int .i64 n, .int .i64 d]] w fun e w' => e = .returned (.int .i64 (d + 1)) ∧ Below w.heap.size w w' := by
  go_enter Ybad.func15, Ybad.ntmps15
  go_wp2_with fail
  go_ret
  exact ⟨rfl, (Below.refl _ w).alloc (Nat.le_refl _) _⟩

theorem c26_core (x y hi lo : Nat) (w : World) (H : ∀ w, Calls Ybad.prog 22 #[.int .u64 x, .int .u64 y] w fun e w' => e = .returned (.tuple #[.int .u64 (hi : Int), .int .u64 (lo : Int)]) ∧ w' = w) :
    Calls Ybad.prog 26 #[.int .u64 x, .int .u64 y] w fun e w' => e = .returned (.agg #[.int .u64 (hi : Int), .int .u64 (lo : Int)]) ∧ Below w.heap.size w w' := by
  have HH : Hid _ := H
  clear H
  go_enter Ybad.func26, Ybad.ntmps26
  go_wp2_with fail
  refine Calls.mono (HH.out _) ?_
  rintro e w' ⟨rfl, rfl⟩
  go_wp2_with fail
  refine bodyPost_ret (v := .agg #[.int .u64 (hi : Int), .int .u64 (lo : Int)]) (by simp [results, Ybad.results26, go_sem]) rfl ?_
  exact ⟨rfl, (Below.refl _ w).alloc (Nat.le_refl _) _⟩

theorem c26 (x y : Nat) (hx : x < 18446744073709551616) (hy : y < 18446744073709551616) (w : World) :
    Calls Ybad.prog 26 #[.int .u64 x, .int .u64 y] w fun e w' => e = .returned (.agg #[.int .u64 ((x * y / 18446744073709551616 : Nat) : Int), .int .u64 ((x * y % 18446744073709551616 : Nat) : Int)]) ∧ Below w.heap.size w w' :=
  c26_core x y _ _ w (fun w => mul64_bits x y hx hy w)

/-- The three error variables hold errors. -/
def Errs (w : World) : Prop := ∀ k, k < 3 → ∃ t p, w.cell? ⟨k, 0, none⟩ = some (.iface t p)

theorem lt_of_cellP {w : World} {a : Addr} {v : Value} (h : w.cell? a = some v) : a.block < w.heap.size := by
  apply Nat.lt_of_not_le
  intro hle
  have hn : w.heap[a.block]? = none := Array.getElem?_eq_none hle
  simp [World.cell?, hn] at h

theorem Errs.size {w : World} (h : Errs w) : 3 ≤ w.heap.size := by
  obtain ⟨t, p, h2⟩ := h 2 (by omega)
  have := lt_of_cellP h2
  simp only at this
  omega

theorem Errs.alloc {w : World} (h : Errs w) (k : Nat) (hk : k < 3) : ∃ t p, ∀ o, (w.alloc o).cell? ⟨k, 0, none⟩ = some (.iface t p) := by
  obtain ⟨t, p, h2⟩ := h k hk
  have := h.size
  exact ⟨t, p, fun o => by rw [World.cell?_alloc_past o k 0 (by omega)]; exact h2⟩

theorem Errs.alloc2 {w : World} (h : Errs w) (k : Nat) (hk : k < 3) : ∃ t p, ∀ o o', ((w.alloc o).alloc o').cell? ⟨k, 0, none⟩ = some (.iface t p) := by
  obtain ⟨t, p, h2⟩ := h k hk
  have := h.size
  exact ⟨t, p, fun o o' => by rw [World.cell?_alloc_past o' k 0 (by simp; omega), World.cell?_alloc_past o k 0 (by omega)]; exact h2⟩

/-- The zero Rat and an error. -/
def Failed (e : Ending) : Prop := ∃ t p, e = .returned (.tuple #[.agg #[.int .i64 0, .int .i64 0], .iface t p])

/-- A Rat and no error where 'ok' holds; else the zero Rat and an error. -/
def Out (ok : Prop) (n d n' d' : Int) (v : Value) : Prop := (ok ∧ n' = n ∧ d' = d ∧ v = .nilIface) ∨ (¬ ok ∧ n' = 0 ∧ d' = 0 ∧ ∃ t p, v = .iface t p)
def Res (e : Ending) (ok : Prop) (n d : Int) : Prop := ∃ n' d' v, Out ok n d n' d' v ∧ e = .returned (.tuple #[.agg #[.int .i64 n', .int .i64 d'], v])
theorem Res.good {e : Ending} {ok : Prop} {n d : Int} (h : ok) (he : e = .returned (.tuple #[.agg #[.int .i64 n, .int .i64 d], .nilIface])) : Res e ok n d := ⟨_, _, _, Or.inl ⟨h, rfl, rfl, rfl⟩, he⟩
theorem Res.bad {e : Ending} {ok : Prop} {n d : Int} (h : ¬ ok) (he : Failed e) : Res e ok n d := by
  obtain ⟨t, p, he⟩ := he
  exact ⟨_, _, _, Or.inr ⟨h, rfl, rfl, t, p, rfl⟩, he⟩

theorem c25_num1 (neg : Bool) (nh nl dh dl : Nat) (w : World) (hE : Hid (Errs w)) (h : nh ≠ 0) :
    Calls Ybad.prog 25 #[.bool neg, .agg #[.int .u64 nh, .int .u64 nl], .agg #[.int .u64 dh, .int .u64 dl]] w fun e w' => Failed e ∧ Below w.heap.size w w' := by
  obtain ⟨t0, p0, hE0⟩ := hE.out.alloc 0 (by omega)
  have hne : ((nh : Int) != 0) = true := bne_iff_ne.2 (by omega)
  clear h
  go_enter Ybad.func25, Ybad.ntmps25
  go_wp2_with fail
  go_region
  all_goals go_wp2_with fail
  all_goals
    refine bodyPost_ret (v := .tuple #[.agg #[.int .i64 0, .int .i64 0], .iface t0 p0]) (by simp [results, Ybad.results25, go_sem]) rfl ?_
    exact ⟨⟨t0, p0, rfl⟩, ((((Below.refl _ w).alloc (Nat.le_refl _) _).alloc (by simp) _).alloc (by simp; omega) _).drew⟩

theorem c25_num2 (neg : Bool) (nh nl dh dl : Nat) (w : World) (hE : Hid (Errs w)) (h0 : nh = 0) (h : 9223372036854775807 < nl) :
    Calls Ybad.prog 25 #[.bool neg, .agg #[.int .u64 nh, .int .u64 nl], .agg #[.int .u64 dh, .int .u64 dl]] w fun e w' => Failed e ∧ Below w.heap.size w w' := by
  obtain ⟨t0, p0, hE0⟩ := hE.out.alloc 0 (by omega)
  subst h0
  have h1 : (9223372036854775807 : Int) < (nl : Int) := by omega
  clear h
  go_enter Ybad.func25, Ybad.ntmps25
  go_wp2_with fail
  go_region
  all_goals go_wp2_with fail
  all_goals
    refine bodyPost_ret (v := .tuple #[.agg #[.int .i64 0, .int .i64 0], .iface t0 p0]) (by simp [results, Ybad.results25, go_sem]) rfl ?_
    exact ⟨⟨t0, p0, rfl⟩, ((((Below.refl _ w).alloc (Nat.le_refl _) _).alloc (by simp) _).alloc (by simp; omega) _).drew⟩

theorem c25_den1 (neg : Bool) (nh nl dh dl : Nat) (w : World) (hE : Hid (Errs w)) (h0 : nh = 0) (h : nl ≤ 9223372036854775807) (h1 : dh ≠ 0) :
    Calls Ybad.prog 25 #[.bool neg, .agg #[.int .u64 nh, .int .u64 nl], .agg #[.int .u64 dh, .int .u64 dl]] w fun e w' => Failed e ∧ Below w.heap.size w w' := by
  obtain ⟨t1, p1, hE1⟩ := hE.out.alloc2 1 (by omega)
  subst h0
  have h2 : (nl : Int) ≤ (9223372036854775807 : Int) := by omega
  have hne : ((dh : Int) != 0) = true := bne_iff_ne.2 (by omega)
  clear h h1
  go_enter Ybad.func25, Ybad.ntmps25
  go_wp2_with fail
  go_region
  all_goals go_wp2_with fail
  all_goals
    refine bodyPost_ret (v := .tuple #[.agg #[.int .i64 0, .int .i64 0], .iface t1 p1]) (by simp [results, Ybad.results25, go_sem]) rfl ?_
    exact ⟨⟨t1, p1, rfl⟩, ((((Below.refl _ w).alloc (Nat.le_refl _) _).alloc (by simp) _).alloc (by simp; omega) _).drew⟩

theorem c25_den2 (neg : Bool) (nh nl dh dl : Nat) (w : World) (hE : Hid (Errs w)) (h0 : nh = 0) (h : nl ≤ 9223372036854775807) (h1 : dh = 0) (h3 : 9223372036854775807 < dl) :
    Calls Ybad.prog 25 #[.bool neg, .agg #[.int .u64 nh, .int .u64 nl], .agg #[.int .u64 dh, .int .u64 dl]] w fun e w' => Failed e ∧ Below w.heap.size w w' := by
  obtain ⟨t1, p1, hE1⟩ := hE.out.alloc2 1 (by omega)
  subst h0 h1
  have h2 : (nl : Int) ≤ (9223372036854775807 : Int) := by omega
  have h4 : (9223372036854775807 : Int) < (dl : Int) := by omega
  clear h h3
  go_enter Ybad.func25, Ybad.ntmps25
  go_wp2_with fail
  go_region
  all_goals go_wp2_with fail
  all_goals
    refine bodyPost_ret (v := .tuple #[.agg #[.int .i64 0, .int .i64 0], .iface t1 p1]) (by simp [results, Ybad.results25, go_sem]) rfl ?_
    exact ⟨⟨t1, p1, rfl⟩, ((((Below.refl _ w).alloc (Nat.le_refl _) _).alloc (by simp) _).alloc (by simp; omega) _).drew⟩

theorem c25_ok (neg : Bool) (nh nl dh dl : Nat) (w : World) (h0 : nh = 0) (h : nl ≤ 9223372036854775807) (h1 : dh = 0) (h3 : dl ≤ 9223372036854775807) (N : Int) (hN : N = if neg then -(nl : Int) else nl) :
    Calls Ybad.prog 25 #[.bool neg, .agg #[.int .u64 nh, .int .u64 nl], .agg #[.int .u64 dh, .int .u64 dl]] w fun e w' => e = .returned (.tuple #[.agg #[.int .i64 N, .int .i64 ((dl : Int) - 1)], .nilIface]) ∧ Below w.heap.size w w' := by
  subst h0 h1
  have h2 : (nl : Int) ≤ (9223372036854775807 : Int) := by omega
  have h4 : (dl : Int) ≤ (9223372036854775807 : Int) := by omega
  clear h h3
  cases neg with
  | true =>
    have hN' : N = -(nl : Int) := hN
    clear hN
    subst hN'
    go_enter Ybad.func25, Ybad.ntmps25
    go_wp2_with fail
    refine bodyPost_ret (v := .tuple #[.agg #[.int .i64 (-(nl : Int)), .int .i64 ((dl : Int) - 1)], .nilIface]) (by simp [results, Ybad.results25, go_sem]) rfl ?_
    exact ⟨rfl, (((Below.refl _ w).alloc (Nat.le_refl _) _).alloc (by simp) _).alloc (by simp; omega) _⟩
  | false =>
    have hN' : N = (nl : Int) := hN
    clear hN
    subst hN'
    go_enter Ybad.func25, Ybad.ntmps25
    go_wp2_with fail
    refine bodyPost_ret (v := .tuple #[.agg #[.int .i64 (nl : Int), .int .i64 ((dl : Int) - 1)], .nilIface]) (by simp [results, Ybad.results25, go_sem]) rfl ?_
    exact ⟨rfl, (((Below.refl _ w).alloc (Nat.le_refl _) _).alloc (by simp) _).alloc (by simp; omega) _⟩

/-- lowest. -/
theorem c25 (neg : Bool) (nh nl dh dl : Nat) (w : World) (hE : Hid (Errs w)) :
    Calls Ybad.prog 25 #[.bool neg, .agg #[.int .u64 nh, .int .u64 nl], .agg #[.int .u64 dh, .int .u64 dl]] w fun e w' =>
      Res e (nh = 0 ∧ nl ≤ 9223372036854775807 ∧ dh = 0 ∧ dl ≤ 9223372036854775807) (if neg then -(nl : Int) else nl) ((dl : Int) - 1) ∧ Below w.heap.size w w' := by
  by_cases h1 : nh = 0
  · by_cases h2 : nl ≤ 9223372036854775807
    · by_cases h3 : dh = 0
      · by_cases h4 : dl ≤ 9223372036854775807
        · exact (c25_ok neg nh nl dh dl w h1 h2 h3 h4 _ rfl).mono fun e w' h => ⟨Res.good ⟨h1, h2, h3, h4⟩ h.1, h.2⟩
        · exact (c25_den2 neg nh nl dh dl w hE h1 h2 h3 (by omega)).mono fun e w' h => ⟨Res.bad (fun k => h4 k.2.2.2) h.1, h.2⟩
      · exact (c25_den1 neg nh nl dh dl w hE h1 h2 h3).mono fun e w' h => ⟨Res.bad (fun k => h3 k.2.2.1) h.1, h.2⟩
    · exact (c25_num2 neg nh nl dh dl w hE h1 (by omega)).mono fun e w' h => ⟨Res.bad (fun k => h2 k.2.1) h.1, h.2⟩
  · exact (c25_num1 neg nh nl dh dl w hE h1).mono fun e w' h => ⟨Res.bad (fun k => h1 k.1) h.1, h.2⟩

end Go.Proofs.YbulksayDoor
