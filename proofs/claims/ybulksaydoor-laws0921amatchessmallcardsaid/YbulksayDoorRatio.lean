import Derived.Test.YbulksayDoorRat
namespace Go.Proofs.YbulksayDoor
open Go.RowKit

/-- A block of two cells. -/
theorem two_cell {w : World} {b : Nat} {x0 x1 : Value} {t : TypeId} (h : w.heap[b]? = some (.cells #[x0, x1] t (0, 0))) :
    w.cell? ⟨b, 0, none⟩ = some x0 ∧ w.cell? ⟨b, 1, none⟩ = some x1 ∧ w.frozen? ⟨b, 0, none⟩ = false ∧ w.frozen? ⟨b, 1, none⟩ = false := by
  refine ⟨?_, ?_, ?_, ?_⟩
  · simp [World.cell?, h]
  · simp [World.cell?, h]
  · simp [World.frozen?, h]
  · simp [World.frozen?, h]

theorem blk_new (w : World) (o : Obj) : (w.alloc o).heap[w.heap.size]? = some o := by
  show (w.heap.push o)[w.heap.size]? = some o
  exact Array.getElem?_push_size

theorem keep_blk {w w1 : World} {o : Obj} (h : Below (w.alloc o).drew.heap.size (w.alloc o).drew w1) : w1.heap[w.heap.size]? = some o := by
  rw [h.block w.heap.size (by show w.heap.size < (w.alloc o).heap.size; simp)]
  exact blk_new w o

theorem Errs.below {w w' : World} {B : Nat} (h : Errs w) (hb : Below B w w') (hB : 3 ≤ B) : Errs w' := by
  intro k hk
  obtain ⟨t, p, h2⟩ := h k hk
  exact ⟨t, p, by rw [hb.cell (p := ⟨k, 0, none⟩) (by simp only; omega)]; exact h2⟩

theorem ratio_core (neg : Bool) (num den g : Nat) (hg : 0 < g) (w : World) (P : Int → Int → Value → Prop) (hn : num < 18446744073709551616) (hd : den < 18446744073709551616) (hd0 : 0 < den)
    (H37 : ∀ w', Below w.heap.size w w' → Calls Ybad.prog 37 #[.int .u64 num, .int .u64 den] w' fun e w'' => e = .returned (.int .u64 (g : Int)) ∧ w'' = w')
    (H25 : ∀ w', Below w.heap.size w w' → Calls Ybad.prog 25 #[.bool neg, .agg #[.int .u64 0, .int .u64 ((num / g : Nat) : Int)], .agg #[.int .u64 0, .int .u64 ((den / g : Nat) : Int)]] w' fun e w'' => (∃ n d v, P n d v ∧ e = .returned (.tuple #[.agg #[.int .i64 n, .int .i64 d], v])) ∧ Below w'.heap.size w' w'') :
    Calls Ybad.prog 27 #[.bool neg, .int .u64 num, .int .u64 den] w fun e w' => (∃ n d v, P n d v ∧ e = .returned (.tuple #[.agg #[.int .i64 n, .int .i64 d], v])) ∧ Below w.heap.size w w' := by
  have X37 : Hid _ := H37
  have X25 : Hid _ := H25
  clear H37 H25
  have hz : ((den : Int) == 0) = false := beq_eq_false_iff_ne.2 (by omega)
  have hgz : ((g : Int) == 0) = false := beq_eq_false_iff_ne.2 (by omega)
  have q1 : (num : Int) / (g : Int) = ((num / g : Nat) : Int) := (Int.natCast_ediv _ _).symm
  have q2 : (den : Int) / (g : Int) = ((den / g : Nat) : Int) := (Int.natCast_ediv _ _).symm
  have l1 := Nat.div_le_self num g
  have l2 := Nat.div_le_self den g
  generalize num / g = N at *
  generalize den / g = D at *
  have w1 : IntKind.u64.wrap (N : Int) = (N : Int) := by rw [IntKind.wrap_u64]; omega
  have w2 : IntKind.u64.wrap (D : Int) = (D : Int) := by rw [IntKind.wrap_u64]; omega
  clear l1 l2
  go_enter Ybad.func27, Ybad.ntmps27
  go_wp2_with fail
  refine Calls.mono (X37.out _ ((Below.refl _ w).alloc (Nat.le_refl _) _)) ?_
  rintro e w' ⟨rfl, rfl⟩
  go_wp2_with fail
  go_region_with (go_at_call 25; refine Calls.mono (X25.out _ ?_) ?_; (exact ((Below.refl _ w).alloc (Nat.le_refl _) _).drew); rintro e w1 ⟨⟨n, d, v, hP, rfl⟩, hbel⟩; have HP : Hid _ := hP; clear hP; obtain ⟨k0, k1, k2, k3⟩ := two_cell (keep_blk hbel); have HBel : Hid _ := hbel; clear hbel)
  all_goals go_wp2_with fail
  all_goals
    refine bodyPost_ret (v := .tuple #[.agg #[.int .i64 n, .int .i64 d], v]) (by simp [results, Ybad.results27, go_sem, Act.put, k0, k1]) rfl ?_
    refine ⟨⟨n, d, v, HP.out, rfl⟩, ?_⟩
    have b1 := ((Below.refl _ w).alloc (Nat.le_refl _) (.cells #[Value.int IntKind.i64 0, Value.int IntKind.i64 0] 23)).drew
    have b2 := Below.trans b1 (HBel.out.mono (by simp [World.drew]))
    exact (b2.setCell (Nat.le_refl _) _).setCell (Nat.le_refl _) _

theorem c27_zero (neg : Bool) (num : Nat) (w : World) (hE : Hid (Errs w)) :
    Calls Ybad.prog 27 #[.bool neg, .int .u64 num, .int .u64 0] w fun e w' => Failed e ∧ Below w.heap.size w w' := by
  obtain ⟨t2, p2, hE2⟩ := hE.out.alloc 2 (by omega)
  go_enter Ybad.func27, Ybad.ntmps27
  go_wp2_with fail
  go_region
  all_goals go_wp2_with fail
  all_goals
    refine bodyPost_ret (v := .tuple #[.agg #[.int .i64 0, .int .i64 0], .iface t2 p2]) (by simp [results, Ybad.results27, go_sem]) rfl ?_
    exact ⟨⟨t2, p2, rfl⟩, ((Below.refl _ w).alloc (Nat.le_refl _) _).drew⟩

/-- The globals: the table and the errors. -/
def Glob (w : World) : Prop := Tab w ∧ Errs w ∧ 4 ≤ w.heap.size

theorem Glob.below {w w' : World} {B : Nat} (h : Glob w) (hb : Below B w w') (hB : 4 ≤ B) : Glob w' := by
  obtain ⟨h1, h2, h3⟩ := h
  refine ⟨fun j hj => ?_, h2.below hb (by omega), Nat.le_trans h3 hb.size⟩
  rw [hb.cell (p := ⟨3, j, none⟩) (by simp only; omega)]
  exact h1 j hj

/-- ratio. -/
theorem c27 (neg : Bool) (num den : Nat) (hn : num < 18446744073709551616) (hd : den < 18446744073709551616) (w : World) (hG : Hid (Glob w)) :
    Calls Ybad.prog 27 #[.bool neg, .int .u64 num, .int .u64 den] w fun e w' =>
      Res e (den ≠ 0 ∧ num / Nat.gcd num den ≤ 9223372036854775807 ∧ den / Nat.gcd num den ≤ 9223372036854775807)
        (if neg then -((num / Nat.gcd num den : Nat) : Int) else ((num / Nat.gcd num den : Nat) : Int)) (((den / Nat.gcd num den : Nat) : Int) - 1) ∧ Below w.heap.size w w' := by
  have h4 := hG.out.2.2
  by_cases h0 : den = 0
  · subst h0
    exact (c27_zero neg num w hG.out.2.1).mono fun e w' h => ⟨Res.bad (fun k => k.1 rfl) h.1, h.2⟩
  · have hg : 0 < Nat.gcd num den := Nat.gcd_pos_of_pos_right _ (by omega)
    have H37 : ∀ w', Below w.heap.size w w' → Calls Ybad.prog 37 #[.int .u64 num, .int .u64 den] w' fun e w'' => e = .returned (.int .u64 ((Nat.gcd num den : Nat) : Int)) ∧ w'' = w' :=
      fun w' hb => c37 num den hn hd (by omega) w' (hG.out.below hb h4).1
    refine (ratio_core neg num den _ hg w _ hn hd (by omega) H37 (fun w' hb => ?_)).mono fun e w' h => h
    refine (c25 neg 0 _ 0 _ w' (hG.out.below hb h4).2.1).mono fun e w'' h => ⟨?_, h.2⟩
    obtain ⟨n', d', v, ho, he⟩ := h.1
    refine ⟨n', d', v, ?_, he⟩
    rcases ho with ⟨k, r⟩ | ⟨k, r⟩
    · exact Or.inl ⟨⟨h0, k.2.1, k.2.2.2⟩, r⟩
    · exact Or.inr ⟨fun q => k ⟨rfl, q.2.1, rfl, q.2.2⟩, r⟩

end Go.Proofs.YbulksayDoor
