import Derived.Test.YbulkryuDoorOpen
import Derived.Test.YbulkryuDoorLawZ
import Derived.Test.YbulkryuDoorTie
import Derived.Test.YbulkryuDoorCards
import Derived.SevenTiedAt
namespace Go.Proofs.YbulkryuDoor
open Go.ChangeShapes Go.WideShapes Go.ChangeAt Go.RowKit Go.Deep
set_option linter.unusedVariables false

theorem lawZ_bigC (w : World) (ca : Option Addr) (n cap : Nat) (oa : Option Addr) (m ocap : Nat) (hn : 256 < n) :
    Calls Ybad.prog 4 #[.slice ca n cap, .slice oa m ocap] w fun e w' => e = .returned (.bool true) ∧ Below w.heap.size w w' := by
  have hn' : (256 : Int) < (n : Int) := by omega
  have hd : decide ((256 : Int) < (n : Int)) = true := by simp; omega
  go_enter Ybad.func4, Ybad.ntmps4
  go_wp2
  go_ret
  exact ⟨rfl, (Below.refl _ _).alloc (Nat.le_refl _) _⟩

theorem lawZ_bigO (w : World) (ca : Option Addr) (n cap : Nat) (oa : Option Addr) (m ocap : Nat) (hn : n ≤ 256) (hm : 256 < m) :
    Calls Ybad.prog 4 #[.slice ca n cap, .slice oa m ocap] w fun e w' => e = .returned (.bool true) ∧ Below w.heap.size w w' := by
  have hn' : decide ((256 : Int) < (n : Int)) = false := by simp; omega
  have hm' : decide ((256 : Int) < (m : Int)) = true := by simp; omega
  go_enter Ybad.func4, Ybad.ntmps4
  go_wp2
  go_ret
  exact ⟨rfl, (Below.refl _ _).alloc (Nat.le_refl _) _⟩

/-- The second argument's bytes, out of its reading. -/
theorem open_ops {H : Type} {enc : TypeId × Value → H} {W : World} {a0 : Option Addr} {len0 cap0 : Nat} {d0 : DataW H} {p0 : List MemPlace} (h0 : DataW.Trod enc Ybad.prog W 0 (fun _ => true) true 23 (.slice a0 len0 cap0) d0 p0) :
    ∃ Z : List Int, Z.length = len0 ∧ OpsIn W a0 Z := by
  obtain ⟨fuel, hf⟩ := h0
  rcases open_ints Ybad.underlying23 Ybad.underlying5 (by kernel_rfl) hf with ⟨hcs, _⟩ | ⟨a, len, cap, zs, hcs, _, hl, hm, hz, hx, hcell, hwf⟩
  · simp [Value.cells] at hcs
    obtain ⟨rfl, rfl, rfl⟩ := hcs
    exact ⟨[], rfl, fun h => absurd h (by simp)⟩
  · simp [Value.cells] at hcs
    obtain ⟨rfl, rfl, rfl⟩ := hcs
    simp at hz
    have hlen : (zs.take len0).length = len0 := by simp; omega
    refine ⟨zs.take len0, hlen, fun hp => ?_⟩
    rw [hlen] at hp
    obtain ⟨b, off, rfl, hc⟩ := ints_at hcell (by omega)
    refine ⟨b, off, rfl, block_lt_of_cell (hc 0 (by omega)), fun j hj => ?_⟩
    rw [hlen] at hj
    have hjz : j < zs.length := by omega
    have e : (zs.take len0).getD j 0 = zs[j] := by simp [List.getD_eq_getElem?_getD, List.getElem?_take_of_lt hj, List.getElem?_eq_getElem hjz]
    have hb := bounds_u8 (hwf zs[j] (List.getElem_mem hjz))
    rw [e]
    refine ⟨?_, hb.1, hb.2⟩
    rw [hc j hjz]
    simp [List.getD_eq_getElem?_getD, List.getElem?_eq_getElem hjz]

set_option maxRecDepth 100000 in
theorem zero_lifted (os : Os) (started : os.Started) (H : Type) (enc : TypeId × Value → H) :
    ReturnsInHanded {} Ybad.checked os 4 .any (fun w args => (Rows.lawS0917AZeroSpec.pre enc Ybad.prog Ybad.f4 [] false w args ∧ laidMetH Ybad.prog [("io.EOF", Rows.laid_io_EOF)] w) ∧ sizedMet enc Ybad.prog Ybad.f4 (OpenSpec.ofChange Rows.lawS0917AZeroSpec) false w args)
      (Rows.lawS0917AZeroSpec.post enc Ybad.prog Ybad.f4 false true false false) := by
  refine returnsInHanded_of_change_and (C := Ybad.checked) (X := fun w _ => laidMetH Ybad.prog [("io.EOF", Rows.laid_io_EOF)] w) (fun _ _ _ hh h => h.of_heap hh) own started (by kernel_rfl) Ybad.func4
    (ChangeSpec.witness_shaped (enc := enc) (C := Ybad.checked) (os := os) (X := fun w _ => laidMetH Ybad.prog [("io.EOF", Rows.laid_io_EOF)] w) false (World.doorLaid Ybad.prog 400 os) #[.slice none 0 0, .slice none 0 0] 8 rfl (World.shaped_of_RefB (by kernel_rfl) (by kernel_rfl)) (by kernel_rfl) (by kernel_rfl) (by kernel_rfl) (door_met os _)) ?_
  intro W base args ds gs before hval0 hW hcnd hsz0 hL _
  have hval : ∀ (j : Nat) t v, Ybad.f4.params[j]? = some t → args[j]? = some v → Value.okWide Ybad.prog W .any base t v := hval0
  have hW' := hW
  obtain ⟨p, q, hA0, hV, rfl, hfz, hnd⟩ := hW
  have hA : DataW.TrodAll enc Ybad.prog W 0 (fun _ => true) true Ybad.f4.params.toList args.toList ds p := hA0
  have hsz : (DataW.weightsEach Ybad.prog (Ybad.f4.params.toList ++ Rows.lawS0917AZeroSpec.plain.varTypes Ybad.prog) (ds ++ gs)).all (· ≤ reachBytes) = true := hsz0
  rw [Ybad.params4] at hA hval hsz
  obtain ⟨v0, vs0, d0, ds0, p0, q0, hargs, rfl, rfl, h0, r0⟩ := trodAll_cons hA
  obtain ⟨v1, vs1, d1, ds1, p1, q1, rfl, rfl, rfl, h1, r1⟩ := trodAll_cons r0
  obtain ⟨rfl, rfl, rfl⟩ := trodAll_nil r1
  obtain rfl : args = #[v0, v1] := by cases args; simp_all
  obtain ⟨rfl, rfl⟩ := trodVars_none hV
  obtain ⟨a0, len0, cap0, rfl⟩ := okWide_slice Ybad.underlying22 (hval 0 22 v0 rfl rfl)
  have k0 := h0
  have lt0 : ∀ x ∈ p0, x.block < W.heap.size := by obtain ⟨m, hm⟩ := k0; exact DataW.trod_lt m _ _ _ hm
  obtain ⟨C, hlen, hC⟩ := open_chunks h0 (fun n hn => of_decide_eq_true (List.all_eq_true.1 hsz _ (DataW.weights_mem_each (j := 0) (t := 22) rfl rfl n hn)))
  obtain ⟨a1, len1, cap1, rfl⟩ := okWide_slice Ybad.underlying23 (hval 1 23 v1 rfl rfl)
  have k1 := h1
  have lt1 : ∀ x ∈ p1, x.block < W.heap.size := by obtain ⟨m, hm⟩ := k1; exact DataW.trod_lt m _ _ _ hm
  obtain ⟨Z, hlen1, hZ⟩ := open_ops h1
  obtain ⟨ea, he⟩ := eof_of_laid hL
  clear hA0 hval0
  have main : Calls Ybad.prog 4 #[.slice a0 len0 cap0, .slice a1 len1 cap1] W fun e w' => e = .returned (.bool true) ∧ Below W.heap.size W w' := by
    subst hlen
    subst hlen1
    rcases Nat.lt_or_ge 256 C.length with h | h
    · exact lawZ_bigC W a0 C.length cap0 a1 Z.length cap1 h
    · rcases Nat.lt_or_ge 256 Z.length with h' | h'
      · exact lawZ_bigO W a0 C.length cap0 a1 Z.length cap1 h h'
      · exact lawZ_small W a0 a1 cap0 cap1 C Z hC h hZ h' he
  refine main.mono fun e W' ⟨he, bel⟩ => ?_
  subst he
  exact ⟨_, rfl, _, _, _, [], _, [], hW', trodAll_mk1 (shut_bool Ybad.underlying4 _), (trodAll_cons_mk (Below.trod laidOut (by kernel_rfl) (of_decide_eq_true (by kernel_rfl)) k0 bel lt0) (trodAll_cons_mk (Below.trod laidOut (by kernel_rfl) (of_decide_eq_true (by kernel_rfl)) k1 bel lt1) trodAll_mk0)), rfl, bel.frame _, fun h => by cases h⟩

theorem zero_row : Rows.LawS0917AZeroSaid :=
  OpenClaim.holds_of_wide 4 Ybad.f4 rfl rfl rfl rfl rfl rfl rfl ⟨rfl, rfl, rfl, rfl, rfl⟩ rfl rfl rfl rfl rfl (by kernel_rfl) Ybad.func4 (by kernel_rfl)
    (of_decide_eq_true (by kernel_rfl)) (by unfold Func.isWrapper; rw [if_neg (of_decide_eq_false (by kernel_rfl))]; exact ⟨rfl, rfl⟩)
    (fun os started H enc _ => zero_lifted os started H enc)

theorem zero_card : Rows.LawS0917AZeroCardSaid :=
  Claim7.holds_tied_plain_at .later [] [.sentinel] true Rows.lawS0917AZeroCard.stood.harness true
    zero_row (fun _ h => by cases h) (by kernel_rfl) (fun _ h => by cases h) lawS0917AZero_row_tie rfl ⟨rfl, rfl⟩ (by kernel_rfl) rfl
    (fun f fn hf hfn => by
      obtain rfl : f = 4 := Option.some.inj ((show Ybad.prog.funcNamed Rows.lawS0917AZeroRow.func = some 4 by kernel_rfl).symm.trans hf) |>.symm
      obtain rfl : fn = Ybad.f4 := (Option.some.inj (Ybad.func4.symm.trans hfn)).symm
      exact ⟨by kernel_rfl, fun j t ht => by
        rw [Ybad.params4] at ht
        have h3 : t = 22 ∨ t = 23 := by
          rcases j with _ | _ | j
          · left; simpa using ht.symm
          · right; simpa using ht.symm
          · simp at ht
        rcases h3 with rfl | rfl
        · exact (show Ybad.prog.wantsStandIn 22 = false by kernel_rfl)
        · exact (show Ybad.prog.wantsStandIn 23 = false by kernel_rfl)⟩)
    (by kernel_rfl)
end Go.Proofs.YbulkryuDoor
