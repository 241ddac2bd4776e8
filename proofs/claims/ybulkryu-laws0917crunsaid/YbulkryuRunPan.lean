import Derived.Test.YbulkryuRun
import Derived.OrdersHeld
namespace Go.Proofs.Ybulkryu
open Go.RowKit

/-- A post that hangs, at a panic, on the deferred calls and the world alone. -/
def AtP (D : List Deferred) (X : List PanicEntry → World → Prop) (Q : Exit → Act → World → Prop) : Exit → Act → World → Prop
  | .panic c, a, w => a.defers = D ∧ X c w
  | e, a, w => Q e a w

theorem wp_region_atP {P : Program} {id : Nat} {ops : Array Oper} {b : Bool} {Q : Exit → Act → World → Prop} {a : Act} {w : World} (D : List Deferred) (X : List PanicEntry → World → Prop)
    (hX : ∀ c tmps w, X c w → Q (.panic c) { tmps := tmps, defers := D } w) (h : (Code.region id ops b).wp P (AtP D X Q) a w) : (Code.region id ops b).wp P Q a w := by
  refine Code.wp_mono ?_ h
  intro e a w h
  cases e <;> first | exact h | skip
  rename_i c
  obtain ⟨h1, h2⟩ := h
  obtain ⟨tmps, defers⟩ := a
  cases h1
  exact hX c tmps w h2

set_option linter.unusedSimpArgs false in
set_option maxHeartbeats 2000000 in
/-- f panics. -/
theorem run_pan {B : Nat} {w : World} {iv : Value} {boom : Bool} {k : Nat} {st seed : Int} (h : Pre B w iv boom k st seed) (p : Value) (L : List Int) (F : World → World)
    (hf : Calls Yba.prog 10 #[.int .i64 seed, .func (.func 20) #[] #[.pointer (some ⟨B + 8, 0, none⟩), .pointer (some ⟨B + 9, 0, none⟩)], .pointer (some ⟨B, 0, none⟩), .pointer (some ⟨B + 1, 0, none⟩), .pointer (some ⟨B + 4, 0, none⟩)] (inRun B w).drew
      fun e w' => e = .panicked [{ v := p, recovered := false }] ∧ KeptS B (inRun B w).drew w' ∧ Log B w' L)
    (hcatch : ∀ w1, KeptS B (inRun B w).drew w1 → CallsD Yba.prog 17 #[.pointer (some ⟨B + 8, 0, none⟩), .pointer (some ⟨B + 10, 0, none⟩)] (.panicking [{ v := p, recovered := false }]) w1 fun e u' w' =>
      e = .returned (.tuple #[]) ∧ u' = .panicking [{ v := p, recovered := true }] ∧ w' = F w1) :
    Calls Yba.prog 13 #[.pointer (some ⟨B + 5, 0, none⟩), .func (.func 12) #[] #[.pointer (some ⟨B + 7, 0, none⟩), .pointer (some ⟨B + 6, 0, none⟩), .pointer (some ⟨B + 2, 0, none⟩)]] w fun e w' =>
      e = .returned (.tuple #[]) ∧ ∃ w1, KeptS B (inRun B w).drew w1 ∧ Log B w1 L ∧ w' = F w1 := by
  have hmf : ∀ (fn : Fn) (first cap : Array Value) (w : World), (Instr.makeFunc fn first cap).run Yba.prog w = .ok (.func fn first cap) w := fun _ _ _ _ => rfl
  have hs := h.size
  have e1 : B + 8 + 1 = B + 9 := rfl
  have e2 : B + 9 + 1 = B + 10 := rfl
  have HF : Hid _ := hf
  have HC : Hid _ := hcatch
  clear hf hcatch
  go_enter_defers Yba.func13, Yba.ntmps13
  go_wp2_with fail
  generalize hwx : ((w.alloc (.cells #[.pointer (some ⟨B + 5, 0, none⟩)] 22)).alloc (.cells #[.func (.func 12) #[] #[.pointer (some ⟨B + 7, 0, none⟩), .pointer (some ⟨B + 6, 0, none⟩), .pointer (some ⟨B + 2, 0, none⟩)]] 61)).alloc (.cells #[.bool false] 4) = wx
  have hwx' : inRun B w = wx := hwx
  obtain ⟨hE, hL, hR⟩ := h.env
  rw [hwx'] at hE hL hR HF HC
  refine wp_region_atP [{ target := .fn (.func 17) #[.pointer (some ⟨B + 8, 0, none⟩), .pointer (some ⟨B + 10, 0, none⟩)], args := #[] }] (fun c w1 => c = [{ v := p, recovered := false }] ∧ KeptS B wx.drew w1 ∧ Log B w1 L) ?_ ?_
  · rintro c tmps w1 ⟨rfl, hk1, hl1⟩
    refine leaves_cons (f := 17) (args := #[.pointer (some ⟨B + 8, 0, none⟩), .pointer (some ⟨B + 10, 0, none⟩)]) (by simp) (by simp [go_sem]) ?_
    refine (HC.out w1 hk1).mono ?_
    rintro e u' w'' ⟨rfl, rfl, rfl⟩
    simp [Leaves, settle, results, Yba.results13, go_sem]
    exact ⟨w1, by rw [hwx']; exact hk1, hl1, rfl⟩
  refine wp_region_held (S := fun w' => w'.cell? ⟨B + 8, 0, none⟩ = some (.pointer (some ⟨B + 5, 0, none⟩)) ∧ w'.cell? ⟨B + 5, 0, none⟩ = some (.func (.func 10) #[] #[.pointer (some ⟨B, 0, none⟩), .pointer (some ⟨B + 1, 0, none⟩), .pointer (some ⟨B + 4, 0, none⟩)]) ∧ w'.cell? ⟨B + 5, 5, none⟩ = some (.int .i64 seed)) (by kernel_rfl) ?_
  have c8 := cell_of_one hE.cbox
  obtain ⟨c0, c1, c5, c6, c7, f6, f7⟩ := co_cell hE.co
  have hS0 : ∀ q, ((fun w' : World => w'.cell? ⟨B + 8, 0, none⟩ = some (.pointer (some ⟨B + 5, 0, none⟩)) ∧ w'.cell? ⟨B + 5, 0, none⟩ = some (.func (.func 10) #[] #[.pointer (some ⟨B, 0, none⟩), .pointer (some ⟨B + 1, 0, none⟩), .pointer (some ⟨B + 4, 0, none⟩)]) ∧ w'.cell? ⟨B + 5, 5, none⟩ = some (.int .i64 seed)) (wx.drewN q)) := fun q => ⟨c8, c0, c5⟩
  clear hE hL hR h hwx hwx' hs hmf
  refine wpAnyH_take (fuel := 13) (i := 0) (v := .pointer (some ⟨B + 5, 0, none⟩)) rfl (by kernel_rfl) (by kernel_rfl) (by kernel_rfl) (fun _ _ _ h => h) (.inl ⟨by simp [Region.wanted], fun w hS => ?_⟩) (hS0 1) ?_
  · obtain ⟨g1, g2, g3⟩ := hS
    simp [go_sem, Act.eval, Act.put, g1, g2, g3]
  refine wpAnyH_take (fuel := 12) (i := 1) (v := .pointer (some ⟨B + 5, 0, none⟩)) rfl (by kernel_rfl) (by kernel_rfl) (by kernel_rfl) (fun _ _ _ h => h) (.inl ⟨by simp [Region.wanted], fun w hS => ?_⟩) (hS0 1) ?_
  · obtain ⟨g1, g2, g3⟩ := hS
    simp [go_sem, Act.eval, Act.put, g1, g2, g3]
  refine wpAnyH_take (fuel := 11) (i := 2) (v := .pointer (some ⟨B + 5, 0, none⟩)) rfl (by kernel_rfl) (by kernel_rfl) (by kernel_rfl) (fun _ _ _ h => h) (.inl ⟨by simp [Region.wanted], fun w hS => ?_⟩) (hS0 1) ?_
  · obtain ⟨g1, g2, g3⟩ := hS
    simp [go_sem, Act.eval, Act.put, g1, g2, g3]
  refine wpAnyH_take (fuel := 10) (i := 3) (v := .pointer (some ⟨B + 5, 0, none⟩)) rfl (by kernel_rfl) (by kernel_rfl) (by kernel_rfl) (fun _ _ _ h => h) (.inl ⟨by simp [Region.wanted], fun w hS => ?_⟩) (hS0 1) ?_
  · obtain ⟨g1, g2, g3⟩ := hS
    simp [go_sem, Act.eval, Act.put, g1, g2, g3]
  refine wpAnyH_take (fuel := 9) (i := 4) (v := .func (.func 10) #[] #[.pointer (some ⟨B, 0, none⟩), .pointer (some ⟨B + 1, 0, none⟩), .pointer (some ⟨B + 4, 0, none⟩)]) rfl (by kernel_rfl) (by kernel_rfl) (by kernel_rfl) (fun _ _ _ h => h) (.inl ⟨by simp [Region.wanted], fun w hS => ?_⟩) (hS0 1) ?_
  · obtain ⟨g1, g2, g3⟩ := hS
    simp [go_sem, Act.eval, Act.put, g1, g2, g3]
  refine wpAnyH_take (fuel := 8) (i := 5) (v := .pointer (some ⟨B + 5, 0, none⟩)) rfl (by kernel_rfl) (by kernel_rfl) (by kernel_rfl) (fun _ _ _ h => h) (.inl ⟨by simp [Region.wanted], fun w hS => ?_⟩) (hS0 1) ?_
  · obtain ⟨g1, g2, g3⟩ := hS
    simp [go_sem, Act.eval, Act.put, g1, g2, g3]
  refine wpAnyH_take (fuel := 7) (i := 6) (v := .pointer (some ⟨B + 5, 0, none⟩)) rfl (by kernel_rfl) (by kernel_rfl) (by kernel_rfl) (fun _ _ _ h => h) (.inl ⟨by simp [Region.wanted], fun w hS => ?_⟩) (hS0 1) ?_
  · obtain ⟨g1, g2, g3⟩ := hS
    simp [go_sem, Act.eval, Act.put, g1, g2, g3]
  refine wpAnyH_take (fuel := 6) (i := 7) (v := .pointer (some ⟨B + 5, 5, none⟩)) rfl (by kernel_rfl) (by kernel_rfl) (by kernel_rfl) (fun _ _ _ h => h) (.inl ⟨by simp [Region.wanted], fun w hS => ?_⟩) (hS0 1) ?_
  · obtain ⟨g1, g2, g3⟩ := hS
    simp [go_sem, Act.eval, Act.put, g1, g2, g3]
  refine wpAnyH_take (fuel := 5) (i := 8) (v := .int .i64 seed) rfl (by kernel_rfl) (by kernel_rfl) (by kernel_rfl) (fun _ _ _ h => h) (.inl ⟨by simp [Region.wanted], fun w hS => ?_⟩) (hS0 1) ?_
  · obtain ⟨g1, g2, g3⟩ := hS
    simp [go_sem, Act.eval, Act.put, g1, g2, g3]
  refine wpAnyH_take (fuel := 4) (i := 9) (v := .func (.func 20) #[] #[.pointer (some ⟨B + 8, 0, none⟩), .pointer (some ⟨B + 9, 0, none⟩)]) rfl (by kernel_rfl) (by kernel_rfl) (by kernel_rfl) (fun _ _ _ h => h) (.inl ⟨by simp [Region.wanted], fun w hS => ?_⟩) (hS0 1) ?_
  · obtain ⟨g1, g2, g3⟩ := hS
    simp [go_sem, Act.eval, Act.put, g1, g2, g3]
  refine wpAnyH_all (rs := [10]) (by kernel_rfl) (by simp) ?_
  intro i hi
  obtain rfl := List.mem_singleton.1 hi
  refine wpOp_step rfl (fun K hK => ?_)
  rw [if_pos (by simp [Region.wanted])]
  clear hS0 c0 c1 c5 c6 c7 f6 f7 c8
  simp [go_sem, Act.eval, Act.put]
  refine Calls.mono HF.out ?_
  rintro e w1 ⟨rfl, hk1, hl1⟩
  exact ⟨rfl, rfl, hk1, hl1⟩

theorem below_inRun {B : Nat} {w : World} (hs : w.heap.size = B + 8) : Below B w (inRun B w) :=
  ((((Below.refl B w).alloc (by omega) _).alloc (by simp; omega) _).alloc (by simp; omega) _)

theorem post_kept {B : Nat} {w w1 : World} {iv : Value} {boom : Bool} {k : Nat} {st seed : Int} {L : List Int} (h : Pre B w iv boom k st seed) (hk : KeptS B (inRun B w).drew w1) (hl : Log B w1 L) : Post B w w1 st seed 0 .nilIface L := by
  have hE := h.env.1.kept' hk
  exact ⟨(below_inRun h.size).drew.trans hk.below, by rw [h.items, hE.items], by rw [h.boomv, hE.boomv], by rw [h.kv, hE.kv], by rw [h.markv, hE.markv], hE.co, hl⟩

theorem post_set {B : Nat} {w w1 : World} {iv : Value} {boom : Bool} {k : Nat} {st seed : Int} {L : List Int} (h : Pre B w iv boom k st seed) (hk : KeptS B (inRun B w).drew w1) (hl : Log B w1 L) (p : Value) : Post B w (w1.setCell ⟨B + 5, 7, none⟩ p) st seed 0 p L := by
  have hE := h.env.1.kept' hk
  refine ⟨((below_inRun h.size).drew.trans hk.below).setCell (by simp) _, ?_, ?_, ?_, ?_, co_set7 hE.co p, hl.setCell (by simp) (by simp) (by simp) _⟩
  · rw [h.items]; exact blk_other hE.items (by simp)
  · rw [h.boomv]; exact blk_other hE.boomv (by simp)
  · rw [h.kv]; exact blk_other hE.kv (by simp)
  · rw [h.markv]; exact blk_other hE.markv (by simp)

theorem items_inRun {B : Nat} {w : World} {ia : Option Addr} {Z : List Int} (h : ItemsIn B w ia Z) (hs : w.heap.size = B + 8) : ItemsIn B (inRun B w).drew ia Z := h.carry (below_inRun hs).drew
theorem Pre.drewEnv {B : Nat} {w : World} {iv : Value} {boom : Bool} {k : Nat} {st seed : Int} (h : Pre B w iv boom k st seed) : Env B (inRun B w).drew iv boom k st seed ∧ Log B (inRun B w).drew [] := by
  obtain ⟨hE, hL, _⟩ := h.env
  exact ⟨⟨hE.items, hE.boomv, hE.kv, hE.markv, hE.co, hE.cbox, hE.pbox⟩, ⟨hL.var, hL.count, hL.size⟩⟩

/-- What the law expects of run: the result, the panic, the log. -/
def expects (B : Nat) (st seed : Int) (Z : List Int) (k : Nat) (boom : Bool) : Int × Value × List Int :=
  if st = 2 then (if Z.length = 0 then (if boom then (0, markP B, []) else (seed, .nilIface, [])) else (0, .nilIface, []))
  else if Z.length ≤ k then (if boom then (0, markP B, Z) else (accTo seed Z seed, .nilIface, Z)) else (0, cancelP B, Z.take (k + 1))

theorem run_any {B : Nat} {w : World} {ia : Option Addr} {icap : Nat} {Z : List Int} {boom : Bool} {k : Nat} {st seed : Int} (h : Pre B w (.slice ia Z.length icap) boom k st seed) (hI : ItemsIn B w ia Z) (hn : Z.length ≤ 1024) (hst : st = 0 ∨ st = 2) :
    Calls Yba.prog 13 #[.pointer (some ⟨B + 5, 0, none⟩), .func (.func 12) #[] #[.pointer (some ⟨B + 7, 0, none⟩), .pointer (some ⟨B + 6, 0, none⟩), .pointer (some ⟨B + 2, 0, none⟩)]] w fun e w' =>
      e = .returned (.tuple #[]) ∧ Post B w w' st seed (expects B st seed Z k boom).1 (expects B st seed Z k boom).2.1 (expects B st seed Z k boom).2.2 := by
  obtain ⟨hE, hL⟩ := h.drewEnv
  have hI1 := items_inRun hI h.size
  rcases hst with rfl | rfl
  · have hf := f_plain hE hI1 hn hL
    by_cases hk : Z.length ≤ k
    · cases boom with
      | true =>
        have e : expects B 0 seed Z k true = (0, markP B, Z) := by simp [expects, hk]
        rw [e]
        refine (run_pan h (markP B) Z (fun w1 => w1.setCell ⟨B + 5, 7, none⟩ (markP B)) (hf.mono fun e w' ⟨h1, h2⟩ => ?_) (fun w1 hk1 => ?_)).mono fun e w' ⟨h1, w1, h2, h3, h4⟩ => ⟨h1, by rw [h4]; exact post_set h h2 h3 _⟩
        · rcases h2 with ⟨_, h3, h4⟩ | ⟨h3, _⟩
          · exact ⟨by simpa using h4, h1, h3⟩
          · omega
        · have hE1 := h.env.1.kept' hk1
          obtain ⟨_, _, _, _, c7, _, f7⟩ := co_cell hE1.co
          exact catch_mark (cell_of_one hE1.cbox) _ c7 f7
      | false =>
        have e : expects B 0 seed Z k false = (accTo seed Z seed, .nilIface, Z) := by simp [expects, hk]
        rw [e]
        refine run_ret h (accTo seed Z seed) Z (hf.mono fun e w' ⟨h1, h2⟩ => ?_)
        rcases h2 with ⟨_, h3, h4⟩ | ⟨h3, _⟩
        · exact ⟨by simpa using h4, h1, h3⟩
        · omega
    · have e : expects B 0 seed Z k boom = (0, cancelP B, Z.take (k + 1)) := by simp [expects, hk]
      rw [e]
      refine (run_pan h (cancelP B) (Z.take (k + 1)) (fun w1 => w1.setCell ⟨B + 5, 7, none⟩ (cancelP B)) (hf.mono fun e w' ⟨h1, h2⟩ => ?_) (fun w1 hk1 => ?_)).mono fun e w' ⟨h1, w1, h2, h3, h4⟩ => ⟨h1, by rw [h4]; exact post_set h h2 h3 _⟩
      · rcases h2 with ⟨h3, _⟩ | ⟨_, h3, h4⟩
        · omega
        · exact ⟨h4, h1, h3⟩
      · have hE1 := h.env.1.kept' hk1
        obtain ⟨_, c1, _, _, c7, _, f7⟩ := co_cell hE1.co
        exact catch_cancel0 (cell_of_one hE1.cbox) c1 _ c7 f7
  · have hf := f_canceled hE hI1 hn
    by_cases hk : Z.length = 0
    · cases boom with
      | true =>
        have e : expects B 2 seed Z k true = (0, markP B, []) := by simp [expects, hk]
        rw [e]
        refine (run_pan h (markP B) [] (fun w1 => w1.setCell ⟨B + 5, 7, none⟩ (markP B)) (hf.mono fun e w' ⟨h1, h2⟩ => ?_) (fun w1 hk1 => ?_)).mono fun e w' ⟨h1, w1, h2, h3, h4⟩ => ⟨h1, by rw [h4]; exact post_set h h2 h3 _⟩
        · subst h1
          rcases h2 with ⟨_, h4⟩ | ⟨h3, _⟩
          · exact ⟨by simpa using h4, KeptS.refl _ _, hL⟩
          · omega
        · have hE1 := h.env.1.kept' hk1
          obtain ⟨_, _, _, _, c7, _, f7⟩ := co_cell hE1.co
          exact catch_mark (cell_of_one hE1.cbox) _ c7 f7
      | false =>
        have e : expects B 2 seed Z k false = (seed, .nilIface, []) := by simp [expects, hk]
        rw [e]
        refine run_ret h seed [] (hf.mono fun e w' ⟨h1, h2⟩ => ?_)
        subst h1
        rcases h2 with ⟨_, h4⟩ | ⟨h3, _⟩
        · exact ⟨by simpa using h4, KeptS.refl _ _, hL⟩
        · omega
    · have e : expects B 2 seed Z k boom = (0, .nilIface, []) := by simp [expects, hk]
      rw [e]
      refine (run_pan h (cancelP B) [] (fun w1 => w1) (hf.mono fun e w' ⟨h1, h2⟩ => ?_) (fun w1 hk1 => ?_)).mono fun e w' ⟨h1, w1, h2, h3, h4⟩ => ⟨h1, by rw [h4]; exact post_kept h h2 h3⟩
      · subst h1
        rcases h2 with ⟨h3, _⟩ | ⟨_, h4⟩
        · omega
        · exact ⟨h4, KeptS.refl _ _, hL⟩
      · have hE1 := h.env.1.kept' hk1
        obtain ⟨_, c1, _⟩ := co_cell hE1.co
        exact catch_cancel2 (cell_of_one hE1.cbox) c1
end Go.Proofs.Ybulkryu
