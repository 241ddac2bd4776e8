import Derived.Test.YbulkryuCatch
import Derived.Deep.RegionHeld3
namespace Go.Proofs.Ybulkryu
open Go.RowKit

/-- What the law has laid when it calls run. -/
structure Pre (B : Nat) (w : World) (iv : Value) (boom : Bool) (k : Nat) (st seed : Int) : Prop where
  size : w.heap.size = B + 8
  items : w.heap[B]? = some (.cells #[iv] 57 (0, 0))
  boomv : w.heap[B + 1]? = some (.cells #[.bool boom] 4 (0, 0))
  kv : w.heap[B + 2]? = some (.cells #[.int .i64 k] 3 (0, 0))
  markv : w.heap[B + 4]? = some (.cells #[.pointer (some ⟨B + 3, 0, none⟩)] 58 (0, 0))
  co : w.heap[B + 5]? = some (coCells B st seed 0 .nilIface)
  logv : w.heap[B + 6]? = some (.cells #[.slice none 0 0] 57 (0, 0))
  count : w.heap[B + 7]? = some (.cells #[.int .i64 0] 3 (0, 0))

/-- The world in which run's body calls f. -/
def inRun (B : Nat) (w : World) : World :=
  ((w.alloc (.cells #[.pointer (some ⟨B + 5, 0, none⟩)] 22)).alloc (.cells #[.func (.func 12) #[] #[.pointer (some ⟨B + 7, 0, none⟩), .pointer (some ⟨B + 6, 0, none⟩), .pointer (some ⟨B + 2, 0, none⟩)]] 61)).alloc (.cells #[.bool false] 4)

theorem Pre.env {B : Nat} {w : World} {iv : Value} {boom : Bool} {k : Nat} {st seed : Int} (h : Pre B w iv boom k st seed) : Env B (inRun B w) iv boom k st seed ∧ Log B (inRun B w) [] ∧ (inRun B w).heap[B + 10]? = some (.cells #[.bool false] 4 (0, 0)) := by
  have hs := h.size
  refine ⟨⟨blk_alloc (blk_alloc (blk_alloc h.items)), blk_alloc (blk_alloc (blk_alloc h.boomv)), blk_alloc (blk_alloc (blk_alloc h.kv)), blk_alloc (blk_alloc (blk_alloc h.markv)), blk_alloc (blk_alloc (blk_alloc h.co)), ?_, ?_⟩, ⟨⟨_, blk_alloc (blk_alloc (blk_alloc h.logv)), World.ownsRow_nil _ _ _ _⟩, blk_alloc (blk_alloc (blk_alloc h.count)), by simp [inRun, hs]⟩, ?_⟩
  · refine blk_alloc (blk_alloc ?_); rw [← hs]; exact heap_alloc_new _ _
  · refine blk_alloc ?_
    have := heap_alloc_new (w.alloc (.cells #[.pointer (some ⟨B + 5, 0, none⟩)] 22)) (.cells #[.func (.func 12) #[] #[.pointer (some ⟨B + 7, 0, none⟩), .pointer (some ⟨B + 6, 0, none⟩), .pointer (some ⟨B + 2, 0, none⟩)]] 61)
    rw [World.size_alloc, hs] at this; exact this
  · have := heap_alloc_new ((w.alloc (.cells #[.pointer (some ⟨B + 5, 0, none⟩)] 22)).alloc (.cells #[.func (.func 12) #[] #[.pointer (some ⟨B + 7, 0, none⟩), .pointer (some ⟨B + 6, 0, none⟩), .pointer (some ⟨B + 2, 0, none⟩)]] 61)) (.cells #[.bool false] 4)
    rw [World.size_alloc, World.size_alloc, hs] at this; exact this

/-- What run leaves. -/
structure Post (B : Nat) (w w' : World) (st seed res : Int) (pan : Value) (L : List Int) : Prop where
  below : Below B w w'
  items : w'.heap[B]? = w.heap[B]?
  boomv : w'.heap[B + 1]? = w.heap[B + 1]?
  kv : w'.heap[B + 2]? = w.heap[B + 2]?
  markv : w'.heap[B + 4]? = w.heap[B + 4]?
  co : w'.heap[B + 5]? = some (coCells B st seed res pan)
  log : Log B w' L

theorem co_set6 {w : World} {B : Nat} {st seed res : Int} {pan : Value} (h : w.heap[B + 5]? = some (coCells B st seed res pan)) (r : Int) : (w.setCell ⟨B + 5, 6, none⟩ (.int .i64 r)).heap[B + 5]? = some (coCells B st seed r pan) := by
  unfold coCells at *
  rw [heap_setCell_same w (B + 5) 6 _ 38 _ h]; rfl
theorem co_set7 {w : World} {B : Nat} {st seed res : Int} {pan : Value} (h : w.heap[B + 5]? = some (coCells B st seed res pan)) (p : Value) : (w.setCell ⟨B + 5, 7, none⟩ p).heap[B + 5]? = some (coCells B st seed res p) := by
  unfold coCells at *
  rw [heap_setCell_same w (B + 5) 7 _ 38 _ h]; rfl

theorem Log.setCell {B : Nat} {w : World} {L : List Int} (h : Log B w L) {a : Addr} (ha : a.block < B + 11) (h6 : a.block ≠ B + 6) (h7 : a.block ≠ B + 7) (u : Value) : Log B (w.setCell a u) L := by
  obtain ⟨⟨v, h1, h2⟩, h3, h4⟩ := h
  exact ⟨⟨v, blk_other h1 (by omega), ownsRow_setCell_below h2 ha u⟩, blk_other h3 (by omega), by simpa [World.setCell] using h4⟩

theorem Env.kept' {B : Nat} {w w' : World} {iv : Value} {boom : Bool} {k : Nat} {st seed : Int} (h : Env B w iv boom k st seed) (hk : KeptS B w.drew w') : Env B w' iv boom k st seed :=
  Env.kept (w := w.drew) ⟨h.items, h.boomv, h.kv, h.markv, h.co, h.cbox, h.pbox⟩ hk

set_option maxHeartbeats 1000000 in
/-- f returns. -/
theorem run_ret {B : Nat} {w : World} {iv : Value} {boom : Bool} {k : Nat} {st seed : Int} (h : Pre B w iv boom k st seed) (r : Int) (L : List Int)
    (hf : Calls Yba.prog 10 #[.int .i64 seed, .func (.func 20) #[] #[.pointer (some ⟨B + 8, 0, none⟩), .pointer (some ⟨B + 9, 0, none⟩)], .pointer (some ⟨B, 0, none⟩), .pointer (some ⟨B + 1, 0, none⟩), .pointer (some ⟨B + 4, 0, none⟩)] (inRun B w).drew
      fun e w' => e = .returned (.int .i64 r) ∧ KeptS B (inRun B w).drew w' ∧ Log B w' L) :
    Calls Yba.prog 13 #[.pointer (some ⟨B + 5, 0, none⟩), .func (.func 12) #[] #[.pointer (some ⟨B + 7, 0, none⟩), .pointer (some ⟨B + 6, 0, none⟩), .pointer (some ⟨B + 2, 0, none⟩)]] w fun e w' =>
      e = .returned (.tuple #[]) ∧ Post B w w' st seed r .nilIface L := by
  have hmf : ∀ (fn : Fn) (first cap : Array Value) (w : World), (Instr.makeFunc fn first cap).run Yba.prog w = .ok (.func fn first cap) w := fun _ _ _ _ => rfl
  have hs := h.size
  have e1 : B + 8 + 1 = B + 9 := rfl
  have e2 : B + 9 + 1 = B + 10 := rfl
  have HF : Hid _ := hf
  clear hf
  go_enter_defers Yba.func13, Yba.ntmps13
  go_wp2_with fail
  generalize hwx : ((w.alloc (.cells #[.pointer (some ⟨B + 5, 0, none⟩)] 22)).alloc (.cells #[.func (.func 12) #[] #[.pointer (some ⟨B + 7, 0, none⟩), .pointer (some ⟨B + 6, 0, none⟩), .pointer (some ⟨B + 2, 0, none⟩)]] 61)).alloc (.cells #[.bool false] 4) = wx
  have hwx' : inRun B w = wx := hwx
  obtain ⟨hE, hL, hR⟩ := h.env
  rw [hwx'] at hE hL hR HF
  have hbel : Below B w wx := by
    rw [← hwx']; exact ((((Below.refl B w).alloc (by omega) _).alloc (by simp; omega) _).alloc (by simp; omega) _)
  have c8 := cell_of_one hE.cbox
  obtain ⟨c0, c1, c5, c6, c7, f6, f7⟩ := co_cell hE.co
  have HX : Hid (_ ∧ _ ∧ _ ∧ _) := ⟨hE, hR, hbel, h⟩
  clear hE hL hR hbel h hwx hwx' hs hmf
  go_region_held3 (fun w' => w'.cell? ⟨B + 8, 0, none⟩ = some (.pointer (some ⟨B + 5, 0, none⟩)) ∧ w'.cell? ⟨B + 5, 0, none⟩ = some (.func (.func 10) #[] #[.pointer (some ⟨B, 0, none⟩), .pointer (some ⟨B + 1, 0, none⟩), .pointer (some ⟨B + 4, 0, none⟩)]) ∧ w'.cell? ⟨B + 5, 5, none⟩ = some (.int .i64 seed)) (first | (go_keep; done) | ((try dsimp only); (repeat' apply And.intro) <;> (first | (simp [go_sem, *]; done))))
    (first | (go_at_call 10; refine Calls.mono HF.out ?_; rintro e w1 ⟨rfl, hkept, hlog⟩; have c8' := cell_of_one (hkept.blk HX.out.1.cbox (by omega) (by omega) (by omega)); obtain ⟨d0, d1, d5, d6, d7, g6, g7⟩ := co_cell (hkept.blk HX.out.1.co (by omega) (by omega) (by omega))))
  have hR1 := hkept.blk HX.out.2.1 (by omega) (by omega) (by omega)
  have d10 := cell_of_one hR1
  have g10 := free_of_one hR1
  go_wp2
  refine leaves_cons (f := 17) (args := #[.pointer (some ⟨B + 8, 0, none⟩), .pointer (some ⟨B + 10, 0, none⟩)]) (by simp) (by simp [go_sem]) ?_
  refine (catch_idle (cell_of_one (one_setCell (blk_other hR1 (by simp))))).mono ?_
  rintro e u' w'' ⟨rfl, rfl, rfl⟩
  obtain ⟨hE, _, hbel, h⟩ := HX.out
  have hE1 := hE.kept' hkept
  refine ⟨.tuple #[], results_none rfl _ _ _, rfl, ⟨?_, ?_, ?_, ?_, ?_, ?_, ?_⟩⟩
  · exact ((hbel.drew.trans hkept.below).setCell (by simp) _).setCell (by simp) _
  · rw [h.items]; exact blk_other (blk_other hE1.items (by simp)) (by simp)
  · rw [h.boomv]; exact blk_other (blk_other hE1.boomv (by simp)) (by simp)
  · rw [h.kv]; exact blk_other (blk_other hE1.kv (by simp)) (by simp)
  · rw [h.markv]; exact blk_other (blk_other hE1.markv (by simp)) (by simp)
  · exact blk_other (co_set6 hE1.co r) (by simp)
  · exact (hlog.setCell (by simp) (by simp) (by simp) _).setCell (by simp) (by simp) (by simp) _
end Go.Proofs.Ybulkryu
