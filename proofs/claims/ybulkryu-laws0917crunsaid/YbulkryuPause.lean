import Derived.Test.YbulkryuAtomics
import Derived.Deep.LoopGhost
import Derived.Deep.QuietTactic
import Derived.BigQuiet
namespace Go.Proofs.Ybulkryu
open Go.RowKit

theorem Yba.info3 : (Yba.prog.info? 3).map (fun i => (i.zero, i.size, i.bytes)) = some (some (.int .i64 0), 1, 8) := by kernel_rfl

theorem blk_alloc {w : World} {o x : Obj} {k : Nat} (h : w.heap[k]? = some x) : (w.alloc o).heap[k]? = some x := by rw [Below.heap_alloc _ _ _ (lt_of_block h)]; exact h
theorem blk_other {w : World} {a : Addr} {v : Value} {x : Obj} {k : Nat} (h : w.heap[k]? = some x) (hk : k ≠ a.block) : (w.setCell a v).heap[k]? = some x := by rw [Below.heap_setCell _ _ _ _ hk]; exact h
theorem ownBlock_ge {w : World} {base : Nat} {e : TypeId} {size : Nat} {v : Value} {n : Nat} {xs : List Value} (h : w.ownsRow base e size v n xs) : ∀ k, v.ownBlock = some k → base ≤ k := by
  intro k hk
  obtain ⟨_, h | ⟨g, cap, cur, rfl, hg, _⟩⟩ := h
  · rw [h.1] at hk; simp [Value.ownBlock] at hk
  · simp [Value.ownBlock] at hk; omega
theorem own_form {w : World} {base : Nat} {e : TypeId} {v : Value} {n : Nat} {xs : List Value} (h : w.ownsRow base e 1 v n xs) : ∃ a cap, v = .slice a n cap := by
  obtain ⟨_, ⟨h1, h2⟩ | ⟨g, cap, cur, rfl, _⟩⟩ := h
  · exact ⟨none, 0, by rw [h1, h2]⟩
  · exact ⟨_, _, rfl⟩

/-- Below block B + 11 all blocks but those of the log's variable and of the count are as they were. -/
structure KeptS (B : Nat) (w w' : World) : Prop where
  os : w'.os = w.os
  tape : w'.tape = w.tape
  output : w'.output = w.output
  size : w.heap.size ≤ w'.heap.size
  block : ∀ k, k < B + 11 → k ≠ B + 6 → k ≠ B + 7 → w'.heap[k]? = w.heap[k]?

theorem KeptS.refl (B : Nat) (w : World) : KeptS B w w := ⟨rfl, rfl, rfl, Nat.le_refl _, fun _ _ _ _ => rfl⟩
theorem KeptS.trans {B : Nat} {a b c : World} (h : KeptS B a b) (k : KeptS B b c) : KeptS B a c :=
  ⟨k.os.trans h.os, k.tape.trans h.tape, k.output.trans h.output, Nat.le_trans h.size k.size, fun i hi h1 h2 => (k.block i hi h1 h2).trans (h.block i hi h1 h2)⟩
theorem KeptS.drewN {B : Nat} {a w : World} (h : KeptS B a w) (q : Nat) : KeptS B a (w.drewN q) := ⟨h.os, h.tape, h.output, h.size, h.block⟩
theorem KeptS.below {B : Nat} {w w' : World} (h : KeptS B w w') : Below B w w' := ⟨h.os, h.tape, h.output, h.size, fun k hk => h.block k (by omega) (by omega) (by omega)⟩
theorem KeptS.blk {B : Nat} {w w' : World} (h : KeptS B w w') {k : Nat} {x : Obj} (hk : w.heap[k]? = some x) (h0 : k < B + 11) (h1 : k ≠ B + 6) (h2 : k ≠ B + 7) : w'.heap[k]? = some x := by
  rw [h.block k h0 h1 h2]; exact hk

/-- The log: its variable, the count, the row. -/
structure Log (B : Nat) (w : World) (L : List Int) : Prop where
  var : ∃ v, w.heap[B + 6]? = some (.cells #[v] 57 (0, 0)) ∧ w.ownsRow (B + 11) 3 1 v L.length (L.map (Value.int .i64))
  count : w.heap[B + 7]? = some (.cells #[.int .i64 L.length] 3 (0, 0))
  size : B + 11 ≤ w.heap.size

def OutP (B : Nat) (w : World) (L : List Int) (out : Int) (k : Nat) (e : Ending) (w' : World) : Prop :=
  e = .returned (.bool (decide (L.length + 1 ≤ k))) ∧ Log B w' (L ++ [out]) ∧ KeptS B w w'

set_option maxHeartbeats 1000000 in
theorem pause_any {w : World} {B k : Nat} {L : List Int} (out : Int) (hL : Log B w L) (hk : w.heap[B + 2]? = some (.cells #[.int .i64 k] 3 (0, 0))) (hl : L.length ≤ 1024) :
    Calls Yba.prog 12 #[.int .i64 out, .pointer (some ⟨B + 7, 0, none⟩), .pointer (some ⟨B + 6, 0, none⟩), .pointer (some ⟨B + 2, 0, none⟩)] w fun e w' => OutP B w L out k e w' := by
  obtain ⟨⟨v, hv, hown⟩, hcnt, hsz⟩ := hL
  obtain ⟨i0, hi, hz0, hz1, hz2⟩ := info_parts Yba.info3
  have c2 := cell_of_one hk
  have c6 := cell_of_one hv
  have c7 := cell_of_one hcnt
  have f6 := free_of_one hv
  have f7 := free_of_one hcnt
  have s2 : B + 2 < w.heap.size := by omega
  have s6 : B + 6 < w.heap.size := by omega
  have s7 : B + 7 < w.heap.size := by omega
  obtain ⟨va, vc, rfl⟩ := own_form hown
  have hown1 : (w.setCell ⟨B + 7, 0, none⟩ (.int .i64 ((L.length : Int) + 1))).ownsRow (B + 11) 3 1 (.slice va L.length vc) L.length (L.map (Value.int .i64)) := ownsRow_setCell_below hown (by simp) _
  have HO : Hid (_ ∧ _ ∧ _ ∧ _ ∧ _) := ⟨hown1, hv, hcnt, hk, hown⟩
  clear hown hown1 hv hcnt hk
  go_enter Yba.func12, Yba.ntmps12
  go_wp2_with (at_builtin; refine wpList_append_own _ rfl (.tmp 8) (.tmp 10) 57 rfl (B + 11) 3 i0 (.int .i64 0) 1 8 Yba.underlying57 hi hz0 hz1 hz2 rfl (by decide) _ L.length (L.map (Value.int .i64)) rfl (HO.out.1.alloc _) ⟨w.heap.size, 0, none⟩ 1 1 [.int .i64 out] rfl rfl ?c1 ?c2 ?c3 ?c4 ?c5 ?_)
  case c1 =>
    intro j u hj
    match j, hj with
    | 0, hj => simp at hj; subst hj; simp [Addr.add, go_sem]
  case c2 => intro u hu; simp at hu; subst hu; rfl
  case c3 => unfold maxLen; omega
  case c4 => omega
  case c5 => simp; omega
  · intro v' w1 hown' hgrow _
    obtain ⟨va', vc', rfl⟩ := own_form hown'
    obtain ⟨v', hv'⟩ : ∃ v', v' = Value.slice va' (L.length + 1) vc' := ⟨_, rfl⟩
    rw [← hv'] at hown'
    obtain ⟨hown1, hv, hcnt, hk, hown⟩ := HO.out
    have hb : ∀ b x, b < B + 11 → b ≠ B + 7 → w.heap[b]? = some x → w1.heap[b]? = some x := by
      intro b x h1 h2 h3
      rw [hgrow.block b (by simp; omega) (fun e => by have := ownBlock_ge hown b e.symm; omega)]
      exact blk_alloc (blk_other h3 h2)
    have hv1 := hb _ _ (by omega) (by omega) hv
    have hk1 := hb _ _ (by omega) (by omega) hk
    have hcnt1 : w1.heap[B + 7]? = some (.cells #[.int .i64 ((L.length : Int) + 1)] 3 (0, 0)) := by
      rw [hgrow.block (B + 7) (by simp; omega) (fun e => by have := ownBlock_ge hown _ e.symm; omega)]
      exact blk_alloc (one_setCell hcnt)
    have hkept : KeptS B w (w1.setCell ⟨B + 6, 0, none⟩ v') := by
      refine ⟨hgrow.os, hgrow.tape, hgrow.output, ?_, fun b h1 h2 h3 => ?_⟩
      · have := hgrow.size; simp at this; simp [World.setCell]; omega
      · rw [Below.heap_setCell _ _ _ _ h2, hgrow.block b (by simp; omega) (fun e => by have := ownBlock_ge hown b e.symm; omega), Below.heap_alloc _ _ _ (by simp; omega), Below.heap_setCell _ _ _ _ h3]
    have hsz1 : B + 11 ≤ w1.heap.size := by have := hgrow.size; simp at this; omega
    have hown2 : w1.ownsRow (B + 11) 3 1 v' (L ++ [out]).length ((L ++ [out]).map (Value.int .i64)) := by simpa using hown'
    have hlog : Log B (w1.setCell ⟨B + 6, 0, none⟩ v') (L ++ [out]) := by
      refine ⟨⟨v', one_setCell hv1, ownsRow_setCell_below hown2 (by simp) _⟩, ?_, by simp [World.setCell]; omega⟩
      have := blk_other (a := ⟨B + 6, 0, none⟩) (v := v') hcnt1 (by simp)
      simpa using this
    have d6 := cell_of_one hv1
    have d7 := cell_of_one hcnt1
    have d2 := cell_of_one hk1
    have g6 := free_of_one hv1
    have HF : Hid (_ ∧ _) := ⟨hlog, hkept⟩
    subst hv'
    clear hown' hgrow hown1 hv hcnt hk hown hb hv1 hk1 hcnt1 hkept hown2 hlog HO c2 c6 c7 f6 f7 hi hz0 hz1 hz2
    go_wp2
    go_ret
    obtain ⟨hlog, hkept⟩ := HF.out
    have e : decide ((L.length : Int) + 1 ≤ (k : Int)) = decide (L.length + 1 ≤ k) := decide_eq_decide.2 (by omega)
    exact ⟨congrArg (fun b => Ending.returned (Value.bool b)) e, hlog, hkept⟩
end Go.Proofs.Ybulkryu
