import Derived.Test.YbulkryuPause
namespace Go.Proofs.Ybulkryu
open Go.RowKit

/-- The coroutine's nine cells. -/
def coCells (B : Nat) (st seed res : Int) (pan : Value) : Obj :=
  .cells #[.func (.func 10) #[] #[.pointer (some ⟨B, 0, none⟩), .pointer (some ⟨B + 1, 0, none⟩), .pointer (some ⟨B + 4, 0, none⟩)], .int .u32 st, .pointer none, .nilFunc, .nilFunc, .int .i64 seed, .int .i64 res, pan, .int .u8 0] 38 (0, 0)

/-- What does not turn while f runs. -/
structure Env (B : Nat) (w : World) (iv : Value) (boom : Bool) (k : Nat) (st seed : Int) : Prop where
  items : w.heap[B]? = some (.cells #[iv] 57 (0, 0))
  boomv : w.heap[B + 1]? = some (.cells #[.bool boom] 4 (0, 0))
  kv : w.heap[B + 2]? = some (.cells #[.int .i64 k] 3 (0, 0))
  markv : w.heap[B + 4]? = some (.cells #[.pointer (some ⟨B + 3, 0, none⟩)] 58 (0, 0))
  co : w.heap[B + 5]? = some (coCells B st seed 0 .nilIface)
  cbox : w.heap[B + 8]? = some (.cells #[.pointer (some ⟨B + 5, 0, none⟩)] 22 (0, 0))
  pbox : w.heap[B + 9]? = some (.cells #[.func (.func 12) #[] #[.pointer (some ⟨B + 7, 0, none⟩), .pointer (some ⟨B + 6, 0, none⟩), .pointer (some ⟨B + 2, 0, none⟩)]] 61 (0, 0))

theorem Env.kept {B : Nat} {w w' : World} {iv : Value} {boom : Bool} {k : Nat} {st seed : Int} (h : Env B w iv boom k st seed) (hk : KeptS B w w') : Env B w' iv boom k st seed :=
  ⟨hk.blk h.items (by omega) (by omega) (by omega), hk.blk h.boomv (by omega) (by omega) (by omega), hk.blk h.kv (by omega) (by omega) (by omega), hk.blk h.markv (by omega) (by omega) (by omega),
    hk.blk h.co (by omega) (by omega) (by omega), hk.blk h.cbox (by omega) (by omega) (by omega), hk.blk h.pbox (by omega) (by omega) (by omega)⟩

theorem co_cell {w : World} {B : Nat} {st seed res : Int} {pan : Value} (h : w.heap[B + 5]? = some (coCells B st seed res pan)) :
    w.cell? ⟨B + 5, 0, none⟩ = some (.func (.func 10) #[] #[.pointer (some ⟨B, 0, none⟩), .pointer (some ⟨B + 1, 0, none⟩), .pointer (some ⟨B + 4, 0, none⟩)]) ∧ w.cell? ⟨B + 5, 1, none⟩ = some (.int .u32 st) ∧ w.cell? ⟨B + 5, 5, none⟩ = some (.int .i64 seed) ∧
    w.cell? ⟨B + 5, 6, none⟩ = some (.int .i64 res) ∧ w.cell? ⟨B + 5, 7, none⟩ = some pan ∧ w.frozen? ⟨B + 5, 6, none⟩ = false ∧ w.frozen? ⟨B + 5, 7, none⟩ = false := by
  unfold coCells at h
  refine ⟨?_, ?_, ?_, ?_, ?_, ?_, ?_⟩
  · simp [World.cell?, h]
  · simp [World.cell?, h]
  · simp [World.cell?, h]
  · simp [World.cell?, h]
  · simp [World.cell?, h]
  · simp [World.frozen?, h]
  · simp [World.frozen?, h]

/-- What a canceled yield panics with. -/
def cancelP (B : Nat) : Value := .iface 63 (.pointer (some ⟨B + 5, 8, none⟩))

theorem and22 : bits .and .u32 2 2 = 2 := by kernel_rfl
theorem and02 : bits .and .u32 0 2 = 0 := by kernel_rfl

set_option maxHeartbeats 1000000 in
theorem yield_canceled {B : Nat} {w : World} {iv : Value} {boom : Bool} {k : Nat} {seed : Int} (out : Int) (h : Env B w iv boom k 2 seed) :
    Calls Yba.prog 20 #[.int .i64 out, .pointer (some ⟨B + 8, 0, none⟩), .pointer (some ⟨B + 9, 0, none⟩)] w fun e w' => e = .panicked [{ v := cancelP B, recovered := false }] ∧ w' = w := by
  have c8 := cell_of_one h.cbox
  obtain ⟨_, c1, c5, _⟩ := co_cell h.co
  have hb := and22
  clear h
  go_enter Yba.func20, Yba.ntmps20
  go_wp2_with fail
  refine (load_state _ _ 2 _ c1).mono ?_
  rintro e w' ⟨rfl, rfl⟩
  go_wp2
  exact ⟨rfl, rfl, rfl⟩

/-- How a yield ends that is not canceled. -/
def OutY (B : Nat) (w : World) (L : List Int) (out : Int) (k : Nat) (seed : Int) (e : Ending) (w' : World) : Prop :=
  Log B w' (L ++ [out]) ∧ KeptS B w w' ∧ e = if L.length + 1 ≤ k then .returned (.int .i64 seed) else .panicked [{ v := cancelP B, recovered := false }]

set_option maxHeartbeats 1000000 in
theorem yield_plain {B : Nat} {w : World} {iv : Value} {boom : Bool} {k : Nat} {seed : Int} {L : List Int} (out : Int) (h : Env B w iv boom k 0 seed) (hL : Log B w L) (hl : L.length ≤ 1024) :
    Calls Yba.prog 20 #[.int .i64 out, .pointer (some ⟨B + 8, 0, none⟩), .pointer (some ⟨B + 9, 0, none⟩)] w fun e w' => OutY B w L out k seed e w' := by
  have c8 := cell_of_one h.cbox
  have c9 := cell_of_one h.pbox
  obtain ⟨_, c1, c5, _⟩ := co_cell h.co
  have hb := and02
  have HP : Hid _ := pause_any out hL h.kv hl
  have HE : Hid _ := h
  clear h hL
  go_enter Yba.func20, Yba.ntmps20
  go_wp2_with fail
  refine (load_state _ _ 0 _ c1).mono ?_
  rintro e w' ⟨rfl, rfl⟩
  go_wp2_with fail
  refine Calls.mono HP.out ?_
  rintro e w1 ⟨rfl, hlog, hkept⟩
  have h1 := HE.out.kept hkept
  have d8 := cell_of_one h1.cbox
  obtain ⟨_, d1, d5, _⟩ := co_cell h1.co
  have HF : Hid (_ ∧ _) := ⟨hlog, hkept⟩
  clear h1 hlog hkept HE HP
  by_cases hk : L.length + 1 ≤ k
  · have hd : decide (L.length + 1 ≤ k) = true := by simpa using hk
    go_wp2
    go_ret
    exact ⟨HF.out.1, HF.out.2, by rw [if_pos hk]; rfl⟩
  · have hd : decide (L.length + 1 ≤ k) = false := by simpa using hk
    go_wp2
    exact ⟨rfl, HF.out.1, HF.out.2, by rw [if_neg hk]; rfl⟩
end Go.Proofs.Ybulkryu
