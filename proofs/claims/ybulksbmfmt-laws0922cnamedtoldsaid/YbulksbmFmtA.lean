import Derived.Test.YbulksbmFmtRows
import Derived.Test.YbulksbmFmtChecked
import Derived.Stop.CallBack
import Derived.Stop.IfaceNil
import GoSem.ClaimData
import Derived.WalkKit
import Derived.WalkSpells
import Derived.Deep.RegionWith
namespace Go.Proofs.YbulksbmFmt
open Go.RowKit Go.Extern.Stop Go.Stop Go.Extern

theorem call6 (args : Array Value) (w : World) : (callFunc 6 args).run Ybaf.prog w = ((FmtStop.sprintf #[9, 44] #[9] args).run Ybaf.prog w).andThen fun v w' => .ok (.value v) w' :=
  run_callFunc_extern Ybaf.func6 (by kernel_rfl) (by kernel_rfl) (by kernel_rfl) (by kernel_rfl) args w
theorem guard6 (name : String) (w : World) : (FmtStop.guard name).run Ybaf.prog w = .ok () w := by kernel_rfl

theorem fmt4 : FmtStop.printed? ⟨#[37, 115, 32, 37, 100, 32, 99, 114, 97, 115, 104, 101, 115, 32, 109, 111, 114, 101, 32, 116, 104, 97, 110, 32, 116, 104, 101, 32, 37, 100, 32, 37, 115]⟩ 4 = some [(0, 115, false), (1, 100, false), (2, 100, false), (3, 115, false)] := by kernel_rfl
theorem fmt4r (w : World) : (FmtDoors.printed ⟨#[37, 115, 32, 37, 100, 32, 99, 114, 97, 115, 104, 101, 115, 32, 109, 111, 114, 101, 32, 116, 104, 97, 110, 32, 116, 104, 101, 32, 37, 100, 32, 37, 115]⟩ 4).run Ybaf.prog w = .ok [(0, 115, false), (1, 100, false), (2, 100, false), (3, 115, false)] w := by kernel_rfl

def shape3 : List UInt8 := [5, 3, 0, 0, 0, 0, 0, 0, 0, 105, 110, 116]
def shape9 : List UInt8 := [12, 6, 0, 0, 0, 0, 0, 0, 0, 115, 116, 114, 105, 110, 103]
theorem op3 (name : String) (x : Int) (w : World) : (FmtStop.operand name false 100 false (.iface 3 (.int .i64 x))).run Ybaf.prog w = .ok (shape3, Go.Extern.Stop.digits 8 (x % 2 ^ 64).toNat) w := by kernel_rfl

theorem op9 (name : String) (x : ByteArray) (w : World) : (FmtStop.operand name false 115 false (.iface 9 (.string x))).run Ybaf.prog w = .ok (shape9, FmtStop.pack x.data.toList) w := by kernel_rfl

/-- The text that the stopped front is told: of the name, the numbers and the part. -/
def txt (F : Interp) (prop : Bool) (nodes part : Int) (name : ByteArray) : ByteArray :=
  FmtStop.textOf (F "fmt.Sprintf"
    [[37, 115, 32, 37, 100, 32, 99, 114, 97, 115, 104, 101, 115, 32, 109, 111, 114, 101, 32, 116, 104, 97, 110, 32, 116, 104, 101, 32, 37, 100, 32, 37, 115],
      shape9, FmtStop.pack name.data.toList, shape3, digits 8 (nodes % 18446744073709551616).toNat, shape3, digits 8 (part % 18446744073709551616).toNat, shape9,
      FmtStop.pack (if prop then [112, 114, 111, 112, 111, 115, 101, 114, 115] else [97, 99, 99, 101, 112, 116, 111, 114, 115])] 0)

theorem c5 (F : Interp) (B : Nat) (prop : Bool) (nodes part : Int) (name : ByteArray) (w : World) (hF : F.answers w.tape)
    (f0 : w.cell? ⟨B, 0, none⟩ = some (.bool prop)) (f1 : w.cell? ⟨B, 1, none⟩ = some (.int .i64 nodes)) (f2 : w.cell? ⟨B, 2, none⟩ = some (.int .i64 part)) :
    Calls Ybaf.prog 5 #[.pointer (some ⟨B, 0, none⟩), .string name] w fun e w' => e = .returned (.string (txt F prop nodes part name)) ∧ Below w.heap.size w w' := by
  have hF' := answers_open hF
  have h1 := call6
  have h2 := guard6
  have h3 := fmt4
  have h4 := fmt4r
  have h5 := op3
  have h6 := op9
  cases prop with
  | true =>
    go_enter Ybaf.func5, Ybaf.ntmps5
    go_wp2_with fail
    go_region
    all_goals go_wp2_with fail
    all_goals go_ret
    all_goals exact ⟨rfl, ((Below.refl _ w).alloc (Nat.le_refl _) _).drew.drew⟩
  | false =>
    go_enter Ybaf.func5, Ybaf.ntmps5
    go_wp2_with fail
    go_region
    all_goals go_wp2_with fail
    all_goals go_ret
    all_goals exact ⟨rfl, ((Below.refl _ w).alloc (Nat.le_refl _) _).drew.drew⟩

/-- The crash's own name. -/
def own (prop : Bool) : ByteArray := if prop then ⟨#[67, 114, 97, 115, 104, 80, 114, 111, 112, 111, 115, 101, 114, 115]⟩ else ⟨#[67, 114, 97, 115, 104]⟩

theorem c4 (F : Interp) (B : Nat) (prop : Bool) (nodes part : Int) (w : World) (hF : F.answers w.tape)
    (f0 : w.cell? ⟨B, 0, none⟩ = some (.bool prop)) (f1 : w.cell? ⟨B, 1, none⟩ = some (.int .i64 nodes)) (f2 : w.cell? ⟨B, 2, none⟩ = some (.int .i64 part)) :
    Calls Ybaf.prog 4 #[.pointer (some ⟨B, 0, none⟩)] w fun e w' => e = .returned (.string (txt F prop nodes part (own prop))) ∧ Below w.heap.size w w' := by
  have H : Hid _ := c5 F B prop nodes part (own prop) w hF f0 f1 f2
  cases prop with
  | true =>
    go_enter Ybaf.func4, Ybaf.ntmps4
    go_wp2_with fail
    refine Calls.mono H.out ?_
    rintro e w' ⟨rfl, hb⟩
    have HB : Hid _ := hb
    clear hb
    go_wp2_with fail
    go_ret
    exact ⟨rfl, HB.out⟩
  | false =>
    go_enter Ybaf.func4, Ybaf.ntmps4
    go_wp2_with fail
    refine Calls.mono H.out ?_
    rintro e w' ⟨rfl, hb⟩
    have HB : Hid _ := hb
    clear hb
    go_wp2_with fail
    go_ret
    exact ⟨rfl, HB.out⟩

theorem three_cell {w : World} {b : Nat} {x0 x1 x2 : Value} {t : TypeId} (h : w.heap[b]? = some (.cells #[x0, x1, x2] t (0, 0))) :
    w.cell? ⟨b, 0, none⟩ = some x0 ∧ w.cell? ⟨b, 1, none⟩ = some x1 ∧ w.cell? ⟨b, 2, none⟩ = some x2 := by
  refine ⟨?_, ?_, ?_⟩
  · simp [World.cell?, h]
  · simp [World.cell?, h]
  · simp [World.cell?, h]

theorem blk_new (w : World) (o : Obj) : (w.alloc o).heap[w.heap.size]? = some o := by
  show (w.heap.push o)[w.heap.size]? = some o
  exact Array.getElem?_push_size

theorem law_calls (F : Interp) (prop : Bool) (nodes part : Int) (w : World) (hF : F.answers w.tape) :
    Calls Ybaf.prog 3 #[.bool prop, .int .i64 nodes, .int .i64 part] w fun e w' => e = .returned (.bool true) ∧ Below w.heap.size w w' := by
  obtain ⟨x, hx⟩ : ∃ x, x = txt F prop nodes part (own prop) := ⟨_, rfl⟩
  have hw : (w.alloc (.cells #[.bool prop, .int .i64 nodes, .int .i64 part] 24)).heap[w.heap.size]? = some (.cells #[.bool prop, .int .i64 nodes, .int .i64 part] 24 (0, 0)) := blk_new w _
  have hb0 : Below w.heap.size w (w.alloc (.cells #[.bool prop, .int .i64 nodes, .int .i64 part] 24)) := (Below.refl _ w).alloc (Nat.le_refl _) _
  obtain ⟨k0, k1, k2⟩ := three_cell hw
  have H4 : Hid _ := c4 F w.heap.size prop nodes part _ (by rw [hb0.tape]; exact hF) k0 k1 k2
  have HH : Hid (_ ∧ _) := ⟨hw, hb0⟩
  rw [← hx] at H4
  have HX : Hid _ := hx
  clear hx hw hb0 k0 k1 k2
  cases prop with
  | true =>
    go_enter Ybaf.func3, Ybaf.ntmps3
    go_wp2_with fail
    refine Calls.mono H4.out ?_
    rintro e w1 ⟨rfl, hb⟩
    have hb1 := HH.out.2.trans (hb.mono (by simp))
    have hw1 : w1.heap[w.heap.size]? = some (.cells #[.bool true, .int .i64 nodes, .int .i64 part] 24 (0, 0)) := by
      rw [hb.block _ (by simp)]; exact HH.out.1
    obtain ⟨k0, k1, k2⟩ := three_cell hw1
    have H5 : Hid _ := c5 F w.heap.size true nodes part (own true) w1 (by rw [hb1.tape]; exact hF) k0 k1 k2
    have HB : Hid (_ ∧ _) := ⟨hw1, hb1⟩
    clear hb hb1 hw1
    go_wp2_with fail
    refine Calls.mono H5.out ?_
    rintro e w2 ⟨rfl, hb⟩
    have hw2 : w2.heap[w.heap.size]? = some (.cells #[.bool true, .int .i64 nodes, .int .i64 part] 24 (0, 0)) := by
      rw [hb.block _ (lt_of_block HB.out.1)]; exact HB.out.1
    obtain ⟨m0, m1, m2⟩ := three_cell hw2
    have HC : Hid _ := HB.out.2.trans (hb.mono HB.out.2.size)
    clear hb hw2
    have hxx := HX.out
    rw [← hxx]
    clear hxx
    go_wp2_with fail
    go_ret
    exact ⟨rfl, HC.out⟩
  | false =>
    go_enter Ybaf.func3, Ybaf.ntmps3
    go_wp2_with fail
    refine Calls.mono H4.out ?_
    rintro e w1 ⟨rfl, hb⟩
    have hb1 := HH.out.2.trans (hb.mono (by simp))
    have hw1 : w1.heap[w.heap.size]? = some (.cells #[.bool false, .int .i64 nodes, .int .i64 part] 24 (0, 0)) := by
      rw [hb.block _ (by simp)]; exact HH.out.1
    obtain ⟨k0, k1, k2⟩ := three_cell hw1
    have H5 : Hid _ := c5 F w.heap.size false nodes part (own false) w1 (by rw [hb1.tape]; exact hF) k0 k1 k2
    have HB : Hid (_ ∧ _) := ⟨hw1, hb1⟩
    clear hb hb1 hw1
    go_wp2_with fail
    refine Calls.mono H5.out ?_
    rintro e w2 ⟨rfl, hb⟩
    have hw2 : w2.heap[w.heap.size]? = some (.cells #[.bool false, .int .i64 nodes, .int .i64 part] 24 (0, 0)) := by
      rw [hb.block _ (lt_of_block HB.out.1)]; exact HB.out.1
    obtain ⟨m0, m1, m2⟩ := three_cell hw2
    have HC : Hid _ := HB.out.2.trans (hb.mono HB.out.2.size)
    clear hb hw2
    have hxx := HX.out
    rw [← hxx]
    clear hxx
    go_wp2_with fail
    go_ret
    exact ⟨rfl, HC.out⟩
end Go.Proofs.YbulksbmFmt
