import Derived.Test.Qxb6613439aFmtC
import Derived.Stop.CallBack
import Derived.Stop.IfaceNil
import Derived.Stop.JoinedTold
import GoSem.ClaimData
namespace Go.Proofs.Qxb6613439aFmt
open Go.ChangeShapes Go.WideShapes Go.ChangeAt Go.RowKit
open Go.Extern.Stop Go.Stop Go.Extern

/-! ### The closed facts for the walk over fmt's stopped front (after the guide's CheckFmt.lean, at this dump's numbers) -/
theorem call17 (args : Array Value) (w : World) : (callFunc 17 args).run Tryf.prog w = ((FmtStop.errorf #[9, 40] #[34] args).run Tryf.prog w).andThen fun v w' => .ok (.value v) w' :=
  run_callFunc_extern Tryf.func17 (by kernel_rfl) (by kernel_rfl) (by kernel_rfl) (by kernel_rfl) args w
theorem guardF (name : String) (w : World) : (FmtStop.guard name).run Tryf.prog w = .ok () w := by kernel_rfl
theorem fmt0 : FmtStop.printed? ⟨#[98, 121, 116, 101, 32, 37, 100, 32, 111, 102, 32, 105, 116, 115, 32, 74, 83, 79, 78, 58, 32, 119, 97, 110, 116, 32, 37, 115]⟩ 2 = some [(0, 100, false), (1, 115, false)] := by kernel_rfl
theorem fmt0r (w : World) : (FmtDoors.printed ⟨#[98, 121, 116, 101, 32, 37, 100, 32, 111, 102, 32, 105, 116, 115, 32, 74, 83, 79, 78, 58, 32, 119, 97, 110, 116, 32, 37, 115]⟩ 2).run Tryf.prog w = .ok [(0, 100, false), (1, 115, false)] w := by kernel_rfl
def shape9 : List UInt8 := [12, 6, 0, 0, 0, 0, 0, 0, 0, 115, 116, 114, 105, 110, 103]
def shape3 : List UInt8 := [5, 3, 0, 0, 0, 0, 0, 0, 0, 105, 110, 116]
theorem op9_115 (name : String) (x : ByteArray) (w : World) : (FmtStop.operand name false 115 false (.iface 9 (.string x))).run Tryf.prog w = .ok (shape9, FmtStop.pack x.data.toList) w := by kernel_rfl
theorem op9_115w (name : String) (x : ByteArray) (w : World) : (FmtStop.operand name true 115 false (.iface 9 (.string x))).run Tryf.prog w = .ok (shape9, FmtStop.pack x.data.toList) w := by kernel_rfl
theorem op3_100 (name : String) (x : Int) (w : World) : (FmtStop.operand name false 100 false (.iface 3 (.int .i64 x))).run Tryf.prog w = .ok (shape3, Go.Extern.Stop.digits 8 (x % 2 ^ 64).toNat) w := by kernel_rfl
theorem op3_100w (name : String) (x : Int) (w : World) : (FmtStop.operand name true 100 false (.iface 3 (.int .i64 x))).run Tryf.prog w = .ok (shape3, Go.Extern.Stop.digits 8 (x % 2 ^ 64).toNat) w := by kernel_rfl
theorem ptr43 (w : World) : (FmtStop.ptrTo "errors.errorString").run Tryf.prog w = .ok 43 w := by kernel_rfl
theorem elem43 (w : World) : (elemOf 43).run Tryf.prog w = .ok 45 w := by kernel_rfl
theorem isError43 (w : World) : (FmtDoors.textMethod 43 "Error").run Tryf.prog w = .ok true w := by kernel_rfl
attribute [local go_sem] call17 guardF fmt0 fmt0r op9_115 op9_115w op3_100 op3_100w ptr43 elem43 isError43

/-- fmt.Errorf hands back an error that is not nil, in new memory. -/
def Erred (w : World) (e : Ending) (w' : World) : Prop := ∃ pv, e = .returned (.iface 43 pv) ∧ Below w.heap.size w w'

set_option maxHeartbeats 800000 in
theorem f15_any (F : Interp) (b : Nat) (n : Int) (x : ByteArray) (w : World) (hF : F.answers w.tape)
    (c0 : w.cell? ⟨b, 0, none⟩ = some (.iface 3 (.int .i64 n))) (c1 : w.cell? ⟨b, 1, none⟩ = some (.iface 9 (.string x))) :
    Calls Tryf.prog 15 #[.string ⟨#[98, 121, 116, 101, 32, 37, 100, 32, 111, 102, 32, 105, 116, 115, 32, 74, 83, 79, 78, 58, 32, 119, 97, 110, 116, 32, 37, 115]⟩, .slice (some ⟨b, 0, none⟩) 2 2] w fun e w' => Erred w e w' := by
  have hF' := answers_open hF
  go_enter Tryf.func15, Tryf.ntmps15
  go_wp2
  go_ret
  exact ⟨_, rfl, ((Below.refl _ _).alloc (Nat.le_refl _) _).drew⟩

/-- What fail leaves: the error in the decoder; nothing else that was there has turned. -/
def Failed (data : Value) (a d : Nat) (w : World) (e : Ending) (w' : World) : Prop :=
  e = .returned (.tuple #[]) ∧ ∃ pv, w'.heap[d]? = some (.cells (decA data a (.iface 43 pv)) 36 (0, 0)) ∧ w.grownBy w' (some d)

theorem failed_set {data : Value} {a d : Nat} {w w2 : World} {pv : Value} (hd : w.heap[d]? = some (.cells (decA data a .nilIface) 36 (0, 0))) (hb : Below w.heap.size w w2) :
    Failed data a d w (.returned (.tuple #[])) (w2.setCell ⟨d, 2, none⟩ (.iface 43 pv)) := by
  have hdl : d < w.heap.size := (Array.getElem?_eq_some_iff.1 hd).1
  have hd2 : w2.heap[d]? = some (.cells (decA data a .nilIface) 36 (0, 0)) := (hb.block d hdl).trans hd
  refine ⟨rfl, pv, ?_, hb.os, hb.tape, hb.output, ?_, fun k hk hne => ?_⟩
  · rw [heap_setCell_same w2 d 2 _ 36 _ hd2]; rfl
  · exact Nat.le_trans hb.size (by simp [World.setCell])
  · rw [heap_setCell_other w2 ⟨d, 2, none⟩ k _ (by simpa using hne)]
    exact hb.block k hk

set_option maxHeartbeats 800000 in
theorem f13_fail (F : Interp) (d a : Nat) (data : Value) (x : ByteArray) (w : World) (hF : F.answers w.tape) (hd : w.heap[d]? = some (.cells (decA data a .nilIface) 36 (0, 0))) :
    Calls Tryf.prog 13 #[.pointer (some ⟨d, 0, none⟩), .string x] w fun e w' => Failed data a d w e w' := by
  have HD : Hid (w.heap[d]? = some (.cells (decA data a .nilIface) 36 (0, 0))) := hd
  have hdl : d < w.heap.size := (Array.getElem?_eq_some_iff.1 hd).1
  obtain ⟨_, c1, c2, _⟩ := cells_dec hd
  have HF : Hid (F.answers w.tape) := hF
  clear hd hF
  go_enter Tryf.func13, Tryf.ntmps13
  go_wp2_with fail
  refine (f15_any F w.heap.size a x _ (by exact HF.out) ?_ ?_).mono ?_
  · rw [World.cell?_alloc_at _ _ _ _ rfl]; rfl
  · rw [World.cell?_alloc_at _ _ _ _ rfl]; rfl
  rintro e w2 ⟨pv, rfl, hb⟩
  have hb2 : Below w.heap.size w w2 := ((Below.refl _ _).alloc (Nat.le_refl _) _).trans (hb.mono (by simp))
  have HB : Hid (Below w.heap.size w w2) := hb2
  have g2 : w2.cell? ⟨d, 2, none⟩ = some .nilIface := (hb2.cell (p := ⟨d, 2, none⟩) hdl).trans c2
  have fr2 : w2.frozen? ⟨d, 2, none⟩ = false := (hb2.frozen (p := ⟨d, 2, none⟩) hdl).trans (frozen_of_row w d 2 _ 36 HD.out)
  clear hb hb2 c1 c2
  go_wp2_with fail
  go_end0
  exact failed_set HD.out HB.out

theorem f8_fail (F : Interp) (d a : Nat) (data : Value) (w : World) (hF : F.answers w.tape) (hd : w.heap[d]? = some (.cells (decA data a .nilIface) 36 (0, 0))) :
    Calls Tryf.prog 8 #[.pointer (some ⟨d, 0, none⟩)] w fun e w' => Failed data a d w e w' := by
  have HC : Hid (Calls Tryf.prog 13 #[.pointer (some ⟨d, 0, none⟩), .string ⟨#[120]⟩] w fun e w' => Failed data a d w e w') := f13_fail F d a data _ w hF hd
  clear hF hd
  go_enter Tryf.func8, Tryf.ntmps8
  go_wp2_with fail
  refine HC.out.mono ?_
  rintro e w2 ⟨rfl, h⟩
  have HQ : Hid (Failed data a d w (.returned (.tuple #[])) w2) := ⟨rfl, h⟩
  clear h
  go_wp2_with fail
  go_end0
  exact HQ.out

/-! ### A decoder that has failed -/
/-- It answers 0 and stays. -/
def Stays (w : World) (e : Ending) (w' : World) : Prop := e = .returned (.int .u8 0) ∧ ∃ nq, w' = w.drewN nq

theorem f16_err (d a : Nat) (data pv : Value) (w : World) (hd : w.heap[d]? = some (.cells (decA data a (.iface 43 pv)) 36 (0, 0))) :
    Calls Tryf.prog 16 #[.pointer (some ⟨d, 0, none⟩)] w fun e w' => e = .returned (.int .u8 0) ∧ w' = w := by
  obtain ⟨_, _, c2, _⟩ := cells_dec hd
  clear hd
  go_enter Tryf.func16, Tryf.ntmps16
  go_wp2
  go_ret
  exact ⟨rfl, rfl⟩

set_option maxHeartbeats 800000 in
theorem f14_err (d a : Nat) (data pv : Value) (w : World) (hd : w.heap[d]? = some (.cells (decA data a (.iface 43 pv)) 36 (0, 0))) :
    Calls Tryf.prog 14 #[.pointer (some ⟨d, 0, none⟩)] w fun e w' => Stays w e w' := by
  have HD : Hid (w.heap[d]? = some (.cells (decA data a (.iface 43 pv)) 36 (0, 0))) := hd
  obtain ⟨_, _, c2, _⟩ := cells_dec hd
  clear hd
  go_enter Tryf.func14, Tryf.ntmps14
  go_wp2
  go_quiet (fail)
  go_wp2_with fail
  refine (f16_err d a data pv (w.drewN nq) HD.out).mono ?_
  rintro e w' ⟨rfl, hw'⟩
  rw [hw']
  clear hw' w'
  go_wp2
  go_ret
  exact ⟨rfl, nq, rfl⟩

theorem f9_err (d a : Nat) (data pv : Value) (w : World) (hd : w.heap[d]? = some (.cells (decA data a (.iface 43 pv)) 36 (0, 0))) :
    Calls Tryf.prog 9 #[.pointer (some ⟨d, 0, none⟩)] w fun e w' => Stays w e w' := by
  have HC : Hid (Calls Tryf.prog 14 #[.pointer (some ⟨d, 0, none⟩)] w fun e w' => Stays w e w') := f14_err d a data pv w hd
  clear hd
  go_enter Tryf.func9, Tryf.ntmps9
  go_wp2_with fail
  refine HC.out.mono ?_
  rintro e w' ⟨rfl, nq, hw'⟩
  rw [hw']
  clear hw' w'
  go_wp2
  go_ret
  exact ⟨rfl, nq, rfl⟩

theorem f12_err (d a : Nat) (data pv : Value) (w : World) (hd : w.heap[d]? = some (.cells (decA data a (.iface 43 pv)) 36 (0, 0))) :
    Calls Tryf.prog 12 #[.pointer (some ⟨d, 0, none⟩)] w fun e w' => e = .returned (.bool true) ∧ w' = w := by
  obtain ⟨_, _, c2, _⟩ := cells_dec hd
  clear hd
  go_enter Tryf.func12, Tryf.ntmps12
  go_wp2
  go_ret
  exact ⟨rfl, rfl⟩

theorem f11_err (data : Value) (a : Nat) (w : World) :
    Calls Tryf.prog 11 #[data, .int .i64 a, .bool true, .int .u8 0, .int .i64 a] w fun e w' => e = .returned (.bool true) ∧ w' = w := by
  go_enter Tryf.func11, Tryf.ntmps11
  go_wp2
  go_ret
  exact ⟨rfl, rfl⟩
end Go.Proofs.Qxb6613439aFmt
