import Derived.Test.Qxb6613354aRows
import Derived.WalkKit
import Derived.ProofKit
import Derived.OpenShut
import Derived.ShutString
import Derived.ChangeOld
import Derived.Below
import Derived.WalkLawsBesides
import Derived.WalkSpells
import Derived.Stop.BytesEq
import Derived.Great.BuildSlice
import Derived.Deep.MidRow
namespace Go.Proofs.Qxb6613354a
open Go.ChangeShapes Go.WideShapes Go.ChangeAt Go.RowKit
open Go.Extern.Stop (cell)

theorem size22 : (Try.prog.info? 22).map (·.size) = some 32 := by kernel_rfl
theorem size28 : (Try.prog.info? 28).map (·.size) = some 32 := by kernel_rfl
theorem size30 : (Try.prog.info? 30).map (·.size) = some 34 := by kernel_rfl
theorem size34 : (Try.prog.info? 34).map (·.size) = some 105 := by kernel_rfl

/-- The cells of an openapi.Security. -/
def sec (r : Bool) (c : Int) (xs : List UInt8) : List Value := .bool r :: .int .u8 c :: xs.map cell
/-- The zero cells behind an Operation's Security. -/
def tail66 : List Value := .bool false :: .string ByteArray.empty :: List.replicate 64 (.int .u8 0)
/-- The cells of an openapi.Operation. -/
def opL (m p : ByteArray) (r : Bool) (c : Int) (xs : List UInt8) : List Value :=
  [.string m, .string p, .slice none 0 0, .pointer none, .map none] ++ (sec r c xs ++ tail66)
def keyA (xs : List UInt8) : Array Value := (xs.map cell).toArray
def secA (r : Bool) (c : Int) (xs : List UInt8) : Array Value := (sec r c xs).toArray
def opA (m p : ByteArray) (r : Bool) (c : Int) (xs : List UInt8) : Array Value := (opL m p r c xs).toArray
def zeroKey : List UInt8 := List.replicate 32 0
theorem zeroKey_length : zeroKey.length = 32 := by simp [zeroKey]

theorem keyA_size {xs : List UInt8} (h : xs.length = 32) : (keyA xs).size = 32 := by simp [keyA, h]
theorem secA_size (r : Bool) (c : Int) {xs : List UInt8} (h : xs.length = 32) : (secA r c xs).size = 34 := by simp [secA, sec, h]
theorem tail66_length : tail66.length = 66 := by simp [tail66]
theorem opA_size (m p : ByteArray) (r : Bool) (c : Int) {xs : List UInt8} (h : xs.length = 32) : (opA m p r c xs).size = 105 := by simp [opA, opL, sec, h, tail66_length]
theorem key_one (xs : List UInt8) : ∀ v ∈ xs.map cell, v.oneCell' = true := by
  intro v hv
  obtain ⟨b, _, rfl⟩ := List.mem_map.1 hv
  rfl
theorem sec_one (r : Bool) (c : Int) (xs : List UInt8) : ∀ v ∈ sec r c xs, v.oneCell' = true := by
  intro v hv
  simp only [sec, List.mem_cons] at hv
  rcases hv with rfl | rfl | hv
  · rfl
  · rfl
  · exact key_one xs v hv
theorem tail66_one : ∀ v ∈ tail66, v.oneCell' = true := by
  intro v hv
  simp only [tail66, List.mem_cons, List.mem_replicate] at hv
  rcases hv with rfl | rfl | ⟨_, rfl⟩ <;> rfl
theorem op_one (m p : ByteArray) (r : Bool) (c : Int) (xs : List UInt8) : ∀ v ∈ opL m p r c xs, v.oneCell' = true := by
  intro v hv
  simp only [opL, List.mem_append, List.mem_cons, List.not_mem_nil, or_false] at hv
  rcases hv with (rfl | rfl | rfl | rfl | rfl) | hv | hv
  · rfl
  · rfl
  · rfl
  · rfl
  · rfl
  · exact sec_one r c xs v hv
  · exact tail66_one v hv
theorem secA_one (r : Bool) (c : Int) (xs : List UInt8) : (secA r c xs).all (·.oneCell') = true := all_oneCell_toArray (sec_one r c xs)
theorem opA_one (m p : ByteArray) (r : Bool) (c : Int) (xs : List UInt8) : (opA m p r c xs).all (·.oneCell') = true := all_oneCell_toArray (op_one m p r c xs)

theorem split32 {α : Type} (xs : List α) (h : xs.length = 32) : ∃ x0 x1 x2 x3 x4 x5 x6 x7 x8 x9 x10 x11 x12 x13 x14 x15 x16 x17 x18 x19 x20 x21 x22 x23 x24 x25 x26 x27 x28 x29 x30 x31 : α, xs = [x0, x1, x2, x3, x4, x5, x6, x7, x8, x9, x10, x11, x12, x13, x14, x15, x16, x17, x18, x19, x20, x21, x22, x23, x24, x25, x26, x27, x28, x29, x30, x31] := by
  match xs, h with
  | [x0, x1, x2, x3, x4, x5, x6, x7, x8, x9, x10, x11, x12, x13, x14, x15, x16, x17, x18, x19, x20, x21, x22, x23, x24, x25, x26, x27, x28, x29, x30, x31], _ => exact ⟨_, _, _, _, _, _, _, _, _, _, _, _, _, _, _, _, _, _, _, _, _, _, _, _, _, _, _, _, _, _, _, _, rfl⟩

theorem built30 (r : Bool) (c : Int) (xs : List UInt8) (h : xs.length = 32) :
    Try.prog.built 30 [(0, .bool r), (1, .int .u8 c), (2, .agg (keyA xs))] = some (secA r c xs) := by
  obtain ⟨x0, x1, x2, x3, x4, x5, x6, x7, x8, x9, x10, x11, x12, x13, x14, x15, x16, x17, x18, x19, x20, x21, x22, x23, x24, x25, x26, x27, x28, x29, x30, x31, rfl⟩ := split32 xs h
  kernel_rfl
theorem built34 (m p : ByteArray) (r : Bool) (c : Int) (xs : List UInt8) (h : xs.length = 32) :
    Try.prog.built 34 [(0, .string m), (1, .string p), (5, .agg (secA r c xs))] = some (opA m p r c xs) := by
  obtain ⟨x0, x1, x2, x3, x4, x5, x6, x7, x8, x9, x10, x11, x12, x13, x14, x15, x16, x17, x18, x19, x20, x21, x22, x23, x24, x25, x26, x27, x28, x29, x30, x31, rfl⟩ := split32 xs h
  kernel_rfl
theorem zero30 (w : World) : (zeroValue 30).run Try.prog w = .ok (.agg (secA false 0 zeroKey)) w := by kernel_rfl
theorem zero34 (w : World) : (zeroValue 34).run Try.prog w = .ok (.agg (opA ByteArray.empty ByteArray.empty false 0 zeroKey)) w := by kernel_rfl

/-- A new variable of an aggregate type, its zero cells under a name. -/
theorem wpList_alloc_agg {P : Program} {ops : Array Oper} {rest : List Oper} {o : Oper} {a : Act} {w : World} {Q : Exit → Act → World → Prop} (hgd : o.guard = none) (ty : TypeId) (ho : o.op = .alloc ty)
    (z : Array Value) (hz : ∀ w, (zeroValue ty).run P w = .ok (.agg z) w)
    (h : wpList P ops Q rest (a.put o.dst (.pointer (some ⟨w.heap.size, 0, none⟩))) (w.alloc (.cells z ty))) : wpList P ops Q (o :: rest) a w :=
  wpList_plain hgd fun K hK => by
    unfold Oper.wp execOp
    simp only [ho, Instr.alloc, Sem.run_bind, hz, Result.andThen_ok]
    exact hK _ _ h

end Go.Proofs.Qxb6613354a
