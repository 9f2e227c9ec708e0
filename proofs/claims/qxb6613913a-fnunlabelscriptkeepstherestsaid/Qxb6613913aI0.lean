import Derived.Test.Qxb6613913aG
import Derived.Test.Qxb6613913aH
namespace Go.Proofs.Qxb6613913a
open Go.ChangeShapes Go.WideShapes Go.ChangeAt Go.RowKit

/-! ### The law: what is set up -/
def CloneD (w : World) (ss : List ByteArray) (A : Option Addr) (cc : Nat) (w' : World) : Prop :=
  Below w.heap.size w w' ∧ cc ≤ 1048576 ∧ (ss = [] ∨ ∃ r, A = some ⟨r, 0, none⟩ ∧ w.heap.size ≤ r ∧ r < w'.heap.size ∧ RowOK w' r cc ss)
theorem new_row {w : World} {ss : List ByteArray} {t : TypeId} : RowOK (w.alloc (.cells (rowA ss) t)) w.heap.size ss.length ss := by
  have hc : ∀ j, j < ss.length → (w.alloc (.cells (rowA ss) t)).cell? ⟨w.heap.size, j, none⟩ = some (.string (ss.getD j ByteArray.empty)) := by
    intro j hj
    simp [rowA, List.getD, hj]
  refine ⟨Nat.le_refl _, fun j hj => ⟨by rw [hc j hj]; rfl, by simp⟩, hc⟩
theorem cloned_row {w : World} {ss : List ByteArray} {e : Ending} {w' : World} (hl : ss.length ≤ 1048576) (h : Cloned w ss e w') : ∃ A cc, e = .returned (.slice A ss.length cc) ∧ CloneD w ss A cc w' := by
  rcases h with ⟨rfl, rfl, rfl⟩ | ⟨rfl, rfl⟩
  · exact ⟨none, 0, rfl, Below.refl _ _, by omega, .inl rfl⟩
  · exact ⟨_, _, rfl, (Below.refl _ _).alloc (Nat.le_refl _) _, hl, .inr ⟨w.heap.size, rfl, Nat.le_refl _, by simp, new_row⟩⟩

def prot (B d E gp : Nat) (k : Nat) : Prop := k < B ∨ (d < k ∧ k < E) ∨ k = gp
/-- What stands when the loop begins. -/
def Start (K O sh : ByteArray) (ss : List ByteArray) (w : World) (d d2 r2 E gp bO : Nat) (w8 : World) : Prop :=
  St (prot w.heap.size d E gp) d gp bO K O sh w8 ss ∧ Below w.heap.size w w8 ∧ (d < d2 ∧ d2 < E ∧ d < r2 ∧ r2 < E) ∧ w8.cell? ⟨d2, 0, none⟩ = some (.slice (some ⟨r2, 0, none⟩) 1 1) ∧ w8.cell? ⟨r2, 0, none⟩ = some (.string sh)
theorem start {K O sh : ByteArray} {ss : List ByteArray} {A : Option Addr} {cc d d2 bO gp : Nat} {w w1 w2 w3 w4 w5 w6 w7 w8 : World} (hris : Rising ss) (hl : ss.length ≤ 1048576) (hB : Below w.heap.size w w1) (hC : CloneD w1 ss A cc w2)
    (hd : d = w2.heap.size) (hw3 : w3 = w2.alloc (.cells (nodeA (.slice A ss.length cc)) 48)) (hw4 : w4 = w3.alloc (.cells #[.string sh] 9)) (hd2 : d2 = w4.heap.size) (hw5 : w5 = w4.alloc (.cells (nodeA (.slice (some ⟨w3.heap.size, 0, none⟩) 1 1)) 48))
    (hw6 : w6 = w5.alloc (.cells #[.string sh] 9)) (hI : Index w7 bO K O (hasB ss) (hasB [sh]) (cnt ss sh) (fun k => k < w6.heap.size)) (h67 : Below w6.heap.size w6 w7) (hc8 : w8.cell? ⟨gp, 2, none⟩ = some (.map (some bO))) (hgp : w7.heap.size ≤ gp) (h78 : Below w7.heap.size w7 w8) :
    Start K O sh ss w d d2 w3.heap.size w6.heap.size gp bO w8 := by
  have z3 : w3.heap.size = d + 1 := by rw [hw3, hd]; simp
  have z4 : w4.heap.size = d + 2 := by rw [hw4]; simp [z3]
  have z5 : w5.heap.size = d + 3 := by rw [hw5]; simp [z4]
  have z6 : w6.heap.size = d + 4 := by rw [hw6]; simp [z5]
  have b01 := hB.size
  have b12 := hC.1.size
  have b67 := h67.size
  have b78 := h78.size
  have b36 : Below w3.heap.size w3 w6 := by
    rw [hw6, hw5, hw4]
    exact (((Below.refl _ _).alloc (Nat.le_refl _) _).alloc (by simp) _).alloc (by simp; omega) _
  have b26 : Below w2.heap.size w2 w6 := by
    have h1 : Below w2.heap.size w2 w3 := by rw [hw3]; exact (Below.refl _ _).alloc (Nat.le_refl _) _
    exact h1.trans (b36.mono (by omega))
  have b68 : Below w6.heap.size w6 w8 := h67.trans (h78.mono b67)
  have b28 : Below w2.heap.size w2 w8 := b26.trans (b68.mono (by omega))
  have b08 : Below w.heap.size w w8 := (hB.trans (hC.1.mono b01)).trans (b28.mono (by omega))
  have cd3 : w3.cell? ⟨d, 0, none⟩ = some (.slice A ss.length cc) := by rw [hw3, hd]; simp [nodeA]
  have fd3 : w3.frozen? ⟨d, 0, none⟩ = false := by rw [hw3, hd]; simp
  have b38 : Below w3.heap.size w3 w8 := b36.trans (b68.mono (by omega))
  have cd8 : w8.cell? ⟨d, 0, none⟩ = some (.slice A ss.length cc) := (b38.cell (p := ⟨d, 0, none⟩) (by show d < _; omega)).trans cd3
  have fd8 : w8.frozen? ⟨d, 0, none⟩ = false := (b38.frozen (p := ⟨d, 0, none⟩) (by show d < _; omega)).trans fd3
  have b48 : Below w4.heap.size w4 w8 := by
    have h1 : Below w4.heap.size w4 w6 := by
      rw [hw6, hw5]
      exact ((Below.refl _ _).alloc (Nat.le_refl _) _).alloc (by simp) _
    exact h1.trans (b68.mono (by omega))
  have b58 : Below w5.heap.size w5 w8 := by
    have h1 : Below w5.heap.size w5 w6 := by
      rw [hw6]
      exact (Below.refl _ _).alloc (Nat.le_refl _) _
    exact h1.trans (b68.mono (by omega))
  have cr4 : w4.cell? ⟨w3.heap.size, 0, none⟩ = some (.string sh) := by rw [hw4]; simp
  have cd5 : w5.cell? ⟨d2, 0, none⟩ = some (.slice (some ⟨w3.heap.size, 0, none⟩) 1 1) := by rw [hw5, hd2]; simp [nodeA]
  refine ⟨⟨⟨⟨A, cc, cd8, ?_⟩, fd8, ?_⟩, hc8, hris, hl, ?_, ?_⟩, b08, ⟨by omega, by omega, by omega, by omega⟩, ?_, ?_⟩
  · rcases hC.2.2 with h | ⟨r, hA, hr1, hr2, hrow⟩
    · exact .inl h
    · refine .inr ⟨r, hA, by omega, fun h => ?_, hC.2.1, ?_⟩
      · rcases h with h | h | h <;> omega
      · obtain ⟨p1, p2, p3⟩ := hrow
        exact ⟨p1, fun j hj => ⟨by rw [b28.cell (p := ⟨r, j, none⟩) hr2]; exact (p2 j hj).1, by rw [b28.frozen (p := ⟨r, j, none⟩) hr2]; exact (p2 j hj).2⟩, fun j hj => by rw [b28.cell (p := ⟨r, j, none⟩) hr2]; exact p3 j hj⟩
  · intro h
    rcases h with h | h | h <;> omega
  · have h1 : Index w7 bO K O (hasB ss) (hasB [sh]) (cnt ss sh) (prot w.heap.size d w6.heap.size gp) := hI.turn fun k es cl hm hk h => by
      have hk7 := (Array.getElem?_eq_some_iff.1 hm).1
      rcases h with h | h | h <;> omega
    exact h1.keep fun k es cl hm => h78.block k (Array.getElem?_eq_some_iff.1 hm).1
  · have hgl := block_lt_of_cell hc8
    have hgl' : gp < w8.heap.size := hgl
    intro k h
    rcases h with h | h | h <;> omega
  · exact (b58.cell (p := ⟨d2, 0, none⟩) (by show d2 < _; omega)).trans cd5
  · exact (b48.cell (p := ⟨w3.heap.size, 0, none⟩) (by show w3.heap.size < _; omega)).trans cr4

def Noded (w : World) (v : Value) (e : Ending) (w' : World) : Prop := ∃ d, e = .returned (.pointer (some ⟨d, 0, none⟩)) ∧ d = w.heap.size ∧ w' = w.alloc (.cells (nodeA v) 48)
theorem f7_node (a : Option Addr) (n c : Nat) (w : World) : Calls Try.prog 7 #[.slice a n c] w fun e w' => Noded w (.slice a n c) e w' :=
  (f7_any a n c w).mono fun _ _ ⟨h1, h2⟩ => ⟨w.heap.size, h1, rfl, h2⟩

theorem kept_take {ss tt : List ByteArray} {k : Nat} (hk : k < tt.length) : keptS ss (tt.take (k + 1)) = keptS (keptS ss (tt.take k)) [tt.getD k ByteArray.empty] := by
  unfold keptS
  rw [List.filter_filter]
  congr 1
  funext s
  rw [take_snoc hk, hasB_snoc, hasB_single]
  unfold upd
  rw [show (s.toList == (tt.getD k ByteArray.empty).toList) = ((tt.getD k ByteArray.empty).toList == s.toList) from Bool.beq_comm]
  cases h : (tt.getD k ByteArray.empty).toList == s.toList <;> simp
theorem hasB_kept {ss tt : List ByteArray} {x : ByteArray} (hx : x ∈ ss) : hasB (keptS ss tt) x = !hasB tt x := by
  rw [Bool.eq_iff_iff, hasB_iff]
  unfold keptS
  rw [List.mem_filter]
  simp [hx]
theorem hasB_kept_none {ss tt : List ByteArray} {x : ByteArray} (hx : hasB ss x = false) : hasB (keptS ss tt) x = false := by
  cases h : hasB (keptS ss tt) x
  · rfl
  · have := (List.mem_filter.1 (hasB_iff.1 h)).1
    rw [hasB_iff.2 this] at hx
    cases hx

theorem looks {w : World} {bO c : Nat} {K O : ByteArray} {P Q : ByteArray → Bool} {Pr : Nat → Prop} (h : Index w bO K O P Q c Pr) {x : ByteArray} (hx : x.size ≤ maxLen) (hK : K.size ≤ maxLen) (hO : O.size ≤ maxLen) :
    ∃ u bm, (Instr.lookup 31 (.map (some bO)) (.string x) true).run Try.prog w = .ok (.tuple #[u, .bool (P x || Q x)]) w ∧ (Instr.lookup 31 (.map (some bO)) (.string x) false).run Try.prog w = .ok (.map bm) w ∧
      (Instr.lookup 39 (.map bm) (.string K) false).run Try.prog w = .ok (.bool (P x)) w ∧ (Instr.lookup 39 (.map bm) (.string O) false).run Try.prog w = .ok (.bool (Q x)) w ∧
      ∀ ty, (Builtin.len_ #[39] ty #[.map bm]).run Try.prog w = .ok (.int .i64 (((P x).toNat + (Q x).toNat : Nat) : Int)) w := by
  obtain ⟨u, hu⟩ := h.ok hx
  cases hd : (P x || Q x)
  · rw [hd] at hu
    have hm := h.miss hx hd
    have hP : P x = false := by cases hp : P x <;> simp_all
    have hQ : Q x = false := by cases hp : Q x <;> simp_all
    have l1 := Maps.look_nil (w := w) false law9 Try.underlying39 (zero4 w) (kl_of hK)
    have l2 := Maps.look_nil (w := w) false law9 Try.underlying39 (zero4 w) (kl_of hO)
    refine ⟨u, none, hu, hm, ?_, ?_, fun ty => ?_⟩
    · rw [hP]; exact l1
    · rw [hQ]; exact l2
    · rw [hP, hQ]; exact Maps.len_nil Try.underlying39 ty
  · rw [hd] at hu
    obtain ⟨b, hb, hin, _⟩ := h.hit hx hd
    exact ⟨u, some b, hu, hb, hin.look hK, hin.swap.look hO, fun ty => hin.len ty⟩
end Go.Proofs.Qxb6613913a
