import Derived.Test.Qxb6613913aRows
import Derived.WalkKit
import Derived.ProofKit
import Derived.OpenShut
import Derived.ShutString
import Derived.ChangeOld
import Derived.Below
import Derived.WalkLawsBesides
import Derived.WalkSpells
import Derived.Deep.QuietTactic
import Derived.BigQuiet
import Derived.SliceStrings
import Derived.Maps.OwnSet
import Derived.Maps.Ext
namespace Go.Proofs.Qxb6613913a
open Go.ChangeShapes Go.WideShapes Go.ChangeAt Go.RowKit

/-! ### The plain part: byte order -/
theorem less_irr : ∀ x : List UInt8, Op.bytesLess x x = false
  | [] => rfl
  | a :: x => by simp [Op.bytesLess, less_irr x]
theorem less_trans : ∀ x y z : List UInt8, Op.bytesLess x y = true → Op.bytesLess y z = true → Op.bytesLess x z = true
  | _, [], _, h, _ => by simp [Op.bytesLess] at h
  | _, _ :: _, [], _, h => by simp [Op.bytesLess] at h
  | [], _ :: _, _ :: _, _, _ => rfl
  | a :: x, b :: y, c :: z, h1, h2 => by
    simp only [Op.bytesLess, Bool.or_eq_true, decide_eq_true_eq, Bool.and_eq_true, beq_iff_eq] at h1 h2 ⊢
    rcases h1 with h1 | ⟨rfl, h1⟩
    · rcases h2 with h2 | ⟨rfl, h2⟩
      · exact .inl (UInt8.lt_trans h1 h2)
      · exact .inl h1
    · rcases h2 with h2 | ⟨rfl, h2⟩
      · exact .inl h2
      · exact .inr ⟨rfl, less_trans x y z h1 h2⟩

/-- Strictly rising in byte order. -/
def Rising (ss : List ByteArray) : Prop := ss.Pairwise fun a b => Op.bytesLess a.toList b.toList = true
theorem eq_of_toList {a b : ByteArray} (h : a.toList = b.toList) : a = b := by
  rw [ByteArray.toList_eq, ByteArray.toList_eq] at h
  obtain ⟨⟨x⟩⟩ := a
  obtain ⟨⟨y⟩⟩ := b
  simp at h
  rw [h]
theorem Rising.at {ss : List ByteArray} (h : Rising ss) {i j : Nat} (hij : i < j) (hj : j < ss.length) : Op.bytesLess (ss.getD i ByteArray.empty).toList (ss.getD j ByteArray.empty).toList = true := by
  have := List.pairwise_iff_getElem.1 h i j (by omega) hj hij
  simpa [List.getD, show i < ss.length by omega, hj] using this
theorem Rising.nodup {ss : List ByteArray} (h : Rising ss) : ss.Nodup := by
  refine h.imp fun {a b} hab e => ?_
  subst e
  rw [less_irr] at hab
  cases hab
/-- Neighbours rise: all rise. -/
theorem rising_of_next {ss : List ByteArray} (h : ∀ i, i + 1 < ss.length → Op.bytesLess (ss.getD i ByteArray.empty).toList (ss.getD (i + 1) ByteArray.empty).toList = true) : Rising ss := by
  have key : ∀ n i, i + n + 1 < ss.length → Op.bytesLess (ss.getD i ByteArray.empty).toList (ss.getD (i + n + 1) ByteArray.empty).toList = true := by
    intro n
    induction n with
    | zero => intro i hi; exact h i (by omega)
    | succ n ih =>
      intro i hi
      exact less_trans _ _ _ (ih i (by omega)) (h (i + n + 1) (by omega))
  refine List.pairwise_iff_getElem.2 fun i j hi hj hij => ?_
  have := key (j - i - 1) i (by omega)
  rw [show i + (j - i - 1) + 1 = j by omega] at this
  simpa [List.getD, hi, hj] using this

/-- Is x among ss? -/
def hasB (ss : List ByteArray) (x : ByteArray) : Bool := ss.any fun y => y.toList == x.toList
theorem hasB_iff {ss : List ByteArray} {x : ByteArray} : hasB ss x = true ↔ x ∈ ss := by
  unfold hasB
  rw [List.any_eq_true]
  constructor
  · rintro ⟨y, hy, h⟩
    rw [← eq_of_toList (eq_of_beq h)]
    exact hy
  · intro h
    exact ⟨x, h, beq_self_eq_true _⟩

/-! ### Slices of strings in memory -/
def Strs (w : World) (a : Option Addr) (ss : List ByteArray) : Prop :=
  ∀ j, j < ss.length → ∃ b off, a = some ⟨b, off, none⟩ ∧ w.cell? ⟨b, off + j, none⟩ = some (.string (ss.getD j ByteArray.empty))
theorem Strs.at {w : World} {a : Option Addr} {ss : List ByteArray} (h : Strs w a ss) (h0 : 0 < ss.length) : ∃ b off, a = some ⟨b, off, none⟩ ∧ b < w.heap.size ∧ ∀ j, j < ss.length → w.cell? ⟨b, off + j, none⟩ = some (.string (ss.getD j ByteArray.empty)) := by
  obtain ⟨b, off, rfl, hb⟩ := h 0 h0
  refine ⟨b, off, rfl, block_lt_of_cell hb, fun j hj => ?_⟩
  obtain ⟨b', off', e, hc⟩ := h j hj
  cases e
  exact hc
theorem Strs.below {w w' : World} {a : Option Addr} {ss : List ByteArray} {B : Nat} (h : Strs w a ss) (hb : Below B w w') (hB : ∀ x, a = some x → x.block < B) : Strs w' a ss := fun j hj => by
  obtain ⟨b, off, e, hc⟩ := h j hj
  exact ⟨b, off, e, (hb.cell (p := ⟨b, off + j, none⟩) (by have := hB _ e; exact this)).trans hc⟩
theorem Strs.all {w w' : World} {a : Option Addr} {ss : List ByteArray} (h : Strs w a ss) (hb : Below w.heap.size w w') : Strs w' a ss := fun j hj => by
  obtain ⟨b, off, e, hc⟩ := h j hj
  exact ⟨b, off, e, (hb.cell (p := ⟨b, off + j, none⟩) (block_lt_of_cell hc)).trans hc⟩
theorem Strs.drewN {w : World} {a : Option Addr} {ss : List ByteArray} (h : Strs w a ss) (n : Nat) : Strs (w.drewN n) a ss := h
theorem Strs.nil (w : World) (a : Option Addr) : Strs w a [] := fun j hj => by simp at hj

theorem drewN_add (w : World) (a b : Nat) : (w.drewN a).drewN b = w.drewN (a + b) := by simp [World.drewN, Nat.add_assoc]
def SomeBool (e : Ending) : Prop := ∃ q, e = .returned (.bool q)

/-! ### hasStr -/
set_option maxHeartbeats 400000 in
theorem f16_none (a : Option Addr) (cap : Nat) (x : ByteArray) (w : World) :
    Calls Try.prog 16 #[.slice a 0 cap, .string x] w fun e w' => e = .returned (.bool false) ∧ w' = w := by
  go_enter Try.func16, Try.ntmps16
  go_wp2
  refine wp_loop_rounds 1 ?_
  rw [rounds_succ]
  go_wp2
  go_ret
  exact ⟨rfl, rfl⟩
theorem hasB_take {ss : List ByteArray} {x : ByteArray} {k : Nat} (hk : k < ss.length) (h : (ss.getD k ByteArray.empty).toList == x.toList) : hasB ss x = true := by
  unfold hasB
  rw [List.any_eq_true]
  refine ⟨ss.getD k ByteArray.empty, ?_, h⟩
  simp [List.getD, hk]
theorem hasB_none {ss : List ByteArray} {x : ByteArray} (h : ∀ j, j < ss.length → ((ss.getD j ByteArray.empty).toList == x.toList) = false) : hasB ss x = false := by
  unfold hasB
  rw [List.any_eq_false]
  intro y hy
  obtain ⟨j, hj, rfl⟩ := List.mem_iff_getElem.1 hy
  have := h j hj
  simp only [List.getD, List.getElem?_eq_getElem hj, Option.getD_some] at this
  rw [this]
  simp
set_option maxHeartbeats 400000 in
theorem f16_some (b off n cap : Nat) (x : ByteArray) (ss : List ByteArray) (w : World) (hn : ss.length = n) (hl : n ≤ 1048576) (hc : ∀ j, j < n → w.cell? ⟨b, off + j, none⟩ = some (.string (ss.getD j ByteArray.empty))) :
    Calls Try.prog 16 #[.slice (some ⟨b, off, none⟩) n cap, .string x] w fun e w' => e = .returned (.bool (hasB ss x)) ∧ w' = w := by
  have HC : Hid (∀ j, j < n → w.cell? ⟨b, off + j, none⟩ = some (.string (ss.getD j ByteArray.empty))) := hc
  have HN : Hid (ss.length = n) := hn
  clear hc hn
  go_enter Try.func16, Try.ntmps16
  go_wp2
  go_loop [5] (fun i => ∃ k : Nat, k ≤ n ∧ i = .int .i64 k ∧ Hid (∀ j, j < k → ((ss.getD j ByteArray.empty).toList == x.toList) = false)) (fun i => n - (intOf i).toNat)
  case atStart => exact ⟨0, Nat.zero_le _, rfl, fun j hj => by omega⟩
  case round =>
    obtain ⟨k, hk, rfl, HR⟩ := hrel
    by_cases hlt : k < n
    · obtain ⟨s, hs⟩ : ∃ s, s = ss.getD k ByteArray.empty := ⟨_, rfl⟩
      have HS : Hid (s = ss.getD k ByteArray.empty) := hs
      have hcell : w.cell? ⟨b, off + k, none⟩ = some (.string s) := by rw [hs]; exact HC.out k hlt
      clear hs
      cases he : (s.toList == x.toList)
      · have HK : Hid (∀ j, j < k + 1 → ((ss.getD j ByteArray.empty).toList == x.toList) = false) := by
          intro j hj
          by_cases hjk : j < k
          · exact HR.out j hjk
          · obtain rfl : j = k := by omega
            rw [← HS.out]; exact he
        go_wp2
        go_round
        case rel => exact ⟨k + 1, by omega, by go_num, HK⟩
        case measure => simp [intOf]; omega
      · have HT : Hid (hasB ss x = true) := hasB_take (k := k) (by rw [HN.out]; exact hlt) (by rw [← HS.out]; exact he)
        go_wp2
        go_ret
        rw [HT.out]
        exact ⟨rfl, rfl⟩
    · have HT : Hid (hasB ss x = false) := hasB_none (fun j hj => HR.out j (by rw [HN.out] at hj; omega))
      go_wp2
      go_ret
      rw [HT.out]
      exact ⟨rfl, rfl⟩
theorem f16_any (a : Option Addr) (n cap : Nat) (x : ByteArray) (ss : List ByteArray) (w : World) (hn : ss.length = n) (hl : n ≤ 1048576) (h : Strs w a ss) :
    Calls Try.prog 16 #[.slice a n cap, .string x] w fun e w' => e = .returned (.bool (hasB ss x)) ∧ w' = w := by
  by_cases h0 : n = 0
  · subst h0
    obtain rfl : ss = [] := List.eq_nil_of_length_eq_zero hn
    exact f16_none a cap x w
  · obtain ⟨b, off, rfl, _, hc⟩ := h.at (by omega)
    exact f16_some b off n cap x ss w hn hl (fun j hj => hc j (by omega))

/-! ### ascending -/
def AscDone (ss : List ByteArray) (w : World) (e : Ending) (w' : World) : Prop := ∃ q nq, e = .returned (.bool q) ∧ (q = true → Rising ss) ∧ w' = w.drewN nq
set_option maxHeartbeats 400000 in
theorem f6_short (a : Option Addr) (n cap : Nat) (w : World) (hn : n ≤ 1) :
    Calls Try.prog 6 #[.slice a n cap] w fun e w' => e = .returned (.bool true) ∧ w' = w := by
  have d : decide (1 < n) = false := decide_eq_false (by omega)
  go_enter Try.func6, Try.ntmps6
  go_wp2
  refine wp_loop_rounds 1 ?_
  rw [rounds_succ]
  go_wp2
  go_ret
  exact ⟨rfl, rfl⟩
set_option maxHeartbeats 800000 in
theorem f6_some (b off n cap : Nat) (ss : List ByteArray) (w : World) (hn : ss.length = n) (h1 : 1 ≤ n) (hl : n ≤ 1048576) (hc : ∀ j, j < n → w.cell? ⟨b, off + j, none⟩ = some (.string (ss.getD j ByteArray.empty))) :
    Calls Try.prog 6 #[.slice (some ⟨b, off, none⟩) n cap] w fun e w' => AscDone ss w e w' := by
  have HC : Hid (∀ j, j < n → w.cell? ⟨b, off + j, none⟩ = some (.string (ss.getD j ByteArray.empty))) := hc
  have HN : Hid (ss.length = n) := hn
  clear hc hn
  go_enter Try.func6, Try.ntmps6
  go_wp2
  go_loopw [3] (fun i wr => ∃ k : Nat, k + 1 ≤ n ∧ i = .int .i64 (k + 1) ∧ Hid (∀ j, j < k → Op.bytesLess (ss.getD j ByteArray.empty).toList (ss.getD (j + 1) ByteArray.empty).toList = true) ∧ ∃ nq, wr = w.drewN nq) (fun i _ => n - (intOf i).toNat)
  case atStart => exact ⟨0, h1, rfl, fun j hj => by omega, 0, rfl⟩
  case round =>
    obtain ⟨k, hk, rfl, HR, nq0, rfl⟩ := hrel
    by_cases hlt : k + 1 < n
    · obtain ⟨s, hs⟩ : ∃ s, s = ss.getD k ByteArray.empty := ⟨_, rfl⟩
      obtain ⟨t, ht⟩ : ∃ t, t = ss.getD (k + 1) ByteArray.empty := ⟨_, rfl⟩
      have HS : Hid (s = ss.getD k ByteArray.empty) := hs
      have HT : Hid (t = ss.getD (k + 1) ByteArray.empty) := ht
      have hcell : w.cell? ⟨b, off + k, none⟩ = some (.string s) := by rw [hs]; exact HC.out k (by omega)
      have hcell2 : w.cell? ⟨b, off + (k + 1), none⟩ = some (.string t) := by rw [ht]; exact HC.out (k + 1) hlt
      have g1 : (k : Int) + 1 < (n : Int) := by omega
      have g2 : (k : Int) < (n : Int) := by omega
      clear hs ht
      cases he : Op.bytesLess s.toList t.toList
      · go_wp2
        go_quiet (fail)
        go_wp2
        go_ret
        exact ⟨false, _, rfl, (fun h => by cases h), drewN_add _ _ _⟩
      · have HK : Hid (∀ j, j < k + 1 → Op.bytesLess (ss.getD j ByteArray.empty).toList (ss.getD (j + 1) ByteArray.empty).toList = true) := by
          intro j hj
          by_cases hjk : j < k
          · exact HR.out j hjk
          · obtain rfl : j = k := by omega
            rw [← HS.out, ← HT.out]; exact he
        go_wp2
        go_quiet (fail)
        go_wp2
        go_roundw
        case rel => exact ⟨k + 1, by omega, by go_num, HK, _, rfl⟩
        case measure => simp [intOf]; omega
    · have HT : Hid (Rising ss) := rising_of_next (fun i hi => HR.out i (by rw [HN.out] at hi; omega))
      go_wp2
      go_ret
      exact ⟨true, _, rfl, fun _ => HT.out, rfl⟩
theorem f6_any (a : Option Addr) (n cap : Nat) (ss : List ByteArray) (w : World) (hn : ss.length = n) (hl : n ≤ 1048576) (h : Strs w a ss) :
    Calls Try.prog 6 #[.slice a n cap] w fun e w' => AscDone ss w e w' := by
  by_cases h0 : n = 0
  · subst h0
    obtain rfl : ss = [] := List.eq_nil_of_length_eq_zero hn
    exact (f6_short a 0 cap w (by omega)).mono fun e w' ⟨h1, h2⟩ => ⟨true, 0, h1, fun _ => List.Pairwise.nil, h2⟩
  · obtain ⟨b, off, rfl, _, hc⟩ := h.at (by omega)
    exact f6_some b off n cap ss w hn (by omega) hl (fun j hj => hc j (by omega))
end Go.Proofs.Qxb6613913a
