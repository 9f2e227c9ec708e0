import Derived.Test.Qxb6613439aFmtRows
import Derived.WalkKit
import Derived.ProofKit
import Derived.OpenShut
import Derived.ShutString
import Derived.ChangeOld
import Derived.Below
import Derived.WalkLawsBesides
import Derived.WalkSpells
import Derived.Deep.QuietTactic
import Derived.BigQuiet
namespace Go.Proofs.Qxb6613439aFmt
open Go.ChangeShapes Go.WideShapes Go.ChangeAt Go.RowKit

/-! ### The plain part -/
/-- JSON's space. -/
def isSp (c : Int) : Bool := decide (c = 32 ∨ c = 9 ∨ c = 10 ∨ c = 13)
theorem isSp_true {c : Int} (h : isSp c = true) : c = 32 ∨ c = 9 ∨ c = 10 ∨ c = 13 := by simpa [isSp] using h
theorem isSp_false {c : Int} (h : isSp c = false) : c ≠ 32 ∧ c ≠ 9 ∧ c ≠ 10 ∧ c ≠ 13 := by simpa [isSp, not_or] using h

/-- p is the least place at or behind a whose byte is no space, or the end. -/
def IsPeek (zs : List Int) (a p : Nat) : Prop :=
  a ≤ p ∧ p ≤ zs.length ∧ (∀ i, a ≤ i → i < p → isSp (zs.getD i 0) = true) ∧ (p < zs.length → isSp (zs.getD p 0) = false)

theorem IsPeek.uniq {zs : List Int} {a p q : Nat} (h : IsPeek zs a p) (k : IsPeek zs a q) : p = q := by
  obtain ⟨h1, h2, h3, h4⟩ := h
  obtain ⟨k1, k2, k3, k4⟩ := k
  rcases Nat.lt_trichotomy p q with hlt | rfl | hlt
  · have := k3 p h1 hlt
    rw [h4 (by omega)] at this
    cases this
  · rfl
  · have := h3 q k1 hlt
    rw [k4 (by omega)] at this
    cases this
theorem IsPeek.self {zs : List Int} {a p : Nat} (h : IsPeek zs a p) : IsPeek zs p p := ⟨Nat.le_refl _, h.2.1, fun i h1 h2 => by omega, h.2.2.2⟩
theorem IsPeek.later {zs : List Int} {a s p : Nat} (h : IsPeek zs a p) (has : a ≤ s) (hs : s ≤ zs.length) (hsp : ∀ i, a ≤ i → i < s → isSp (zs.getD i 0) = true) : IsPeek zs s p := by
  obtain ⟨h1, h2, h3, h4⟩ := h
  refine ⟨?_, h2, fun i h5 h6 => h3 i (by omega) h6, h4⟩
  by_cases hlt : p < s
  · have := hsp p h1 hlt
    rw [h4 (by omega)] at this
    cases this
  · omega

/-! ### zzIsSpace, zzBytes -/
set_option maxHeartbeats 400000 in
theorem f5_any (c : Int) (w : World) : Calls Tryf.prog 5 #[.int .u8 c] w fun e w' => e = .returned (.bool (isSp c)) ∧ w' = w := by
  cases h : isSp c
  · obtain ⟨h1, h2, h3, h4⟩ := isSp_false h
    have g1 : (c == 32) = false := by simpa using h1
    have g2 : (c == 9) = false := by simpa using h2
    have g3 : (c == 10) = false := by simpa using h3
    have g4 : (c == 13) = false := by simpa using h4
    clear h1 h2 h3 h4 h
    go_enter Tryf.func5, Tryf.ntmps5
    go_wp2
    go_ret
    exact ⟨rfl, rfl⟩
  · have hc := isSp_true h
    clear h
    rcases hc with rfl | rfl | rfl | rfl
    all_goals
      go_enter Tryf.func5, Tryf.ntmps5
      go_wp2
      go_ret
      exact ⟨rfl, rfl⟩

/-! ### The decoder's space and peek -/
/-- The decoder's four cells. -/
def decA (data : Value) (at_ : Nat) (err : Value) : Array Value := #[data, .int .i64 at_, err, .int .i64 0]

/-- The bytes of a slice in memory. -/
def Bytes (w : World) (data : Value) (zs : List Int) : Prop :=
  (data = .slice none 0 0 ∧ zs = []) ∨ ∃ g, data = .slice (some ⟨g, 0, none⟩) zs.length zs.length ∧ ∀ j, j < zs.length → w.cell? ⟨g, j, none⟩ = some (.int .u8 (zs.getD j 0))

theorem cells_dec {w : World} {d at_ : Nat} {data err : Value} {t : TypeId} (h : w.heap[d]? = some (.cells (decA data at_ err) t (0, 0))) :
    w.cell? ⟨d, 0, none⟩ = some data ∧ w.cell? ⟨d, 1, none⟩ = some (.int .i64 at_) ∧ w.cell? ⟨d, 2, none⟩ = some err ∧ w.frozen? ⟨d, 1, none⟩ = false := by
  refine ⟨?_, ?_, ?_, frozen_of_row w d 1 _ t h⟩
  · rw [cell_of_row w d 0 _ t (0, 0) h]; rfl
  · rw [cell_of_row w d 1 _ t (0, 0) h]; rfl
  · rw [cell_of_row w d 2 _ t (0, 0) h]; rfl

/-- What peek leaves: the byte at the place p, the place in the decoder; nothing else that was there has turned. -/
def Peeked (data : Value) (zs : List Int) (a d : Nat) (w : World) (e : Ending) (w' : World) : Prop :=
  ∃ p, IsPeek zs a p ∧ e = .returned (.int .u8 (zs.getD p 0)) ∧ w'.heap[d]? = some (.cells (decA data p .nilIface) 36 (0, 0)) ∧ w.grownBy w' (some d)

theorem grownBy_set (w : World) (d : Nat) (v : Value) (nq : Nat) : w.grownBy ((w.setCell ⟨d, 1, none⟩ v).drewN nq) (some d) :=
  ⟨rfl, rfl, rfl, by show w.heap.size ≤ (w.setCell ⟨d, 1, none⟩ v).heap.size; simp [World.setCell], fun k _ hne => by
    show (w.setCell ⟨d, 1, none⟩ v).heap[k]? = w.heap[k]?
    exact heap_setCell_other w ⟨d, 1, none⟩ k v (by simpa using hne)⟩
theorem peeked_set {data : Value} {zs : List Int} {a d p : Nat} {w : World} (hd : w.heap[d]? = some (.cells (decA data a .nilIface) 36 (0, 0))) (hp : IsPeek zs a p) (nq : Nat) (b : Int) (hb : b = zs.getD p 0) :
    Peeked data zs a d w (.returned (.int .u8 b)) ((w.setCell ⟨d, 1, none⟩ (.int .i64 p)).drewN nq) := by
  refine ⟨p, hp, by rw [hb], ?_, grownBy_set w d _ nq⟩
  show (w.setCell ⟨d, 1, none⟩ (.int .i64 p)).heap[d]? = _
  rw [heap_setCell_same w d 1 _ 36 _ hd]
  rfl
theorem peeked_stay {data : Value} {zs : List Int} {a d : Nat} {w : World} (hd : w.heap[d]? = some (.cells (decA data a .nilIface) 36 (0, 0))) (hp : IsPeek zs a a) (nq : Nat) (b : Int) (hb : b = zs.getD a 0) :
    Peeked data zs a d w (.returned (.int .u8 b)) (w.drewN nq) :=
  ⟨a, hp, by rw [hb], hd, rfl, rfl, rfl, Nat.le_refl _, fun _ _ _ => rfl⟩
theorem peeked_drew {data : Value} {zs : List Int} {a d : Nat} {w w' : World} {e : Ending} {nq : Nat} (h : Peeked data zs a d (w.drewN nq) e w') : Peeked data zs a d w e w' := by
  obtain ⟨p, h1, h2, h3, h4⟩ := h
  exact ⟨p, h1, h2, h3, h4.os, h4.tape, h4.output, h4.size, h4.block⟩

set_option maxHeartbeats 800000 in
theorem f13_mid (d g a n : Nat) (zs : List Int) (w : World) (hn : zs.length = n) (hl : n ≤ 1048576) (ha : a < n)
    (hd : w.heap[d]? = some (.cells (decA (.slice (some ⟨g, 0, none⟩) n n) a .nilIface) 36 (0, 0)))
    (hc : ∀ j, j < n → w.cell? ⟨g, j, none⟩ = some (.int .u8 (zs.getD j 0))) :
    Calls Tryf.prog 16 #[.pointer (some ⟨d, 0, none⟩)] w fun e w' => Peeked (.slice (some ⟨g, 0, none⟩) n n) zs a d w e w' := by
  have HC : Hid (∀ j, j < n → w.cell? ⟨g, j, none⟩ = some (.int .u8 (zs.getD j 0))) := hc
  have HN : Hid (zs.length = n) := hn
  have HD : Hid (w.heap[d]? = some (.cells (decA (.slice (some ⟨g, 0, none⟩) n n) a .nilIface) 36 (0, 0))) := hd
  obtain ⟨c0, c1, c2, f1⟩ := cells_dec hd
  clear hc hn hd
  go_enter Tryf.func16, Tryf.ntmps16
  go_wp2
  go_quiet (fail)
  go_wp2
  go_loop [20] (fun i => ∃ k : Nat, k ≤ n - a ∧ i = .int .i64 k ∧ Hid (∀ j, j < k → isSp (zs.getD (a + j) 0) = true)) (fun i => (n - a) - (intOf i).toNat)
  case atStart => exact ⟨0, Nat.zero_le _, rfl, fun j hj => by omega⟩
  case round =>
    obtain ⟨k, hk, rfl, HR⟩ := hrel
    by_cases hlt : k < n - a
    · obtain ⟨c, hcd⟩ : ∃ c, c = zs.getD (a + k) 0 := ⟨_, rfl⟩
      have HCD : Hid (c = zs.getD (a + k) 0) := hcd
      have hcell : w.cell? ⟨g, a + k, none⟩ = some (.int .u8 c) := by rw [hcd]; exact HC.out _ (by omega)
      clear hcd
      cases hs : isSp c
      · obtain ⟨h1, h2, h3, h4⟩ := isSp_false hs
        have g1 : (c != 32) = true := by simpa using h1
        have g2 : (c != 9) = true := by simpa using h2
        have g3 : (c != 10) = true := by simpa using h3
        have g4 : (c != 13) = true := by simpa using h4
        have HP : Hid (IsPeek zs a (a + k)) := by
          refine ⟨by omega, by rw [HN.out]; omega, fun i h1 h2 => ?_, fun _ => by rw [← HCD.out]; exact hs⟩
          have := HR.out (i - a) (by omega)
          rwa [show a + (i - a) = i by omega] at this
        clear h1 h2 h3 h4 hs
        go_wp2
        go_ret
        exact peeked_set HD.out HP.out nq c HCD.out
      · have hcs := isSp_true hs
        have HK : Hid (∀ j, j < k + 1 → isSp (zs.getD (a + j) 0) = true) := by
          intro j hj
          by_cases hjk : j < k
          · exact HR.out j hjk
          · obtain rfl : j = k := by omega
            rw [← HCD.out]; exact hs
        clear hs HR HCD
        rcases hcs with rfl | rfl | rfl | rfl
        all_goals
          go_wp2
          go_round
          case rel => exact ⟨k + 1, by omega, by go_num, HK⟩
          case measure => simp [intOf]; omega
    · have hke : k = n - a := by omega
      have HP : Hid (IsPeek zs a n) := by
        refine ⟨by omega, by rw [HN.out]; omega, fun i h1 h2 => ?_, fun h => by rw [HN.out] at h; omega⟩
        have := HR.out (i - a) (by omega)
        rwa [show a + (i - a) = i by omega] at this
      go_wp2
      go_ret
      exact peeked_set HD.out HP.out nq 0 (by simp [HN.out])

set_option maxHeartbeats 800000 in
theorem f13_end (d n : Nat) (ga : Option Addr) (zs : List Int) (w : World) (hn : zs.length = n) (hl : n ≤ 1048576) (hg : ga = none ∧ n = 0 ∨ ∃ g, ga = some ⟨g, 0, none⟩)
    (hd : w.heap[d]? = some (.cells (decA (.slice ga n n) n .nilIface) 36 (0, 0))) :
    Calls Tryf.prog 16 #[.pointer (some ⟨d, 0, none⟩)] w fun e w' => Peeked (.slice ga n n) zs n d w e w' := by
  have HD : Hid (w.heap[d]? = some (.cells (decA (.slice ga n n) n .nilIface) 36 (0, 0))) := hd
  have HP : Hid (IsPeek zs n n) := ⟨Nat.le_refl _, by omega, fun i h1 h2 => by omega, fun h => by omega⟩
  have HN : Hid (zs.length = n) := hn
  obtain ⟨c0, c1, c2, f1⟩ := cells_dec hd
  clear hd hn
  rcases hg with ⟨rfl, rfl⟩ | ⟨g, rfl⟩
  all_goals
    go_enter Tryf.func16, Tryf.ntmps16
    go_wp2
    go_quiet (fail)
    go_wp2
    refine wp_loop_rounds 1 ?_
    rw [rounds_succ]
    go_wp2
    go_ret
    exact peeked_set HD.out HP.out nq 0 (by simp [HN.out])
end Go.Proofs.Qxb6613439aFmt
