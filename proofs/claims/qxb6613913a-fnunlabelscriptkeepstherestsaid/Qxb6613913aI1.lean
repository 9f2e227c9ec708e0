import Derived.Test.Qxb6613913aI0
namespace Go.Proofs.Qxb6613913a
open Go.ChangeShapes Go.WideShapes Go.ChangeAt Go.RowKit

/-! ### The law: what stands behind the loop -/
/-- L: the labels left; row: the row of 'want'. -/
def Chk (K O sh : ByteArray) (L : List ByteArray) (w : World) (d d2 r2 gp bO row : Nat) (Pr : Nat → Prop) (A : Option Addr) (cp : Nat) (wx : World) : Prop :=
  (wx.cell? ⟨d, 0, none⟩ = some (.slice A L.length cp) ∧ Strs wx A L) ∧ Strs wx (some ⟨row, 0, none⟩) L ∧ (wx.cell? ⟨d2, 0, none⟩ = some (.slice (some ⟨r2, 0, none⟩) 1 1) ∧ wx.cell? ⟨r2, 0, none⟩ = some (.string sh)) ∧
    wx.cell? ⟨gp, 2, none⟩ = some (.map (some bO)) ∧ Index wx bO K O (hasB L) (hasB [sh]) (cnt L sh) Pr ∧ Below w.heap.size w wx ∧ L.length ≤ 1048576
theorem below_cell {w w' : World} {p : Addr} {v : Value} (h : Below w.heap.size w w') (hc : w.cell? p = some v) : w'.cell? p = some v := (h.cell (block_lt_of_cell hc)).trans hc
theorem Chk.mono {K O sh : ByteArray} {L : List ByteArray} {w : World} {d d2 r2 gp bO row : Nat} {Pr : Nat → Prop} {A : Option Addr} {cp : Nat} {wx wy : World} (h : Chk K O sh L w d d2 r2 gp bO row Pr A cp wx) (hb : Below wx.heap.size wx wy) : Chk K O sh L w d d2 r2 gp bO row Pr A cp wy := by
  obtain ⟨⟨h1, h2⟩, h3, ⟨h4, h5⟩, h6, h7, h8, h9⟩ := h
  exact ⟨⟨below_cell hb h1, h2.all hb⟩, h3.all hb, ⟨below_cell hb h4, below_cell hb h5⟩, below_cell hb h6, h7.keep fun k es cl hm => hb.block k (Array.getElem?_eq_some_iff.1 hm).1, h8.trans (hb.mono h8.size), h9⟩
theorem below_drewN (w : World) (n : Nat) : Below w.heap.size w (w.drewN n) := ⟨rfl, rfl, rfl, Nat.le_refl _, fun _ _ => rfl⟩
theorem chk_of {K O sh : ByteArray} {ss tt L : List ByteArray} {w w8 wr wx : World} {d d2 r2 E gp bO : Nat} {e : Ending} (hs : Start K O sh ss w d d2 r2 E gp bO w8) (hst : St (prot w.heap.size d E gp) d gp bO K O sh wr L) (hfr : Fr (prot w.heap.size d E gp) w8 wr)
    (hL : L = keptS ss tt) (hw : Without ss tt wr e wx) : ∃ A cp, e = .returned (.slice (some ⟨wr.heap.size, 0, none⟩) L.length ss.length) ∧ Chk K O sh L w d d2 r2 gp bO wr.heap.size (prot w.heap.size d E gp) A cp wx := by
  obtain ⟨_, hb8, ⟨o1, o2, o3, o4⟩, cd2, cr2⟩ := hs
  obtain ⟨⟨⟨A, cp, hcd, hor⟩, _⟩, hcg, hris, hlen, hI, hP⟩ := hst
  obtain ⟨he, hown, hbx⟩ := hw
  rw [← hL] at he hown
  have pd2 : prot w.heap.size d E gp d2 := .inr (.inl ⟨o1, o2⟩)
  have pr2 : prot w.heap.size d E gp r2 := .inr (.inl ⟨o3, o4⟩)
  have hbr : Below w.heap.size w wr := hb8.trans (hfr.to_below fun k hk => .inl hk)
  have hA : Strs wr A L := by
    rcases hor with h | ⟨r, rfl, _, _, _, hrow⟩
    · rw [h]; exact Strs.nil _ _
    · intro j hj
      exact ⟨r, 0, rfl, by rw [Nat.zero_add]; exact hrow.2.2 j hj⟩
  refine ⟨A, cp, he, ⟨below_cell hbx hcd, hA.all hbx⟩, fun j hj => ⟨_, 0, rfl, ?_⟩, ⟨below_cell hbx ?_, below_cell hbx ?_⟩, below_cell hbx hcg, hI.keep fun k es cl hm => hbx.block k (Array.getElem?_eq_some_iff.1 hm).1, hbr.trans (hbx.mono hbr.size), hlen⟩
  · have := World.ownsRow.cells hown (g := wr.heap.size) rfl j (.string (L.getD j ByteArray.empty)) (by simp [List.getD, hj])
    rw [Addr.add_lit] at this
    exact this
  · exact (World.cell?_of_block (w := w8) (a := ⟨d2, 0, none⟩) (hfr.block d2 pd2)).trans cd2
  · exact (World.cell?_of_block (w := w8) (a := ⟨r2, 0, none⟩) (hfr.block r2 pr2)).trans cr2
theorem strs_one {w : World} {r : Nat} {s : ByteArray} (h : w.cell? ⟨r, 0, none⟩ = some (.string s)) : Strs w (some ⟨r, 0, none⟩) [s] := fun j hj => by
  obtain rfl : j = 0 := by simp at hj; exact hj
  exact ⟨r, 0, rfl, h⟩
end Go.Proofs.Qxb6613913a
