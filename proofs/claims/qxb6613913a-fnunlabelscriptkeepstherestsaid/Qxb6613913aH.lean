import Derived.Test.Qxb6613913aF
namespace Go.Proofs.Qxb6613913a
open Go.ChangeShapes Go.WideShapes Go.ChangeAt Go.RowKit

/-! ### unlabel: the plain part -/
theorem hasB_cons (y : ByteArray) (L : List ByteArray) (s : ByteArray) : hasB (y :: L) s = (y.toList == s.toList || hasB L s) := rfl
theorem hasB_single (l s : ByteArray) : hasB [l] s = (l.toList == s.toList) := by simp [hasB]
theorem kept_notin {L : List ByteArray} {l : ByteArray} (h : l ∉ L) : keptS L [l] = L := by
  unfold keptS
  refine List.filter_eq_self.2 fun s hs => ?_
  rw [hasB_single]
  cases e : l.toList == s.toList
  · rfl
  · exact absurd (by rw [eq_of_toList (eq_of_beq e)]; exact hs) h
theorem kept_erase : ∀ (L : List ByteArray) (i : Nat), L.Nodup → i < L.length → keptS L [L.getD i ByteArray.empty] = L.eraseIdx i
  | [], _, _, h => by simp at h
  | y :: L, 0, hnd, _ => by
    obtain ⟨h1, h2⟩ := List.nodup_cons.1 hnd
    have e : keptS (y :: L) [y] = keptS L [y] := by
      unfold keptS
      rw [List.filter_cons_of_neg]
      rw [hasB_single]
      simp
    show keptS (y :: L) [y] = L
    rw [e, kept_notin h1]
  | y :: L, i + 1, hnd, h => by
    obtain ⟨h1, h2⟩ := List.nodup_cons.1 hnd
    have hi : i < L.length := by simpa using h
    have ih := kept_erase L i h2 hi
    have eg : (y :: L).getD (i + 1) ByteArray.empty = L.getD i ByteArray.empty := rfl
    rw [eg]
    have hmem : L.getD i ByteArray.empty ∈ L := by simp [List.getD, hi]
    have hne : ((L.getD i ByteArray.empty).toList == y.toList) = false := by
      cases e : (L.getD i ByteArray.empty).toList == y.toList
      · rfl
      · rw [eq_of_toList (eq_of_beq e)] at hmem
        exact absurd hmem h1
    have e : keptS (y :: L) [L.getD i ByteArray.empty] = y :: keptS L [L.getD i ByteArray.empty] := by
      unfold keptS
      rw [List.filter_cons_of_pos]
      rw [hasB_single, hne]
      rfl
    rw [e, ih]
    rfl
theorem kept_has (L : List ByteArray) (l s : ByteArray) : hasB (keptS L [l]) s = upd (hasB L) l false s := by
  unfold upd
  split
  · rename_i h
    cases hh : hasB (keptS L [l]) s
    · rfl
    · have := (List.mem_filter.1 (hasB_iff.1 hh)).2
      rw [hasB_single, eq_of_toList (eq_of_beq h)] at this
      simp at this
  · rename_i h
    have hne : ¬ l = s := fun e => h (by rw [e]; exact beq_self_eq_true _)
    rw [Bool.eq_iff_iff, hasB_iff, hasB_iff]
    unfold keptS
    rw [List.mem_filter]
    constructor
    · exact fun h => h.1
    · intro hs
      refine ⟨hs, ?_⟩
      rw [hasB_single]
      cases e : l.toList == s.toList
      · rfl
      · exact absurd (eq_of_toList (eq_of_beq e)) hne
theorem Rising.kept {L : List ByteArray} (h : Rising L) (tt : List ByteArray) : Rising (keptS L tt) := h.filter _
theorem kept_cnt {L : List ByteArray} {l sh : ByteArray} {i : Nat} (hnd : L.Nodup) (hi : i < L.length) (hl : L.getD i ByteArray.empty = l) : cnt (keptS L [l]) sh = if hasB [sh] l then cnt L sh else cnt L sh - 1 := by
  have hlen : (keptS L [l]).length = L.length - 1 := by
    rw [← hl, kept_erase L i hnd hi, List.length_eraseIdx, if_pos hi]
  have hmem : hasB L l = true := by rw [hasB_iff, ← hl]; simp [List.getD, hi]
  unfold cnt
  rw [hlen, kept_has]
  cases hs : hasB [sh] l
  · have hne : sh ≠ l := fun e => by rw [e, hasB_single] at hs; simp at hs
    rw [upd_other _ _ hne]
    split <;> simp <;> omega
  · rw [hasB_single] at hs
    have e := eq_of_toList (eq_of_beq hs)
    subst e
    rw [upd_same, hmem]
    simp
    omega

theorem not_map_of_cell {w : World} {k o : Nat} {v : Value} (h : w.cell? ⟨k, o, none⟩ = some v) {es : Array MapEntry} {cl : Nat} (hm : w.heap[k]? = some (.map es cl)) : False := by
  simp [World.cell?, hm] at h

/-! ### unlabel: the state -/
def NodeOK (Pr : Nat → Prop) (w : World) (d : Nat) (L : List ByteArray) : Prop :=
  (∃ A cap, w.cell? ⟨d, 0, none⟩ = some (.slice A L.length cap) ∧ (L = [] ∨ ∃ r, A = some ⟨r, 0, none⟩ ∧ r ≠ d ∧ ¬ Pr r ∧ cap ≤ 1048576 ∧ RowOK w r cap L)) ∧ w.frozen? ⟨d, 0, none⟩ = false ∧ ¬ Pr d
def St (Pr : Nat → Prop) (d gp bO : Nat) (K O sh : ByteArray) (w : World) (L : List ByteArray) : Prop :=
  NodeOK Pr w d L ∧ w.cell? ⟨gp, 2, none⟩ = some (.map (some bO)) ∧ Rising L ∧ L.length ≤ 1048576 ∧ Index w bO K O (hasB L) (hasB [sh]) (cnt L sh) Pr ∧ ∀ k, Pr k → k < w.heap.size
def Unl (Pr : Nat → Prop) (d gp bO : Nat) (K O sh l : ByteArray) (L : List ByteArray) (w : World) (e : Ending) (w' : World) : Prop :=
  e = .returned (.tuple #[]) ∧ St Pr d gp bO K O sh w' (keptS L [l]) ∧ Fr Pr w w'

variable {Pr : Nat → Prop} {d gp bO : Nat} {K O sh : ByteArray} {L : List ByteArray} {w : World}
theorem unl_none {l : ByteArray} (h : St Pr d gp bO K O sh w L) (hl : l ∉ L) : Unl Pr d gp bO K O sh l L w (.returned (.tuple #[])) w := by
  refine ⟨rfl, ?_, Fr.refl _ _⟩
  rw [kept_notin hl]
  exact h

/-- The row is turned, and the node: what stands then. -/
theorem unl_some {l : ByteArray} {i r cap : Nat} {w1 : World} (h : St Pr d gp bO K O sh w L) (hgp : Pr gp) (hi : i < L.length) (hl : L.getD i ByteArray.empty = l) (hls : l.size ≤ maxLen) (hne : K ≠ O) (hK : K.size ≤ maxLen)
    (hr : r ≠ d) (hpr : ¬ Pr r) (hcap : cap ≤ 1048576) (hrow : RowOK w r cap L) (hdel : RowOK w1 r cap (L.eraseIdx i)) (hg : w.grownBy w1 (some r)) :
    ∃ b w3, (Instr.lookup 31 (.map (some bO)) (.string l) false).run Try.prog (w1.setCell ⟨d, 0, none⟩ (.slice (some ⟨r, 0, none⟩) (L.length - 1) cap)) = .ok (.map (some b)) (w1.setCell ⟨d, 0, none⟩ (.slice (some ⟨r, 0, none⟩) (L.length - 1) cap)) ∧
      (∀ ty, (Builtin.delete_ #[39, 9] ty #[.map (some b), .string K]).run Try.prog (w1.setCell ⟨d, 0, none⟩ (.slice (some ⟨r, 0, none⟩) (L.length - 1) cap)) = .ok (.tuple #[]) w3) ∧
      (Instr.lookup 31 (.map (some bO)) (.string l) false).run Try.prog w3 = .ok (.map (some b)) w3 ∧ (∀ ty, (Builtin.len_ #[39] ty #[.map (some b)]).run Try.prog w3 = .ok (.int .i64 ((hasB [sh] l).toNat : Int)) w3) ∧
      w3.cell? ⟨gp, 2, none⟩ = some (.map (some bO)) ∧
      (hasB [sh] l = true → Unl Pr d gp bO K O sh l L w (.returned (.tuple #[])) w3) ∧
      (hasB [sh] l = false → ∃ w4, (∀ ty, (Builtin.delete_ #[31, 9] ty #[.map (some bO), .string l]).run Try.prog w3 = .ok (.tuple #[]) w4) ∧ Unl Pr d gp bO K O sh l L w (.returned (.tuple #[])) w4) := by
  obtain ⟨⟨⟨A, cp, hcd, _⟩, hfz, hpd⟩, hcg, hris, hlen, hI, hP⟩ := h
  have hcap0 : 0 < cap := by have := hrow.1; omega
  obtain ⟨v0, hv0⟩ := Option.isSome_iff_exists.1 (hrow.2.1 0 hcap0).1
  have hdlt := block_lt_of_cell hcd
  obtain ⟨w2, hw2⟩ : ∃ w2, w2 = w1.setCell ⟨d, 0, none⟩ (.slice (some ⟨r, 0, none⟩) (L.length - 1) cap) := ⟨_, rfl⟩
  rw [← hw2]
  have hsz : w2.heap.size = w1.heap.size := by rw [hw2]; simp [World.setCell]
  have hblk : ∀ k, k < w.heap.size → k ≠ r → k ≠ d → w2.heap[k]? = w.heap[k]? := fun k hk h1 h2 => by
    rw [hw2, Below.heap_setCell _ _ _ _ h2]
    exact hg.block k hk (fun e => h1 (Option.some.inj e))
  have hI2 : Index w2 bO K O (hasB L) (hasB [sh]) (cnt L sh) Pr := hI.keep fun k es cl hm => hblk k (Array.getElem?_eq_some_iff.1 hm).1 (fun e => not_map_of_cell hv0 (by rw [← e]; exact hm)) (fun e => not_map_of_cell hcd (by rw [← e]; exact hm))
  have hF2 : Fr Pr w w2 := by
    refine ⟨?_, ?_, ?_, by rw [hsz]; exact hg.size, fun k hk => hblk k (hP k hk) (fun e => hpr (by rw [← e]; exact hk)) (fun e => hpd (by rw [← e]; exact hk))⟩
    · rw [hw2]; exact hg.os
    · rw [hw2]; exact hg.tape
    · rw [hw2]; exact hg.output
  have hP2 : ∀ k, Pr k → k < w2.heap.size := fun k hk => Nat.lt_of_lt_of_le (hP k hk) hF2.size
  have hmem : hasB L l = true := by rw [hasB_iff, ← hl]; simp [List.getD, hi]
  obtain ⟨b, w3, r1, r2, r3, r4, q1, q2, ht3, hF3⟩ := hI2.del hls hmem hne hK hP2
  have hd1 : (w1.cell? ⟨d, 0, none⟩) = some (.slice A L.length cp) := by rw [World.cell?_of_block (w := w) (hg.block d hdlt (fun e => hr (Option.some.inj e).symm))]; exact hcd
  have hc2 : w2.cell? ⟨d, 0, none⟩ = some (.slice (some ⟨r, 0, none⟩) (L.length - 1) cap) := by
    rw [hw2]
    exact World.cell?_setCell_same w1 _ _ hd1
  have hrow2 : RowOK w2 r cap (L.eraseIdx i) := by
    have hb : w2.heap[r]? = w1.heap[r]? := by rw [hw2, Below.heap_setCell _ _ _ _ hr]
    obtain ⟨p1, p2, p3⟩ := hdel
    exact ⟨p1, fun j hj => ⟨by rw [World.cell?_of_block (w := w1) (a := ⟨r, j, none⟩) hb]; exact (p2 j hj).1, by rw [World.frozen?_of_block (w := w1) (a := ⟨r, j, none⟩) hb]; exact (p2 j hj).2⟩, fun j hj => by rw [World.cell?_of_block (w := w1) (a := ⟨r, j, none⟩) hb]; exact p3 j hj⟩
  have hfz2 : w2.frozen? ⟨d, 0, none⟩ = false := by
    rw [hw2, World.frozen?_setCell, World.frozen?_of_block (w := w) (hg.block d hdlt (fun e => hr (Option.some.inj e).symm))]
    exact hfz
  have hcg2 : w2.cell? ⟨gp, 2, none⟩ = some (.map (some bO)) := by
    rw [World.cell?_of_block (w := w) (a := ⟨gp, 2, none⟩) (hF2.block gp hgp)]
    exact hcg
  have hkl : keptS L [l] = L.eraseIdx i := by rw [← hl]; exact kept_erase L i hris.nodup hi
  have hel : (L.eraseIdx i).length = L.length - 1 := by rw [List.length_eraseIdx, if_pos hi]
  obtain ⟨v1, hv1⟩ := Option.isSome_iff_exists.1 (hrow2.2.1 0 hcap0).1
  -- what a world beyond w2 needs
  have fin : ∀ w4 : World, (∀ k, k < w2.heap.size → (∀ es cl, w2.heap[k]? ≠ some (.map es cl)) → w4.heap[k]? = w2.heap[k]?) → Fr Pr w w4 → Index w4 bO K O (upd (hasB L) l false) (hasB [sh]) (if hasB [sh] l then cnt L sh else cnt L sh - 1) Pr → Unl Pr d gp bO K O sh l L w (.returned (.tuple #[])) w4 := by
    intro w4 hk hF hI4
    have bd : w4.heap[d]? = w2.heap[d]? := hk d (block_lt_of_cell hc2) (fun es cl hm => not_map_of_cell hc2 hm)
    have br : w4.heap[r]? = w2.heap[r]? := hk r (block_lt_of_cell hv1) (fun es cl hm => not_map_of_cell hv1 hm)
    have bg : w4.heap[gp]? = w2.heap[gp]? := hk gp (block_lt_of_cell hcg2) (fun es cl hm => not_map_of_cell hcg2 hm)
    obtain ⟨p1, p2, p3⟩ := hrow2
    refine ⟨rfl, ⟨⟨⟨some ⟨r, 0, none⟩, cap, ?_, .inr ⟨r, rfl, hr, hpr, hcap, ?_⟩⟩, ?_, hpd⟩, ?_, hris.kept _, ?_, ?_, ?_⟩, hF⟩
    · rw [World.cell?_of_block (w := w2) (a := ⟨d, 0, none⟩) bd, hkl, hel]; exact hc2
    · rw [hkl]
      exact ⟨p1, fun j hj => ⟨by rw [World.cell?_of_block (w := w2) (a := ⟨r, j, none⟩) br]; exact (p2 j hj).1, by rw [World.frozen?_of_block (w := w2) (a := ⟨r, j, none⟩) br]; exact (p2 j hj).2⟩, fun j hj => by rw [World.cell?_of_block (w := w2) (a := ⟨r, j, none⟩) br]; exact p3 j hj⟩
    · rw [World.frozen?_of_block (w := w2) (a := ⟨d, 0, none⟩) bd]; exact hfz2
    · rw [World.cell?_of_block (w := w2) (a := ⟨gp, 2, none⟩) bg]; exact hcg2
    · rw [hkl, hel]; omega
    · exact hI4.cast (kept_has L l) (fun _ => rfl) (kept_cnt hris.nodup hi hl)
    · exact fun k hk => Nat.lt_of_lt_of_le (hP k hk) hF.size
  have ne_of_turned : ∀ {u u' : World} {b : Nat}, u.mapTurned u' b → ∀ k, k < u.heap.size → (∀ es cl, u.heap[k]? ≠ some (.map es cl)) → u'.heap[k]? = u.heap[k]? := by
    intro u u' b ht k hk hn
    have hg := ht.grown
    obtain ⟨es, cl, _, _, hb, _⟩ := ht
    exact hg.block k hk (fun e => hn es cl (by rw [Option.some.inj e]; exact hb))
  refine ⟨b, w3, r1, r2, r3, r4, ?_, fun hq => ?_, fun hq => ?_⟩
  · rw [World.cell?_of_block (w := w2) (a := ⟨gp, 2, none⟩) (ne_of_turned ht3 gp (block_lt_of_cell hcg2) (fun es cl hm => not_map_of_cell hcg2 hm))]
    exact hcg2
  · refine fin w3 (ne_of_turned ht3) (hF2.trans hF3) ?_
    rw [hq]
    exact q1 hq
  · obtain ⟨w4, r5, hI4, ht4, hF4⟩ := q2 hq
    refine ⟨w4, r5, fin w4 (fun k hk hn => ?_) (hF2.trans hF4) ?_⟩
    · have e3 := ne_of_turned ht3 k hk hn
      refine (ne_of_turned ht4 k (Nat.lt_of_lt_of_le hk ht3.grown.size) (fun es cl hm => hn es cl (by rw [← e3]; exact hm))).trans e3
    · rw [hq]
      exact hI4

/-! ### unlabel: the walk -/
theorem f17_nil {l : ByteArray} (h : St Pr d gp bO K O sh w []) :
    Calls Try.prog 17 #[.pointer (some ⟨gp, 0, none⟩), .string K, .pointer (some ⟨d, 0, none⟩), .string l] w fun e w' => Unl Pr d gp bO K O sh l [] w e w' := by
  have HU : Hid (Unl Pr d gp bO K O sh l [] w (.returned (.tuple #[])) w) := unl_none h (by simp)
  obtain ⟨⟨⟨A, cap, hcd, _⟩, _⟩, _⟩ := h
  have hcd0 : w.cell? ⟨d, 0, none⟩ = some (.slice A 0 cap) := hcd
  clear hcd
  go_enter Try.func17, Try.ntmps17
  go_wp2_with fail
  refine (f18_none A cap l w).mono ?_
  rintro e w' ⟨i, q, rfl, hf, hw'⟩
  rw [hw']
  clear hw' w'
  obtain rfl : q = false := by
    cases q
    · rfl
    · have := (hf.1 rfl).1
      simp at this
  clear hf
  go_wp2
  go_end0
  exact HU.out
set_option maxHeartbeats 1600000 in
set_option maxRecDepth 1000000 in
theorem f17_row {l : ByteArray} {r cap m : Nat} (h : St Pr d gp bO K O sh w L) (hgp : Pr gp) (hm : L.length = m + 1) (hc : w.cell? ⟨d, 0, none⟩ = some (.slice (some ⟨r, 0, none⟩) (m + 1) cap)) (hls : l.size ≤ maxLen) (hne : K ≠ O) (hK : K.size ≤ maxLen)
    (hr : r ≠ d) (hpr : ¬ Pr r) (hcap : cap ≤ 1048576) (hrow : RowOK w r cap L) :
    Calls Try.prog 17 #[.pointer (some ⟨gp, 0, none⟩), .string K, .pointer (some ⟨d, 0, none⟩), .string l] w fun e w' => Unl Pr d gp bO K O sh l L w e w' := by
  have H18 : Hid (Calls Try.prog 18 #[.slice (some ⟨r, 0, none⟩) (m + 1) cap, .string l] w fun e w' => Searched L l w e w') := f18_some r (m + 1) cap l L w hm (by have := h.2.2.2.1; omega) h.2.2.1 (fun j hj => hrow.2.2 j (by omega))
  have HS : Hid (St Pr d gp bO K O sh w L) := h
  have HM : Hid (L.length = m + 1) := hm
  have HR : Hid (r ≠ d ∧ ¬ Pr r ∧ RowOK w r cap L) := ⟨hr, hpr, hrow⟩
  have HX : Hid (l.size ≤ maxLen ∧ K ≠ O ∧ K.size ≤ maxLen ∧ Pr gp) := ⟨hls, hne, hK, hgp⟩
  clear h hm hr hpr hrow hls hne hK hgp
  go_enter Try.func17, Try.ntmps17
  go_wp2_with fail
  refine H18.out.mono ?_
  rintro e w' ⟨i, q, rfl, hf, hw'⟩
  rw [hw']
  clear hw' w'
  cases q
  · have HU : Hid (Unl Pr d gp bO K O sh l L w (.returned (.tuple #[])) w) := unl_none HS.out (hf.2 rfl)
    clear hf
    go_wp2
    go_end0
    exact HU.out
  · have HI : Hid (i < L.length ∧ L.getD i ByteArray.empty = l) := hf.1 rfl
    have him : i ≤ m := by have := HI.out.1; rw [HM.out] at this; omega
    have hmc : m + 1 ≤ cap := by have := HR.out.2.2.1; rw [HM.out] at this; exact this
    have hwr : IntKind.i64.wrap ((i : Int) + 1) = (i : Int) + 1 := by rw [IntKind.wrap_i64]; omega
    clear hf
    go_wp2_with fail
    refine (f19_any r cap i m L w HM.out him hcap HR.out.2.2).mono ?_
    rintro e w1 ⟨rfl, hrow1, hg1⟩
    rw [HM.out, show m + 1 - 1 = m by omega]
    obtain ⟨b, w3, r1, r2, r3, r4, hgp3, q1, q2⟩ := unl_some HS.out HX.out.2.2.2 HI.out.1 HI.out.2 HX.out.1 HX.out.2.1 HX.out.2.2.1 HR.out.1 HR.out.2.1 hcap HR.out.2.2 hrow1 hg1
    rw [HM.out, show m + 1 - 1 = m by omega] at r1 r2
    have hdlt := block_lt_of_cell hc
    have hd1 : w1.cell? ⟨d, 0, none⟩ = some (.slice (some ⟨r, 0, none⟩) (m + 1) cap) := by
      rw [World.cell?_of_block (w := w) (hg1.block d hdlt (fun e => HR.out.1 (Option.some.inj e).symm))]
      exact hc
    have hf1 : w1.frozen? ⟨d, 0, none⟩ = false := by
      rw [World.frozen?_of_block (w := w) (hg1.block d hdlt (fun e => HR.out.1 (Option.some.inj e).symm))]
      exact HS.out.1.2.1
    have hgd : gp ≠ d := fun e => HS.out.1.2.2 (by rw [← e]; exact HX.out.2.2.2)
    have hgr : gp ≠ r := fun e => HR.out.2.1 (by rw [← e]; exact HX.out.2.2.2)
    have hg1c : w1.cell? ⟨gp, 2, none⟩ = some (.map (some bO)) := by
      rw [World.cell?_of_block (w := w) (a := ⟨gp, 2, none⟩) (hg1.block gp (HS.out.2.2.2.2.2 gp HX.out.2.2.2) (fun e => hgr (Option.some.inj e)))]
      exact HS.out.2.1
    have hg2c : (w1.setCell ⟨d, 0, none⟩ (.slice (some ⟨r, 0, none⟩) m cap)).cell? ⟨gp, 2, none⟩ = some (.map (some bO)) := by
      rw [World.cell?_of_block (w := w1) (a := ⟨gp, 2, none⟩) (Below.heap_setCell w1 ⟨d, 0, none⟩ _ gp hgd)]
      exact hg1c
    cases hq : hasB [sh] l
    · rw [hq] at r4
      obtain ⟨w4, r5, hu⟩ := q2 hq
      have HU : Hid (Unl Pr d gp bO K O sh l L w (.returned (.tuple #[])) w4) := hu
      clear hu q1 q2 hq hrow1 hg1 hgr
      go_wp2_with (first | (at_delete; first | refine wpList_delete_run rfl _ _ _ _ rfl _ _ rfl rfl w3 r2 ?_ | refine wpList_delete_run rfl _ _ _ _ rfl _ _ rfl rfl w4 r5 ?_) | (at_len; refine wpList_len_run rfl _ _ rfl _ _ rfl r4 ?_))
      go_end0
      exact HU.out
    · rw [hq] at r4
      have HU : Hid (Unl Pr d gp bO K O sh l L w (.returned (.tuple #[])) w3) := q1 hq
      clear q1 q2 hq hrow1 hg1 hgr
      go_wp2_with (first | (at_delete; refine wpList_delete_run rfl _ _ _ _ rfl _ _ rfl rfl w3 r2 ?_) | (at_len; refine wpList_len_run rfl _ _ rfl _ _ rfl r4 ?_))
      go_end0
      exact HU.out
theorem f17_any {l : ByteArray} (h : St Pr d gp bO K O sh w L) (hgp : Pr gp) (hls : l.size ≤ maxLen) (hne : K ≠ O) (hK : K.size ≤ maxLen) :
    Calls Try.prog 17 #[.pointer (some ⟨gp, 0, none⟩), .string K, .pointer (some ⟨d, 0, none⟩), .string l] w fun e w' => Unl Pr d gp bO K O sh l L w e w' := by
  have h' := h
  obtain ⟨⟨⟨A, cap, hcd, hor⟩, _⟩, _⟩ := h'
  rcases Nat.eq_zero_or_pos L.length with h0 | h0
  · obtain rfl : L = [] := List.eq_nil_of_length_eq_zero h0
    exact f17_nil h
  · rcases hor with e | ⟨r, rfl, hr, hpr, hcap, hrow⟩
    · rw [e] at h0; simp at h0
    · obtain ⟨m, hm⟩ : ∃ m, L.length = m + 1 := ⟨L.length - 1, by omega⟩
      rw [hm] at hcd
      exact f17_row h hgp hm hcd hls hne hK hr hpr hcap hrow
theorem f11_any {l : ByteArray} (h : St Pr d gp bO K O sh w L) (hgp : Pr gp) (hls : l.size ≤ maxLen) (hne : K ≠ O) (hK : K.size ≤ maxLen) :
    Calls Try.prog 11 #[.pointer (some ⟨gp, 0, none⟩), .string K, .pointer (some ⟨d, 0, none⟩), .string l] w fun e w' => Unl Pr d gp bO K O sh l L w e w' := by
  have H17 : Hid (Calls Try.prog 17 #[.pointer (some ⟨gp, 0, none⟩), .string K, .pointer (some ⟨d, 0, none⟩), .string l] w fun e w' => Unl Pr d gp bO K O sh l L w e w') := f17_any h hgp hls hne hK
  clear h hgp hls hne hK
  go_enter Try.func11, Try.ntmps11
  go_wp2_with fail
  refine H17.out.mono ?_
  rintro e w' ⟨rfl, hs, hf⟩
  have HU : Hid (Unl Pr d gp bO K O sh l L w (.returned (.tuple #[])) w') := ⟨rfl, hs, hf⟩
  clear hs hf
  go_wp2
  go_end0
  exact HU.out
end Go.Proofs.Qxb6613913a
