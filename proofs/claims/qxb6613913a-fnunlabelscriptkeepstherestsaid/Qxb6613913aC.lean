import Derived.Test.Qxb6613913aB
import Derived.Deep.RegionLaw
import Derived.Deep.MidRow
namespace Go.Proofs.Qxb6613913a
open Go.ChangeShapes Go.WideShapes Go.ChangeAt Go.RowKit

/-! ### cmp.Less, isNaN -/
theorem f22_any (x : ByteArray) (w : World) : Calls Try.prog 22 #[.string x] w fun e w' => e = .returned (.bool false) ∧ w' = w := by
  go_enter Try.func22, Try.ntmps22
  go_wp2
  go_ret
  exact ⟨rfl, rfl⟩
theorem f21_any (x : ByteArray) (w : World) : Calls Try.prog 21 #[.string x] w fun e w' => e = .returned (.bool false) ∧ w' = w := by
  go_enter Try.func21, Try.ntmps21
  go_wp2
  go_ret
  exact ⟨rfl, rfl⟩
theorem f20_any (x y : ByteArray) (w : World) : Calls Try.prog 20 #[.string x, .string y] w fun e w' => e = .returned (.bool (Op.bytesLess x.toList y.toList)) ∧ w' = w := by
  go_enter Try.func20, Try.ntmps20
  go_wp2_with fail
  refine (f22_any x w).mono ?_
  rintro e w' ⟨rfl, hw'⟩
  rw [hw']
  clear hw' w'
  go_wp2
  go_ret
  exact ⟨rfl, rfl⟩

/-! ### slices.BinarySearch -/
/-- What the search gives on rising strings. -/
def Found (L : List ByteArray) (t : ByteArray) (i : Nat) (q : Bool) : Prop := (q = true → i < L.length ∧ L.getD i ByteArray.empty = t) ∧ (q = false → t ∉ L)
def Searched (L : List ByteArray) (t : ByteArray) (w : World) (e : Ending) (w' : World) : Prop := ∃ (i : Nat) (q : Bool), e = .returned (.tuple #[.int .i64 i, .bool q]) ∧ Found L t i q ∧ w' = w

theorem found_end {L : List ByteArray} {t : ByteArray} {i : Nat} (hr : Rising L) (hlo : ∀ k, k < i → Op.bytesLess (L.getD k ByteArray.empty).toList t.toList = true)
    (hhi : ∀ k, i ≤ k → k < L.length → Op.bytesLess (L.getD k ByteArray.empty).toList t.toList = false) (hne : i < L.length → ((L.getD i ByteArray.empty).toList == t.toList) = false) : Found L t i false := by
  refine ⟨fun h => (by cases h), fun _ ht => ?_⟩
  obtain ⟨p, hp, e⟩ := List.mem_iff_getElem.1 ht
  have e' : L.getD p ByteArray.empty = t := by simp [List.getD, hp, e]
  rcases Nat.lt_trichotomy p i with h | h | h
  · have := hlo p h
    rw [e', less_irr] at this
    cases this
  · subst h
    have := hne hp
    rw [e'] at this
    simp at this
  · have h1 := hhi i (Nat.le_refl _) (by omega)
    have h2 := hr.at h hp
    rw [e', h1] at h2
    cases h2
theorem found_hit {L : List ByteArray} {t : ByteArray} {i : Nat} (hi : i < L.length) (h : ((L.getD i ByteArray.empty).toList == t.toList) = true) : Found L t i true :=
  ⟨fun _ => ⟨hi, eq_of_toList (eq_of_beq h)⟩, fun h => by cases h⟩

theorem f18_none (a : Option Addr) (cap : Nat) (t : ByteArray) (w : World) :
    Calls Try.prog 18 #[.slice a 0 cap, .string t] w fun e w' => Searched [] t w e w' := by
  go_enter Try.func18, Try.ntmps18
  go_wp2
  refine wp_loop_rounds 1 ?_
  rw [rounds_succ]
  go_wp2
  go_ret2
  exact ⟨0, false, rfl, ⟨fun h => (by cases h), fun _ h => (by cases h)⟩, rfl⟩

set_option maxHeartbeats 1600000 in
theorem f18_some (b n cap : Nat) (t : ByteArray) (L : List ByteArray) (w : World) (hn : L.length = n) (hl : n ≤ 1048576) (hr : Rising L) (hc : ∀ j, j < n → w.cell? ⟨b, j, none⟩ = some (.string (L.getD j ByteArray.empty))) :
    Calls Try.prog 18 #[.slice (some ⟨b, 0, none⟩) n cap, .string t] w fun e w' => Searched L t w e w' := by
  have HC : Hid (∀ j, j < n → w.cell? ⟨b, j, none⟩ = some (.string (L.getD j ByteArray.empty))) := hc
  have HN : Hid (L.length = n) := hn
  have HR : Hid (Rising L) := hr
  clear hc hn hr
  go_enter Try.func18, Try.ntmps18
  go_wp2
  go_loop [7, 8] (fun vi vj => ∃ i j : Nat, i ≤ j ∧ j ≤ n ∧ vi = .int .i64 i ∧ vj = .int .i64 j ∧ Hid (∀ k, k < i → Op.bytesLess (L.getD k ByteArray.empty).toList t.toList = true) ∧ Hid (∀ k, j ≤ k → k < n → Op.bytesLess (L.getD k ByteArray.empty).toList t.toList = false)) (fun vi vj => (intOf vj).toNat - (intOf vi).toNat)
  case atStart => exact ⟨0, n, by omega, by omega, rfl, rfl, fun k hk => by omega, fun k h1 h2 => by omega⟩
  case round =>
    obtain ⟨i, j, hij, hjn, rfl, rfl, HLO, HHI⟩ := hrel
    by_cases hlt : i < j
    · obtain ⟨x, hx⟩ : ∃ x, x = L.getD ((i + j) / 2) ByteArray.empty := ⟨_, rfl⟩
      have HX : Hid (x = L.getD ((i + j) / 2) ByteArray.empty) := hx
      have hcell : w.cell? ⟨b, (i + j) / 2, none⟩ = some (.string x) := by rw [hx]; exact HC.out _ (by omega)
      clear hx
      have h20 := f20_any x t w
      cases he : Op.bytesLess x.toList t.toList
      · rw [he] at h20
        have H20 : Hid (Calls Try.prog 20 #[.string x, .string t] w fun e w' => e = .returned (.bool false) ∧ w' = w) := h20
        have HK : Hid (∀ k, (i + j) / 2 ≤ k → k < n → Op.bytesLess (L.getD k ByteArray.empty).toList t.toList = false) := by
          intro k h1 h2
          by_cases hk : k = (i + j) / 2
          · rw [hk, ← HX.out]; exact he
          · cases hq : Op.bytesLess (L.getD k ByteArray.empty).toList t.toList
            · rfl
            · have h3 := HR.out.at (i := (i + j) / 2) (j := k) (by omega) (by rw [HN.out]; exact h2)
              have h4 := less_trans _ _ _ h3 hq
              rw [← HX.out, he] at h4
              cases h4
        clear h20 he
        go_wp2_with fail
        refine H20.out.mono ?_
        rintro e w' ⟨rfl, hw'⟩
        rw [hw']
        clear hw' w'
        go_wp2
        go_round
        case rel => exact ⟨i, (i + j) / 2, by omega, by omega, rfl, by go_num, HLO, HK⟩
        case measure => simp [intOf]; omega
      · rw [he] at h20
        have H20 : Hid (Calls Try.prog 20 #[.string x, .string t] w fun e w' => e = .returned (.bool true) ∧ w' = w) := h20
        have HK : Hid (∀ k, k < (i + j) / 2 + 1 → Op.bytesLess (L.getD k ByteArray.empty).toList t.toList = true) := by
          intro k h1
          by_cases hk : k = (i + j) / 2
          · rw [hk, ← HX.out]; exact he
          · have h3 := HR.out.at (i := k) (j := (i + j) / 2) (by omega) (by rw [HN.out]; omega)
            rw [← HX.out] at h3
            exact less_trans _ _ _ h3 he
        clear h20 he
        go_wp2_with fail
        refine H20.out.mono ?_
        rintro e w' ⟨rfl, hw'⟩
        rw [hw']
        clear hw' w'
        go_wp2
        go_round
        case rel => exact ⟨(i + j) / 2 + 1, j, by omega, by omega, by go_num, rfl, HK, HHI⟩
        case measure => simp [intOf]; omega
    · have hij' : i = j := by omega
      subst hij'
      by_cases hin : i < n
      · obtain ⟨x, hx⟩ : ∃ x, x = L.getD i ByteArray.empty := ⟨_, rfl⟩
        have HX : Hid (x = L.getD i ByteArray.empty) := hx
        have hcell : w.cell? ⟨b, i, none⟩ = some (.string x) := by rw [hx]; exact HC.out _ hin
        clear hx
        cases he : (x.toList == t.toList)
        · have HQ : Hid (Found L t i false) := found_end HR.out HLO.out (fun k h1 h2 => HHI.out k h1 (by rw [HN.out] at h2; exact h2)) (fun _ => by rw [← HX.out]; exact he)
          go_wp2_with fail
          refine (f21_any x w).mono ?_
          rintro e w' ⟨rfl, hw'⟩
          rw [hw']
          clear hw' w'
          go_wp2
          go_ret2
          exact ⟨i, false, rfl, HQ.out, rfl⟩
        · have HQ : Hid (Found L t i true) := found_hit (by rw [HN.out]; exact hin) (by rw [← HX.out]; exact he)
          go_wp2
          go_ret2
          exact ⟨i, true, rfl, HQ.out, rfl⟩
      · have HQ : Hid (Found L t i false) := found_end HR.out HLO.out (fun k h1 h2 => by rw [HN.out] at h2; omega) (fun h => by rw [HN.out] at h; omega)
        go_wp2
        go_ret2
        exact ⟨i, false, rfl, HQ.out, rfl⟩

/-! ### slices.Delete -/
/-- A row of strings: cap cells that may be written, the first of them the strings of L. -/
def RowOK (w : World) (r cap : Nat) (L : List ByteArray) : Prop :=
  L.length ≤ cap ∧ (∀ j, j < cap → (w.cell? ⟨r, j, none⟩).isSome = true ∧ w.frozen? ⟨r, j, none⟩ = false) ∧ ∀ j, j < L.length → w.cell? ⟨r, j, none⟩ = some (.string (L.getD j ByteArray.empty))

def moved (L : List ByteArray) (i : Nat) : List Value := (L.drop (i + 1)).map Value.string
theorem moved_length (L : List ByteArray) (i : Nat) : (moved L i).length = L.length - (i + 1) := by simp [moved]
theorem moved_get {L : List ByteArray} {i j : Nat} (hj : j < L.length - (i + 1)) : (moved L i)[j]? = some (.string (L.getD (i + 1 + j) ByteArray.empty)) := by
  simp [moved, List.getD, show i + 1 + j < L.length by omega]
theorem erase_get {L : List ByteArray} {i j : Nat} : (L.eraseIdx i).getD j ByteArray.empty = if j < i then L.getD j ByteArray.empty else L.getD (j + 1) ByteArray.empty := by
  simp only [List.getD, List.getElem?_eraseIdx]
  split <;> rfl

def Deleted (r cap : Nat) (L : List ByteArray) (i : Nat) (w : World) (e : Ending) (w' : World) : Prop :=
  e = .returned (.slice (some ⟨r, 0, none⟩) (L.length - 1) cap) ∧ RowOK w' r cap (L.eraseIdx i) ∧ w.grownBy w' (some r)
theorem deleted_of {r cap : Nat} {L : List ByteArray} {i : Nat} {w : World} (hi : i < L.length) (h : RowOK w r cap L) :
    RowOK ((w.setCells r i (moved L i)).setCells r (L.length - 1) (List.replicate 1 (.string ByteArray.empty))) r cap (L.eraseIdx i) := by
  obtain ⟨h1, h2, h3⟩ := h
  have he : (L.eraseIdx i).length = L.length - 1 := by rw [List.length_eraseIdx, if_pos hi]
  refine ⟨by omega, fun j hj => ⟨?_, ?_⟩, fun j hj => ?_⟩
  · exact World.isSome_setCells _ _ _ _ _ (World.isSome_setCells _ _ _ _ _ (h2 j hj).1)
  · rw [World.frozen?_setCells, World.frozen?_setCells]; exact (h2 j hj).2
  · rw [he] at hj
    rw [World.cell?_setCells_out r _ _ _ _ (fun _ _ => .inl (by show j < L.length - 1; exact hj)), erase_get]
    by_cases hji : j < i
    · rw [if_pos hji, World.cell?_setCells_out r _ _ _ _ (fun _ _ => .inl (by show j < i; exact hji))]
      exact h3 j (by omega)
    · rw [if_neg hji]
      have := World.cell?_setCells_in r (moved L i) i w (fun q hq => (h2 (i + q) (by rw [moved_length] at hq; omega)).1) (j - i) (by rw [moved_length]; omega)
      rw [show i + (j - i) = j by omega] at this
      rw [this]
      have hm := moved_get (L := L) (i := i) (j := j - i) (by omega)
      rw [List.getElem?_eq_getElem (by rw [moved_length]; omega), show i + 1 + (j - i) = j + 1 by omega] at hm
      exact hm

theorem zero9 (w : World) : (zeroValue 9).run Try.prog w = .ok (.string ByteArray.empty) w := by kernel_rfl
/-- clear(s), s one element long. -/
theorem wpList_clear_one {w : World} {ops : Array Oper} {rest : List Oper} {o : Oper} {a : Act} {Q : Exit → Act → World → Prop} (hg : o.guard = none) (x : Operand) (hop : o.op = Op.call { callee := Callee.builtin Builtin.clear, args := #[x], argTypes := #[22] })
    (b of n c : Nat) (hx : a.eval x = .slice (some ⟨b, of, none⟩) n c) (hn : n = 1) (hc : (w.cell? ⟨b, of, none⟩).isSome = true) (hf : w.frozen? ⟨b, of, none⟩ = false)
    (h : wpList Try.prog ops Q rest (a.put o.dst (.tuple #[])) (w.setCells b of (List.replicate 1 (.string ByteArray.empty)))) : wpList Try.prog ops Q (o :: rest) a w := by
  subst hn
  refine wpList_plain hg fun K hK => ?_
  have hc1 : ∀ j, j < 1 → (w.cell? ⟨b, of + j, none⟩).isSome = true := by
    intro j hj
    obtain rfl : j = 0 := by omega
    exact hc
  have hf1 : ∀ j, j < 1 → w.frozen? ⟨b, of + j, none⟩ = false := by
    intro j hj
    obtain rfl : j = 0 := by omega
    exact hf
  have hrun := Lib.run_clear_slice (P := Try.prog) w 22 9 o.type (.string ByteArray.empty) Try.underlying22 zero9 rfl rfl b of 1 c (by omega) hc1 hf1
  unfold Oper.wp
  simp [execOp, hop, resolve, invoke, builtin, hx, hrun, Result.andThen]
  exact hK _ _ h

theorem grownBy_setCells (w : World) (r o : Nat) (vs : List Value) : w.grownBy (w.setCells r o vs) (some r) := by
  induction vs generalizing w o with
  | nil => exact ⟨rfl, rfl, rfl, Nat.le_refl _, fun _ _ _ => rfl⟩
  | cons v vs ih =>
    have h := ih (w.setCell ⟨r, o, none⟩ v) (o + 1)
    refine ⟨h.os, h.tape, h.output, ?_, fun k hk hne => ?_⟩
    · have h2 : w.heap.size = (w.setCell ⟨r, o, none⟩ v).heap.size := by simp [World.setCell]
      rw [h2]
      exact h.size
    · have h1 := h.block k (by simpa [World.setCell] using hk) hne
      exact h1.trans (heap_setCell_other w ⟨r, o, none⟩ k v (by simpa using hne))

set_option maxHeartbeats 1600000 in
set_option maxRecDepth 1000000 in
theorem f19_any (r cap i m : Nat) (L : List ByteArray) (w : World) (hm : L.length = m + 1) (hi : i ≤ m) (hl : cap ≤ 1048576) (h : RowOK w r cap L) :
    Calls Try.prog 19 #[.slice (some ⟨r, 0, none⟩) (m + 1) cap, .int .i64 i, .int .i64 (i + 1)] w fun e w' => Deleted r cap L i w e w' := by
  have H : Hid (RowOK w r cap L) := h
  have HM : Hid (L.length = m + 1) := hm
  have hmc : m + 1 ≤ cap := by have := h.1; omega
  obtain ⟨i0, hi0, hz0, hz1, hz2⟩ := info_parts info9
  have HI : Hid (Try.prog.info? 9 = some i0) := hi0
  have HZ1 : Hid (i0.size = 1) := hz1
  obtain ⟨A, hA, hnews⟩ : ∃ A : Addr, (if cap = i + 1 then some (⟨r, 0, none⟩ : Addr) else some ⟨r, i + 1, none⟩) = some A ∧ Hid (∀ j u, (moved L i)[j]? = some u → w.drew.cell? (A.add j) = some u) := by
    by_cases hcap : cap = i + 1
    · refine ⟨⟨r, 0, none⟩, by simp [hcap], fun j u hu => ?_⟩
      have h0 : (moved L i).length = 0 := by rw [moved_length]; omega
      rw [List.length_eq_zero_iff.1 h0] at hu
      simp at hu
    · refine ⟨⟨r, i + 1, none⟩, by simp [hcap], fun j u hu => ?_⟩
      have hj : j < L.length - (i + 1) := by
        have := (List.getElem?_eq_some_iff.1 hu).1
        rwa [moved_length] at this
      rw [moved_get hj] at hu
      rw [Addr.add_lit]
      exact (h.2.2 (i + 1 + j) (by omega)).trans hu
  have s1 : Hid ((moved L i).length = (m - i) * 1) := by rw [Hid, Nat.mul_one, moved_length]; omega
  have s2 : Hid (∀ u ∈ moved L i, u.oneCell' = true) := by
    intro u hu
    obtain ⟨x, _, rfl⟩ := List.mem_map.1 hu
    rfl
  have s3 : Hid (∀ j, j < (moved L i).length → (w.drew.cell? ⟨r, 0 + i * 1 + j, none⟩).isSome = true ∧ w.drew.frozen? ⟨r, 0 + i * 1 + j, none⟩ = false) := by
    intro j hj
    rw [moved_length] at hj
    rw [Nat.mul_one, Nat.zero_add]
    exact h.2.1 (i + j) (by omega)
  have hwr : IntKind.i64.wrap ((i : Int) + 1) = (i : Int) + 1 := by rw [IntKind.wrap_i64]; omega
  have hp0 : (0 : Int) ≤ (i : Int) + 1 := by omega
  have hp1 : (i : Int) + 1 ≤ (m : Int) + 1 := by omega
  have hp2 : ((i : Int) + 1).toNat = i + 1 := by omega
  have hp3 : (i : Int) ≤ (cap : Int) := by omega
  have hne : ((i : Int) == (i : Int) + 1) = false := by rw [beq_eq_false_iff_ne]; omega
  clear h hm hi0 hz0 hz1 hz2
  have e1 : i + (m - i) = m := by omega
  go_enter Try.func19, Try.ntmps19
  go_wp2_with fail
  go_region_law (refine step_append_room rfl (.tmp 22) (.tmp 25) 22 rfl 9 i0 1 Try.underlying22 HI.out HZ1.out r 0 i cap (by simp [Act.eval, Act.put]) A (m - i) (cap - (i + 1)) (moved L i) (by simp [Act.eval, Act.put]) s1.out hnews.out s2.out (by omega) s3.out ?_)
  have HCL : Hid (((w.drew.setCells r i (moved L i)).cell? ⟨r, m, none⟩).isSome = true) := World.isSome_setCells _ _ _ _ _ (H.out.2.1 m (by omega)).1
  have HFL : Hid ((w.drew.setCells r i (moved L i)).frozen? ⟨r, m, none⟩ = false) := by rw [Hid, World.frozen?_setCells]; exact (H.out.2.1 m (by omega)).2
  have HD : Hid (Deleted r cap L i w (.returned (.slice (some ⟨r, 0, none⟩) m cap)) ((w.drew.setCells r i (moved L i)).setCells r m (List.replicate 1 (.string ByteArray.empty)))) := by
    have h1 := deleted_of (r := r) (cap := cap) (L := L) (i := i) (w := w.drew) (by rw [HM.out]; omega) H.out
    have h2 : L.length - 1 = m := by rw [HM.out]; omega
    rw [h2] at h1
    refine ⟨by rw [h2], h1, ?_⟩
    have g1 := grownBy_setCells w.drew r i (moved L i)
    have g2 := grownBy_setCells (w.drew.setCells r i (moved L i)) r m (List.replicate 1 (.string ByteArray.empty))
    exact ⟨g2.os.trans g1.os, g2.tape.trans g1.tape, g2.output.trans g1.output, Nat.le_trans g1.size g2.size, fun k hk hn => (g2.block k (Nat.lt_of_lt_of_le hk g1.size) hn).trans (g1.block k hk hn)⟩
  clear hnews s1 s2 s3 hA
  go_wp2_with (refine wpList_clear_one rfl _ rfl r m 1 _ rfl rfl HCL.out HFL.out ?_)
  go_ret
  exact HD.out

/-! ### without, equalStrs, newNode .. -/
theorem f14_any (d : Nat) (v : Value) (w : World) (c : w.cell? ⟨d, 0, none⟩ = some v) : Calls Try.prog 14 #[.pointer (some ⟨d, 0, none⟩)] w fun e w' => e = .returned v ∧ w' = w := by
  go_enter Try.func14, Try.ntmps14
  go_wp2
  go_ret
  exact ⟨rfl, rfl⟩
theorem f15_any (d : Nat) (v : Value) (w : World) (c : w.cell? ⟨d, 2, none⟩ = some v) : Calls Try.prog 15 #[.pointer (some ⟨d, 0, none⟩)] w fun e w' => e = .returned v ∧ w' = w := by
  go_enter Try.func15, Try.ntmps15
  go_wp2
  go_ret
  exact ⟨rfl, rfl⟩
/-- A node's cells. -/
def nodeA (v : Value) : Array Value := #[v, .map none, .slice none 0 0, .int .i64 0, .slice none 0 0, .slice none 0 0, .int .i64 0, .slice none 0 0]
theorem f7_any (a : Option Addr) (n c : Nat) (w : World) : Calls Try.prog 7 #[.slice a n c] w fun e w' => e = .returned (.pointer (some ⟨w.heap.size, 0, none⟩)) ∧ w' = w.alloc (.cells (nodeA (.slice a n c)) 48) := by
  go_enter Try.func7, Try.ntmps7
  go_wp2
  go_ret
  exact ⟨rfl, rfl⟩
end Go.Proofs.Qxb6613913a
