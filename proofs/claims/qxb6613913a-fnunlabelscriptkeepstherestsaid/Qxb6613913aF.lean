import Derived.Test.Qxb6613913aE
namespace Go.Proofs.Qxb6613913a
open Go.ChangeShapes Go.WideShapes Go.ChangeAt Go.RowKit

/-! ### Operations by their runs -/
theorem wpList_mapUpdate_run {P : Program} {w : World} {ops : Array Oper} {rest : List Oper} {o : Oper} {a : Act} {Q : Exit → Act → World → Prop}
    (hg : o.guard = none) (m x v : Operand) (t : TypeId) (hop : o.op = Op.mapUpdate t m x v) (vm vx vv : Value) (hm : a.eval m = vm) (hx : a.eval x = vx) (hv : a.eval v = vv) (w' : World) (hrun : (Instr.mapUpdate t vm vx vv).run P w = .ok () w')
    (h : wpList P ops Q rest (a.put o.dst undef) w') : wpList P ops Q (o :: rest) a w := by
  refine wpList_plain hg fun K' hK' => ?_
  unfold Oper.wp
  simp [execOp, hop, hm, hx, hv, hrun, Result.andThen]
  exact hK' _ _ h
theorem wpList_delete_run {P : Program} {w : World} {ops : Array Oper} {rest : List Oper} {o : Oper} {a : Act} {Q : Exit → Act → World → Prop}
    (hg : o.guard = none) (m x : Operand) (t k : TypeId) (hop : o.op = Op.call { callee := Callee.builtin Builtin.delete, args := #[m, x], argTypes := #[t, k] }) (vm vx : Value) (hm : a.eval m = vm) (hx : a.eval x = vx) (w' : World)
    (hrun : ∀ ty, (Builtin.delete_ #[t, k] ty #[vm, vx]).run P w = .ok (.tuple #[]) w') (h : wpList P ops Q rest (a.put o.dst (.tuple #[])) w') : wpList P ops Q (o :: rest) a w := by
  refine wpList_plain hg fun K' hK' => ?_
  unfold Oper.wp
  simp [execOp, hop, resolve, invoke, builtin, hm, hx, hrun o.type, Result.andThen]
  exact hK' _ _ h
theorem wpList_len_run {P : Program} {w : World} {ops : Array Oper} {rest : List Oper} {o : Oper} {a : Act} {Q : Exit → Act → World → Prop}
    (hg : o.guard = none) (m : Operand) (t : TypeId) (hop : o.op = Op.call { callee := Callee.builtin Builtin.len, args := #[m], argTypes := #[t] }) (vm v : Value) (hm : a.eval m = vm)
    (hrun : ∀ ty, (Builtin.len_ #[t] ty #[vm]).run P w = .ok v w) (h : wpList P ops Q rest (a.put o.dst v) w) : wpList P ops Q (o :: rest) a w := by
  refine wpList_plain hg fun K' hK' => ?_
  unfold Oper.wp
  simp [execOp, hop, resolve, invoke, builtin, hm, hrun o.type, Result.andThen]
  exact hK' _ _ h

/-! ### indexOf -/
def cnt (ss : List ByteArray) (sh : ByteArray) : Nat := ss.length + if hasB ss sh then 0 else 1
def Built (K O : ByteArray) (ss : List ByteArray) (sh : ByteArray) (w : World) (e : Ending) (w' : World) : Prop :=
  ∃ bO, e = .returned (.map (some bO)) ∧ Index w' bO K O (hasB ss) (hasB [sh]) (cnt ss sh) (fun k => k < w.heap.size) ∧ Below w.heap.size w w'
def Half (K O : ByteArray) (ss : List ByteArray) (k : Nat) (w wr : World) : Prop :=
  Index wr w.heap.size K O (hasB (ss.take k)) (fun _ => false) k (fun j => j < w.heap.size) ∧ Below w.heap.size w wr ∧ w.heap.size < wr.heap.size
theorem hasB_snoc (l : List ByteArray) (x s : ByteArray) : hasB (l ++ [x]) s = upd (hasB l) x true s := by
  unfold upd
  split
  · rename_i h
    rw [hasB_iff, eq_of_toList (eq_of_beq h)]
    simp
  · rename_i h
    have : ¬ s = x := fun e => h (by rw [e]; exact beq_self_eq_true _)
    rw [Bool.eq_iff_iff, hasB_iff, hasB_iff]
    simp [this]
theorem take_snoc {ss : List ByteArray} {k : Nat} (hk : k < ss.length) : ss.take (k + 1) = ss.take k ++ [ss.getD k ByteArray.empty] := by
  rw [List.take_succ_eq_append_getElem hk]
  simp [List.getD, hk]
theorem half_new {K O : ByteArray} {ss : List ByteArray} {k : Nat} {w wr : World} (h : Half K O ss k w wr) (hk : k < ss.length) (hnd : ss.Nodup) (hs : (ss.getD k ByteArray.empty).size ≤ maxLen) (hne : K ≠ O) (hK : K.size ≤ maxLen) (hl : ss.length ≤ 1048576) :
    (Instr.lookup 31 (.map (some w.heap.size)) (.string (ss.getD k ByteArray.empty)) false).run Try.prog wr = .ok (.map none) wr ∧
    ∃ w2 w3, (Instr.mapUpdate 31 (.map (some w.heap.size)) (.string (ss.getD k ByteArray.empty)) (.map (some wr.heap.size))).run Try.prog (wr.alloc (.map #[] 0)) = .ok () w2 ∧ (Instr.mapUpdate 39 (.map (some wr.heap.size)) (.string K) (.bool true)).run Try.prog w2 = .ok () w3 ∧ Half K O ss (k + 1) w w3 := by
  obtain ⟨h1, h2, h3⟩ := h
  have hd : (hasB (ss.take k) (ss.getD k ByteArray.empty) || false) = false := by
    rw [Bool.or_false]
    cases hh : hasB (ss.take k) (ss.getD k ByteArray.empty)
    · rfl
    · have hmem := hasB_iff.1 hh
      obtain ⟨j, hj, e⟩ := List.mem_iff_getElem.1 hmem
      simp only [List.length_take] at hj
      rw [List.getElem_take] at e
      simp only [List.getD, List.getElem?_eq_getElem hk, Option.getD_some] at e
      have := (List.getElem_inj hnd).1 e
      omega
  refine ⟨h1.miss hs hd, ?_⟩
  obtain ⟨w2, w3, r2, r3, hI, hF⟩ := h1.new hs hd hne hK (by have : 1048576 < maxLen := by decide
                                                             omega) (fun j hj => by omega)
  refine ⟨w2, w3, r2, r3, hI.cast (fun s => ?_) (fun _ => rfl) rfl, h2.trans (hF.to_below fun _ h => h), by have := hF.size; omega⟩
  rw [take_snoc hk, hasB_snoc]

theorem hasB_one (x s : ByteArray) : hasB [x] s = upd (fun _ => false) x true s := by
  have := hasB_snoc [] x s
  exact this
theorem half_hit {K O sh : ByteArray} {ss : List ByteArray} {n : Nat} {w wr : World} (h : Half K O ss n w wr) (hn : ss.length = n) (hs : sh.size ≤ maxLen) (hne : K ≠ O) (hO : O.size ≤ maxLen) (hh : hasB ss sh = true) :
    ∃ b w2, (Instr.lookup 31 (.map (some w.heap.size)) (.string sh) false).run Try.prog wr = .ok (.map (some b)) wr ∧ (Instr.mapUpdate 39 (.map (some b)) (.string O) (.bool true)).run Try.prog wr = .ok () w2 ∧ Built K O ss sh w (.returned (.map (some w.heap.size))) w2 := by
  obtain ⟨h1, h2, h3⟩ := h
  rw [List.take_of_length_le (by omega)] at h1
  obtain ⟨b, w2, r1, r2, hI, hF⟩ := h1.swap.put hs (by rw [hh]; rfl) hne.symm hO (fun j hj => by omega)
  refine ⟨b, w2, r1, r2, w.heap.size, rfl, hI.swap.cast (fun _ => rfl) (hasB_one sh) ?_, h2.trans (hF.to_below fun _ h => h)⟩
  simp [cnt, hh, hn]
theorem half_miss {K O sh : ByteArray} {ss : List ByteArray} {n : Nat} {w wr : World} (h : Half K O ss n w wr) (hn : ss.length = n) (hs : sh.size ≤ maxLen) (hne : K ≠ O) (hO : O.size ≤ maxLen) (hl : n ≤ 1048576) (hh : hasB ss sh = false) :
    (Instr.lookup 31 (.map (some w.heap.size)) (.string sh) false).run Try.prog wr = .ok (.map none) wr ∧
    ∃ w2 w3, (Instr.mapUpdate 31 (.map (some w.heap.size)) (.string sh) (.map (some wr.heap.size))).run Try.prog (wr.alloc (.map #[] 0)) = .ok () w2 ∧ (Instr.mapUpdate 39 (.map (some wr.heap.size)) (.string O) (.bool true)).run Try.prog w2 = .ok () w3 ∧ Built K O ss sh w (.returned (.map (some w.heap.size))) w3 := by
  obtain ⟨h1, h2, h3⟩ := h
  rw [List.take_of_length_le (by omega)] at h1
  refine ⟨h1.miss hs (by rw [hh]; rfl), ?_⟩
  obtain ⟨w2, w3, r2, r3, hI, hF⟩ := h1.swap.new hs (by rw [hh]; rfl) hne.symm hO (Nat.lt_of_le_of_lt hl (by decide)) (fun j hj => by omega)
  refine ⟨w2, w3, r2, r3, w.heap.size, rfl, hI.swap.cast (fun _ => rfl) (hasB_one sh) ?_, h2.trans (hF.to_below fun _ h => h)⟩
  simp [cnt, hh, hn]
theorem eql39 (w : World) (r : Option Nat) : (binOp .eql 39 (.map r) (.map none)).run Try.prog w = .ok (.bool r.isNone) w := run_eql_map_nil w 39 9 4 r Try.underlying39
set_option maxHeartbeats 1600000 in
set_option maxRecDepth 1000000 in
theorem f10_any (K O sh : ByteArray) (a : Option Addr) (n cap b : Nat) (ss : List ByteArray) (w : World) (hn : ss.length = n) (hl : n ≤ 1048576) (hne : K ≠ O) (hK : K.size ≤ maxLen) (hO : O.size ≤ maxLen) (hsh : sh.size ≤ maxLen) (hnd : ss.Nodup)
    (hsz : ∀ k, k < n → (ss.getD k ByteArray.empty).size ≤ maxLen) (ha : Strs w a ss) (hb : w.cell? ⟨b, 0, none⟩ = some (.string sh)) :
    Calls Try.prog 10 #[.string K, .slice a n cap, .string O, .slice (some ⟨b, 0, none⟩) 1 1] w fun e w' => Built K O ss sh w e w' := by
  have HA : Hid (Strs w a ss) := ha
  have HN : Hid (ss.length = n) := hn
  have HNE : Hid (K ≠ O) := hne
  have HND : Hid (ss.Nodup) := hnd
  have HSZ : Hid (∀ k, k < n → (ss.getD k ByteArray.empty).size ≤ maxLen) := hsz
  have HK : Hid (K.size ≤ maxLen) := hK
  have HO : Hid (O.size ≤ maxLen) := hO
  have HSH : Hid (sh.size ≤ maxLen) := hsh
  have HBC : Hid (w.cell? ⟨b, 0, none⟩ = some (.string sh)) := hb
  have HBL : Hid (b < w.heap.size) := block_lt_of_cell hb
  clear ha hn hne hnd hsz hK hO hsh hb
  have hmm := @run_makeMap Try.prog
  have heql := eql39
  have H0 : Hid (Half K O ss 0 w (w.alloc (.map #[] 0))) := by
    refine ⟨(Index.made (Pr := fun j => j < w.heap.size) w K O (Nat.lt_irrefl _)).cast (fun s => by simp [hasB]) (fun _ => rfl) rfl, (Below.refl _ _).alloc (Nat.le_refl _) _, by simp⟩
  go_enter Try.func10, Try.ntmps10
  go_wp2
  go_loopw [10, 11] (fun i m wr => ∃ k : Nat, k ≤ n ∧ i = .int .i64 k ∧ Hid (Half K O ss k w wr)) (fun i _ _ => n - (intOf i).toNat)
  case atStart => exact ⟨0, Nat.zero_le _, rfl, H0⟩
  case round =>
    obtain ⟨k, hk, rfl, HR⟩ := hrel
    by_cases hlt : k < n
    · obtain ⟨hlook, w2, w3, r2, r3, hI⟩ := half_new HR.out (by rw [HN.out]; exact hlt) HND.out (HSZ.out k hlt) HNE.out HK.out (by rw [HN.out]; exact hl)
      obtain ⟨s, hs⟩ : ∃ s, s = ss.getD k ByteArray.empty := ⟨_, rfl⟩
      rw [← hs] at hlook r2
      obtain ⟨bb, off, e, hbl, hc⟩ := HA.out.at (by rw [HN.out]; omega)
      have hcell : wr.cell? ⟨bb, off + k, none⟩ = some (.string s) := by
        rw [HR.out.2.1.cell (p := ⟨bb, off + k, none⟩) hbl, hs]
        exact hc k (by rw [HN.out]; exact hlt)
      have hbl' : bb < wr.heap.size := block_lt_of_cell hcell
      have HI : Hid (Half K O ss (k + 1) w w3) := hI
      clear hs hc hI HR
      subst e
      go_wp2_with (at_mapUpdate; first | refine wpList_mapUpdate_run rfl _ _ _ _ rfl _ _ _ rfl rfl rfl w2 r2 ?_ | refine wpList_mapUpdate_run rfl _ _ _ _ rfl _ _ _ rfl rfl rfl w3 r3 ?_)
      go_roundw
      case rel => exact ⟨k + 1, by omega, by go_num, HI⟩
      case measure => simp [intOf]; omega
    · have hke : k = n := by omega
      have hcell : wr.cell? ⟨b, 0, none⟩ = some (.string sh) := by
        rw [HR.out.2.1.cell (p := ⟨b, 0, none⟩) HBL.out]
        exact HBC.out
      have hbl' : b < wr.heap.size := block_lt_of_cell hcell
      subst hke
      cases hh : hasB ss sh
      · obtain ⟨hlook, w2, w3, r2, r3, hB⟩ := half_miss HR.out HN.out HSH.out HNE.out HO.out hl hh
        have HB : Hid (Built K O ss sh w (.returned (.map (some w.heap.size))) w3) := hB
        clear hB HR
        go_wp2
        refine wp_loop_rounds 2 ?_
        rw [rounds_succ]
        go_wp2_with (at_mapUpdate; first | refine wpList_mapUpdate_run rfl _ _ _ _ rfl _ _ _ rfl rfl rfl w2 r2 ?_ | refine wpList_mapUpdate_run rfl _ _ _ _ rfl _ _ _ rfl rfl rfl w3 r3 ?_)
        rw [rounds_succ]
        go_wp2
        go_ret
        exact HB.out
      · obtain ⟨bi, w2, hlook, r2, hB⟩ := half_hit HR.out HN.out HSH.out HNE.out HO.out hh
        have HB : Hid (Built K O ss sh w (.returned (.map (some w.heap.size))) w2) := hB
        clear hB HR
        go_wp2
        refine wp_loop_rounds 2 ?_
        rw [rounds_succ]
        go_wp2_with (at_mapUpdate; refine wpList_mapUpdate_run rfl _ _ _ _ rfl _ _ _ rfl rfl rfl w2 r2 ?_)
        rw [rounds_succ]
        go_wp2
        go_ret
        exact HB.out
end Go.Proofs.Qxb6613913a
