import Derived.Test.Qxb6613439aFmtB
namespace Go.Proofs.Qxb6613439aFmt
open Go.ChangeShapes Go.WideShapes Go.ChangeAt Go.RowKit

/-! ### zzClone -/
/-- The new row with its first k bytes laid. -/
def half (zs : List Int) (k : Nat) : List Value := (zs.take k).map (Value.int .u8) ++ List.replicate (zs.length - k) (.int .u8 0)
def halfA (zs : List Int) (k : Nat) : Array Value := (half zs k).toArray
def bytesA (zs : List Int) : Array Value := (zs.map (Value.int .u8)).toArray
theorem half_length (zs : List Int) (k : Nat) (hk : k ≤ zs.length) : (half zs k).length = zs.length := by simp [half]; omega
theorem halfA_end (zs : List Int) : halfA zs zs.length = bytesA zs := by simp [halfA, half, bytesA]
theorem half_at (zs : List Int) (k : Nat) (hk : k < zs.length) : (halfA zs k)[k]? = some (.int .u8 0) := by
  simp only [halfA, half, List.getElem?_toArray]
  rw [List.getElem?_append_right (by simp; omega)]
  simp only [List.length_map, List.length_take]
  rw [List.getElem?_replicate, if_pos (by omega)]
theorem half_step (zs : List Int) (k : Nat) (hk : k < zs.length) : (halfA zs k).setIfInBounds k (.int .u8 (zs.getD k 0)) = halfA zs (k + 1) := by
  apply Array.ext'
  simp only [halfA, half, List.setIfInBounds_toArray]
  have h1 : ((zs.take k).map (Value.int .u8)).length = k := by simp; omega
  rw [List.set_append_right _ _ (by omega), h1, Nat.sub_self]
  obtain ⟨m, hm⟩ : ∃ m, zs.length - k = m + 1 := ⟨zs.length - k - 1, by omega⟩
  rw [hm, show zs.length - (k + 1) = m by omega, List.replicate_succ, List.set_cons_zero, List.take_succ_eq_append_getElem hk]
  have e : zs.getD k 0 = zs[k] := by simp [List.getD, hk]
  rw [e, List.map_append, List.append_assoc]
  rfl
theorem half_start (zs : List Int) : madeCells #[.int .u8 0] (zs.length * 1) = halfA zs 0 := by
  apply Array.ext'
  simp only [madeCells, halfA, half, Nat.mul_one]
  simp [List.map_const', Nat.mod_one]
theorem info5 : (Tryf.prog.info? 5).map (fun i => (i.zero, i.size, i.bytes)) = some (some (.int .u8 0), 1, 1) := by kernel_rfl

/-- A slice of bytes that came in: its elements, where it has any. -/
def Came (w : World) (a : Option Addr) (zs : List Int) : Prop :=
  ∀ j, j < zs.length → ∃ b off, a = some ⟨b, off, none⟩ ∧ w.cell? ⟨b, off + j, none⟩ = some (.int .u8 (zs.getD j 0))
theorem Came.at {w : World} {a : Option Addr} {zs : List Int} (h : Came w a zs) (h0 : 0 < zs.length) : ∃ b off, a = some ⟨b, off, none⟩ ∧ ∀ j, j < zs.length → w.cell? ⟨b, off + j, none⟩ = some (.int .u8 (zs.getD j 0)) := by
  obtain ⟨b, off, rfl, _⟩ := h 0 h0
  refine ⟨b, off, rfl, fun j hj => ?_⟩
  obtain ⟨b', off', e, hc⟩ := h j hj
  cases e
  exact hc

/-- make([]byte, n), the new row under a name. -/
theorem wpList_make_bytes {w : World} {ops : Array Oper} {rest : List Oper} {o : Oper} {a : Act} {Q : Exit → Act → World → Prop} (hg : o.guard = none) (l c : Operand) (hop : o.op = Op.makeSlice 22 l c)
    (zs : List Int) (n : Nat) (hn : zs.length = n) (hl : a.eval l = .int .i64 (n : Int)) (hc : a.eval c = .int .i64 (n : Int)) (hb : n ≤ 1048576)
    (h : wpList Tryf.prog ops Q rest (a.put o.dst (.slice (some ⟨w.heap.size, 0, none⟩) n n)) (w.alloc (.cells (halfA zs 0) 5))) : wpList Tryf.prog ops Q (o :: rest) a w := by
  subst hn
  obtain ⟨i0, hi, hz0, hz1, hz2⟩ := info_parts info5
  refine wpList_plain hg fun K hK => ?_
  have hr := run_make (P := Tryf.prog) w 22 5 i0 _ Tryf.underlying22 hi hz0 .i64 .i64 zs.length zs.length (by omega) (by omega) (by rw [hz2]; omega) (by omega)
  simp only [Int.toNat_natCast, hz1, Value.cells] at hr
  rw [half_start] at hr
  unfold Oper.wp
  simp only [execOp, hop, hl, hc, Sem.run_bind, hr, Result.andThen_ok]
  exact hK _ _ h

set_option maxHeartbeats 400000 in
theorem f6_nil (w : World) : Calls Tryf.prog 6 #[.slice none 0 0] w fun e w' => e = .returned (.slice none 0 0) ∧ w' = w := by
  have hq := fun w => Lib.run_eql_slice_nil (P := Tryf.prog) w 22 5 none 0 0 0 0 Tryf.underlying22
  go_enter Tryf.func6, Tryf.ntmps6
  go_wp2
  go_ret
  exact ⟨rfl, rfl⟩

set_option maxHeartbeats 800000 in
theorem f6_empty (x : Addr) (cap : Nat) (w : World) : Calls Tryf.prog 6 #[.slice (some x) 0 cap] w fun e w' => e = .returned (.slice (some ⟨w.heap.size, 0, none⟩) 0 0) ∧ w' = w.alloc (.cells (halfA [] 0) 5) := by
  have hq := fun w => Lib.run_eql_slice_nil (P := Tryf.prog) w 22 5 (some x) 0 cap 0 0 Tryf.underlying22
  go_enter Tryf.func6, Tryf.ntmps6
  go_wp2_with (at_make; refine wpList_make_bytes rfl _ _ rfl [] 0 rfl rfl rfl (by omega) ?_)
  go_wp2
  refine wp_loop_rounds 1 ?_
  rw [rounds_succ]
  go_wp2
  go_ret
  exact ⟨rfl, rfl⟩

set_option maxHeartbeats 800000 in
theorem f6_some (b off n cap : Nat) (zs : List Int) (w : World) (hn : zs.length = n) (hl : n ≤ 1048576) (hbs : b < w.heap.size) (hc : ∀ j, j < n → w.cell? ⟨b, off + j, none⟩ = some (.int .u8 (zs.getD j 0))) :
    Calls Tryf.prog 6 #[.slice (some ⟨b, off, none⟩) n cap] w fun e w' => e = .returned (.slice (some ⟨w.heap.size, 0, none⟩) n n) ∧ w' = w.alloc (.cells (halfA zs n) 5) := by
  have hq := fun w => Lib.run_eql_slice_nil (P := Tryf.prog) w 22 5 (some ⟨b, off, none⟩) n cap 0 0 Tryf.underlying22
  have HC : Hid (∀ j, j < n → w.cell? ⟨b, off + j, none⟩ = some (.int .u8 (zs.getD j 0))) := hc
  have HN : Hid (zs.length = n) := hn
  clear hc hn
  go_enter Tryf.func6, Tryf.ntmps6
  go_wp2_with (at_make; refine wpList_make_bytes rfl _ _ rfl zs n HN.out rfl rfl hl ?_)
  clear hq
  go_loopw [4] (fun i wr => ∃ k : Nat, k ≤ n ∧ i = .int .i64 k ∧ wr = w.alloc (.cells (halfA zs k) 5)) (fun i _ => n - (intOf i).toNat)
  case atStart => exact ⟨0, Nat.zero_le _, rfl, rfl⟩
  case round =>
    obtain ⟨k, hk, rfl, rfl⟩ := hrel
    by_cases hlt : k < n
    · have hcell := HC.out k hlt
      have hold := half_at zs k (by rw [HN.out]; exact hlt)
      have HST : Hid ((halfA zs k).setIfInBounds k (.int .u8 (zs.getD k 0)) = halfA zs (k + 1)) := half_step zs k (by rw [HN.out]; exact hlt)
      obtain ⟨c, hcd⟩ : ∃ c, c = zs.getD k 0 := ⟨_, rfl⟩
      rw [← hcd] at hcell HST
      clear hcd
      go_wp2
      go_roundw
      case rel => exact ⟨k + 1, by omega, by go_num, by rw [← HST.out]⟩
      case measure => simp [intOf]; omega
    · have hke : k = n := by omega
      subst hke
      go_wp2
      go_ret
      exact ⟨rfl, rfl⟩

/-- What the clone leaves: a row of the call's own with the same bytes (or nil). -/
def Cloned (w : World) (zs : List Int) (e : Ending) (w' : World) : Prop :=
  ∃ ga, e = .returned (.slice ga zs.length zs.length) ∧ Bytes w' (.slice ga zs.length zs.length) zs ∧ Below w.heap.size w w' ∧ (∀ g, ga = some g → w.heap.size ≤ g.block ∧ g.block < w'.heap.size)

theorem cloned_row (w : World) (zs : List Int) (n : Nat) (hn : zs.length = n) : Cloned w zs (.returned (.slice (some ⟨w.heap.size, 0, none⟩) n n)) (w.alloc (.cells (halfA zs n) 5)) := by
  subst hn
  refine ⟨some ⟨w.heap.size, 0, none⟩, rfl, .inr ⟨w.heap.size, rfl, fun j hj => ?_⟩, (Below.refl _ _).alloc (Nat.le_refl _) _, fun g hg => by cases hg; exact ⟨Nat.le_refl _, by simp⟩⟩
  rw [World.cell?_alloc_at _ _ _ _ rfl, halfA_end]
  simp [bytesA, List.getD, hj]

theorem f6_any (a : Option Addr) (len cap : Nat) (zs : List Int) (w : World) (hn : zs.length = len) (hl : len ≤ 1048576) (h0 : a = none → len = 0 ∧ cap = 0) (h : Came w a zs) :
    Calls Tryf.prog 6 #[.slice a len cap] w fun e w' => Cloned w zs e w' := by
  cases a with
  | none =>
    obtain ⟨rfl, rfl⟩ := h0 rfl
    obtain rfl : zs = [] := List.eq_nil_of_length_eq_zero hn
    exact (f6_nil w).mono fun e w' ⟨h1, h2⟩ => ⟨none, h1, .inl ⟨rfl, rfl⟩, by rw [h2]; exact Below.refl _ _, fun g hg => by cases hg⟩
  | some x =>
    by_cases hz : len = 0
    · subst hz
      obtain rfl : zs = [] := List.eq_nil_of_length_eq_zero hn
      refine (f6_empty x cap w).mono fun e w' ⟨h1, h2⟩ => ?_
      rw [h1, h2]
      exact cloned_row w [] 0 rfl
    · obtain ⟨b, off, e, hc⟩ := h.at (by omega)
      cases e
      refine (f6_some b off len cap zs w hn hl (block_lt_of_cell (hc 0 (by omega))) (fun j hj => hc j (by omega))).mono fun e w' ⟨h1, h2⟩ => ?_
      rw [h1, h2]
      exact cloned_row w zs len hn

/-! ### zzPeekAnswerIs -/
set_option maxHeartbeats 1600000 in
theorem f10_some (g n a p : Nat) (zs : List Int) (w : World) (hn : zs.length = n) (hl : n ≤ 1048576) (hp : IsPeek zs a p) (hc : ∀ j, j < n → w.cell? ⟨g, j, none⟩ = some (.int .u8 (zs.getD j 0))) :
    Calls Tryf.prog 11 #[.slice (some ⟨g, 0, none⟩) n n, .int .i64 a, .bool false, .int .u8 (zs.getD p 0), .int .i64 p] w fun e w' => e = .returned (.bool true) ∧ w' = w := by
  have HC : Hid (∀ j, j < n → w.cell? ⟨g, j, none⟩ = some (.int .u8 (zs.getD j 0))) := hc
  have HP : Hid (IsPeek zs a p) := hp
  have HN : Hid (zs.length = n) := hn
  have hap : a ≤ p := hp.1
  have hpn : p ≤ n := by have := hp.2.1; omega
  obtain ⟨c, hcd⟩ : ∃ c, c = zs.getD p 0 := ⟨_, rfl⟩
  rw [← hcd]
  have HCD : Hid (c = zs.getD p 0) := hcd
  have d1 : decide (p < a) = false := decide_eq_false (by omega)
  have d2 : decide (n < p) = false := decide_eq_false (by omega)
  clear hc hp hn hcd
  go_enter Tryf.func11, Tryf.ntmps11
  go_wp2
  go_loop [11] (fun i => ∃ k : Nat, a ≤ k ∧ k ≤ p ∧ i = .int .i64 k) (fun i => p - (intOf i).toNat)
  case atStart => exact ⟨a, Nat.le_refl _, hap, rfl⟩
  case round =>
    obtain ⟨k, hak, hkp, rfl⟩ := hrel
    by_cases hlt : k < p
    · have hkn : k < n := by omega
      obtain ⟨q, hqd⟩ : ∃ q, q = zs.getD k 0 := ⟨_, rfl⟩
      have hcell : w.cell? ⟨g, k, none⟩ = some (.int .u8 q) := by rw [hqd]; exact HC.out k hkn
      have HF : Hid (Calls Tryf.prog 5 #[.int .u8 q] w fun e w' => e = .returned (.bool true) ∧ w' = w) := by
        have h1 := f5_any q w
        rwa [hqd, HP.out.2.2.1 k hak hlt, ← hqd] at h1
      clear hqd
      go_wp2_with fail
      refine HF.out.mono ?_
      rintro e w' ⟨rfl, hw'⟩
      rw [hw']
      clear hw' w'
      go_wp2
      go_round
      case rel => exact ⟨k + 1, by omega, by omega, by go_num⟩
      case measure => simp [intOf]; omega
    · have hkp' : k = p := by omega
      subst hkp'
      by_cases hend : k = n
      · subst hend
        have hc0 : c = 0 := by rw [HCD.out]; simp [HN.out]
        subst hc0
        go_wp2
        go_ret
        exact ⟨rfl, rfl⟩
      · have hkn : k < n := by omega
        have hcell : w.cell? ⟨g, k, none⟩ = some (.int .u8 c) := by rw [HCD.out]; exact HC.out k hkn
        have hne : ((k : Int) == (n : Int)) = false := by simp; omega
        have HF : Hid (Calls Tryf.prog 5 #[.int .u8 c] w fun e w' => e = .returned (.bool false) ∧ w' = w) := by
          have h1 := f5_any c w
          rwa [HCD.out, HP.out.2.2.2 (by rw [HN.out]; exact hkn), ← HCD.out] at h1
        clear hend
        go_wp2_with fail
        refine HF.out.mono ?_
        rintro e w' ⟨rfl, rfl⟩
        go_wp2
        go_ret
        exact ⟨rfl, rfl⟩

theorem f10_nil (w : World) :
    Calls Tryf.prog 11 #[.slice none 0 0, .int .i64 0, .bool false, .int .u8 0, .int .i64 0] w fun e w' => e = .returned (.bool true) ∧ w' = w := by
  go_enter Tryf.func11, Tryf.ntmps11
  go_wp2
  refine wp_loop_rounds 1 ?_
  rw [rounds_succ]
  go_wp2
  go_ret
  exact ⟨rfl, rfl⟩

theorem f10_any (data : Value) (a p : Nat) (zs : List Int) (w : World) (hl : zs.length ≤ 1048576) (hp : IsPeek zs a p) (hb : Bytes w data zs) :
    Calls Tryf.prog 11 #[data, .int .i64 a, .bool false, .int .u8 (zs.getD p 0), .int .i64 p] w fun e w' => e = .returned (.bool true) ∧ w' = w := by
  rcases hb with ⟨rfl, rfl⟩ | ⟨g, rfl, hz⟩
  · obtain rfl : p = 0 := by have := hp.2.1; simpa using this
    obtain rfl : a = 0 := by have := hp.1; omega
    exact f10_nil w
  · exact f10_some g zs.length a p zs w rfl hl hp hz
end Go.Proofs.Qxb6613439aFmt
