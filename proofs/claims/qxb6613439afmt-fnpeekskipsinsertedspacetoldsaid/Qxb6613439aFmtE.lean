import Derived.Test.Qxb6613439aFmtD
namespace Go.Proofs.Qxb6613439aFmt
open Go.ChangeShapes Go.WideShapes Go.ChangeAt Go.RowKit
open Go.Extern.Stop Go.Stop Go.Extern

/-! ### The plain law: space put in -/
/-- ws put into zs at place a. -/
def insAt (zs ws : List Int) (a : Nat) : List Int := zs.take a ++ ws ++ zs.drop a
theorem insAt_len (zs ws : List Int) (a : Nat) (ha : a ≤ zs.length) : (insAt zs ws a).length = zs.length + ws.length := by simp [insAt]; omega
theorem put_mid (zs ws : List Int) (a j : Nat) (ha : a ≤ zs.length) (hj : j < ws.length) : (insAt zs ws a).getD (a + j) 0 = ws.getD j 0 := by
  unfold insAt
  simp only [List.getD]
  rw [List.getElem?_append_left (by simp; omega), List.getElem?_append_right (by simp; omega)]
  congr 2
  simp; omega
theorem put_back (zs ws : List Int) (a j : Nat) (ha : a ≤ zs.length) (hj : a ≤ j) : (insAt zs ws a).getD (j + ws.length) 0 = zs.getD j 0 := by
  unfold insAt
  simp only [List.getD]
  rw [List.getElem?_append_right (by simp; omega), List.getElem?_drop]
  congr 2
  simp; omega
theorem IsPeek.ins {zs ws : List Int} {a p : Nat} (h : IsPeek zs a p) (ha : a ≤ zs.length) (hw : ∀ j, j < ws.length → isSp (ws.getD j 0) = true) : IsPeek (insAt zs ws a) a (p + ws.length) := by
  obtain ⟨h1, h2, h3, h4⟩ := h
  refine ⟨by omega, by rw [insAt_len _ _ _ ha]; omega, fun i h5 h6 => ?_, fun h5 => ?_⟩
  · by_cases hlt : i < a + ws.length
    · have := put_mid zs ws a (i - a) ha (by omega)
      rw [show a + (i - a) = i by omega] at this
      rw [this]
      exact hw _ (by omega)
    · have := put_back zs ws a (i - ws.length) ha (by omega)
      rw [show i - ws.length + ws.length = i by omega] at this
      rw [this]
      exact h3 _ (by omega) (by omega)
  · rw [insAt_len _ _ _ ha] at h5
    rw [put_back zs ws a p ha h1]
    exact h4 (by omega)
theorem IsPeek.ins_byte {zs ws : List Int} {a p q : Nat} (h : IsPeek zs a p) (ha : a ≤ zs.length) (hw : ∀ j, j < ws.length → isSp (ws.getD j 0) = true) (hq : IsPeek (insAt zs ws a) a q) :
    q = p + ws.length ∧ (insAt zs ws a).getD q 0 = zs.getD p 0 := by
  have e : q = p + ws.length := hq.uniq (h.ins ha hw)
  refine ⟨e, ?_⟩
  rw [e]
  exact put_back zs ws a p ha h.1

/-! ### zzBytes -/
theorem f4_short (a b : Option Addr) (l c m k : Nat) (i : Int) (q : Bool) (w : World) (h1 : (l : Int) ≤ 1048576) (h2 : (m : Int) ≤ 1048576) (h3 : (l : Int) + (m : Int) ≤ 1048576) :
    Calls Tryf.prog 4 #[.slice a l c, .int .i64 i, .slice b m k, .bool q] w fun e w' => e = .returned (.bool true) ∧ w' = w := by
  go_enter Tryf.func4, Tryf.ntmps4
  go_wp2
  go_ret
  exact ⟨rfl, rfl⟩
theorem f4_long (a b : Option Addr) (l c m k : Nat) (i : Int) (q : Bool) (w : World) (h : (1048576 : Int) < (l : Int) + (m : Int)) :
    Calls Tryf.prog 4 #[.slice a l c, .int .i64 i, .slice b m k, .bool q] w fun e w' => e = .returned (.bool false) ∧ w' = w := by
  go_enter Tryf.func4, Tryf.ntmps4
  go_wp2
  all_goals
    go_ret
    exact ⟨rfl, rfl⟩

theorem Bytes.alloc {w : World} {data : Value} {zs : List Int} (h : Bytes w data zs) (o : Obj) : Bytes (w.alloc o) data zs := by
  rcases h with h | ⟨g, h1, h2⟩
  · exact .inl h
  · exact .inr ⟨g, h1, fun j hj => by rw [World.cell?_alloc_past _ _ _ (block_lt_of_cell (h2 j hj))]; exact h2 j hj⟩
/-- A slice is kept while another block is written. -/
theorem Bytes.other {w w' : World} {data : Value} {zs : List Int} {d : Nat} (h : Bytes w data zs) (hg : w.grownBy w' (some d)) (hne : ∀ g n c, data = .slice (some ⟨g, 0, none⟩) n c → g ≠ d) : Bytes w' data zs := by
  rcases h with h | ⟨g, h1, h2⟩
  · exact .inl h
  · exact .inr ⟨g, h1, fun j hj => hg.cell (h2 j hj) (by simpa using hne g _ _ h1)⟩
theorem Bytes.none_ {w w' : World} {data : Value} {zs : List Int} (h : Bytes w data zs) (hg : w.grownBy w' none) : Bytes w' data zs := by
  rcases h with h | ⟨g, h1, h2⟩
  · exact .inl h
  · exact .inr ⟨g, h1, fun j hj => hg.cell (h2 j hj) (by simp)⟩
theorem Bytes.drewN {w : World} {data : Value} {zs : List Int} (h : Bytes w data zs) (nq : Nat) : Bytes (w.drewN nq) data zs := h

theorem came_below {w w' : World} {a : Option Addr} {zs : List Int} (h : Came w a zs) (hb : Below w.heap.size w w') : Came w' a zs := fun j hj => by
  obtain ⟨b, off, e, hc⟩ := h j hj
  exact ⟨b, off, e, (hb.cell (p := ⟨b, off + j, none⟩) (block_lt_of_cell hc)).trans hc⟩
theorem came_grown {w w' : World} {a : Option Addr} {zs : List Int} {row : Option Nat} (h : Came w a zs) (hg : w.grownBy w' row) (hr : ∀ k, row = some k → ∀ x, a = some x → x.block ≠ k) : Came w' a zs := fun j hj => by
  obtain ⟨b, off, e, hc⟩ := h j hj
  exact ⟨b, off, e, hg.cell hc (fun e' => hr b e'.symm _ e rfl)⟩

theorem bytes_shape {w : World} {ga : Option Addr} {n : Nat} {zs : List Int} (h : Bytes w (.slice ga n n) zs) (hn : zs.length = n) :
    (ga = none ∧ n = 0 ∧ zs = []) ∨ ∃ g, ga = some ⟨g, 0, none⟩ ∧ ∀ j, j < n → w.cell? ⟨g, j, none⟩ = some (.int .u8 (zs.getD j 0)) := by
  rcases h with ⟨e, rfl⟩ | ⟨g, e, hz⟩
  · cases e
    exact .inl ⟨rfl, rfl, rfl⟩
  · cases e
    exact .inr ⟨g, rfl, hz⟩
/-- The cells of 'data[:a]', of 'ws', of 'data[a:]'. -/
def front (zs : List Int) (a : Nat) : List Value := (zs.take a).map (Value.int .u8)
def mids (ws : List Int) : List Value := ws.map (Value.int .u8)
def back (zs : List Int) (a : Nat) : List Value := (zs.drop a).map (Value.int .u8)
theorem src_take {w : World} {g n a : Nat} {zs : List Int} (hn : zs.length = n) (ha : a ≤ n) (hz : ∀ j, j < n → w.cell? ⟨g, j, none⟩ = some (.int .u8 (zs.getD j 0))) :
    ∀ ad, some (⟨g, 0, none⟩ : Addr) = some ad → ∀ j u, (front zs a)[j]? = some u → w.cell? (ad.add j) = some u := by
  intro ad had j u hu
  unfold front at hu
  cases had
  have hj : j < a := by have := (List.getElem?_eq_some_iff.1 hu).1; simp at this; omega
  rw [Addr.add_lit, Nat.zero_add, hz j (by omega), ← hu]
  simp [List.getD, hj, show j < zs.length by omega]
theorem src_came {w : World} {b : Option Addr} {ws : List Int} (h : Came w b ws) : ∀ ad, b = some ad → ∀ j u, (mids ws)[j]? = some u → w.cell? (ad.add j) = some u := by
  intro ad had j u hu
  unfold mids at hu
  have hj : j < ws.length := by have := (List.getElem?_eq_some_iff.1 hu).1; simpa using this
  obtain ⟨bb, off, e, hc⟩ := h j hj
  rw [had] at e
  cases e
  rw [Addr.add_lit, hc, ← hu]
  simp [List.getD, hj]
theorem src_drop {w : World} {g n a : Nat} {zs : List Int} (hn : zs.length = n) (hz : ∀ j, j < n → w.cell? ⟨g, j, none⟩ = some (.int .u8 (zs.getD j 0))) :
    ∀ ad, some (⟨g, a, none⟩ : Addr) = some ad → ∀ j u, (back zs a)[j]? = some u → w.cell? (ad.add j) = some u := by
  intro ad had j u hu
  unfold back at hu
  cases had
  have hj : a + j < zs.length := by have := (List.getElem?_eq_some_iff.1 hu).1; simp at this; omega
  rw [Addr.add_lit, hz (a + j) (by omega), ← hu]
  simp [List.getD, hj]
theorem front_one (zs : List Int) (a : Nat) : ∀ u ∈ front zs a, u.oneCell' = true := ints_oneCell .u8 _
theorem mids_one (ws : List Int) : ∀ u ∈ mids ws, u.oneCell' = true := ints_oneCell .u8 _
theorem back_one (zs : List Int) (a : Nat) : ∀ u ∈ back zs a, u.oneCell' = true := ints_oneCell .u8 _
theorem front_length (zs : List Int) (a : Nat) (h : a ≤ zs.length) : (front zs a).length = a * 1 := by simp [front]; omega
theorem mids_length (ws : List Int) {k : Nat} (h : ws.length = k) : (mids ws).length = k * 1 := by simp [mids, h]
theorem back_length (zs : List Int) (a : Nat) {n : Nat} (h : zs.length = n) : (back zs a).length = (n - a) * 1 := by simp [back, h]
theorem back_end (zs : List Int) (a : Nat) (h : zs.length = a) : back zs a = [] := by simp [back, h]
/-- What the three appends have made. -/
theorem made_bytes {w : World} {B g n : Nat} {zs ws : List Int} {a : Nat} (ha : a ≤ zs.length) (hn : zs.length + ws.length = n)
    (h : w.ownsRow B 5 1 (.slice (some ⟨g, 0, none⟩) n n) n (front zs a ++ mids ws ++ back zs a)) : Bytes w (.slice (some ⟨g, 0, none⟩) n n) (insAt zs ws a) := by
  have hl := insAt_len zs ws a ha
  refine .inr ⟨g, by rw [hl, hn], fun j hj => ?_⟩
  have e : front zs a ++ mids ws ++ back zs a = (insAt zs ws a).map (Value.int .u8) := by
    rw [insAt, List.map_append, List.map_append]
    rfl
  rw [e] at h
  have := h.cells (g := g) rfl j (.int .u8 ((insAt zs ws a).getD j 0)) (by simp [List.getD, hj])
  rwa [Addr.add_lit, Nat.zero_add] at this

/-- The early returns. -/
theorem f3_long (a b : Option Addr) (l c m k : Nat) (i : Int) (q : Bool) (w : World) (h : (1048576 : Int) < (l : Int) + (m : Int)) :
    Calls Tryf.prog 3 #[.slice a l c, .int .i64 i, .slice b m k, .bool q] w fun e w' => e = .returned (.bool true) ∧ Below w.heap.size w w' := by
  go_enter Tryf.func3, Tryf.ntmps3
  go_wp2_with fail
  refine (f4_long a b l c m k i q w h).mono ?_
  rintro e w' ⟨rfl, rfl⟩
  go_wp2
  go_ret
  exact ⟨rfl, Below.refl _ _⟩
theorem f3_out (a b : Option Addr) (l c m k : Nat) (i : Int) (q : Bool) (w : World) (h : (l : Int) + (m : Int) ≤ 1048576) (ho : i < 0 ∨ (l : Int) < i) :
    Calls Tryf.prog 3 #[.slice a l c, .int .i64 i, .slice b m k, .bool q] w fun e w' => e = .returned (.bool true) ∧ Below w.heap.size w w' := by
  go_enter Tryf.func3, Tryf.ntmps3
  go_wp2_with fail
  refine (f4_short a b l c m k i q w (by omega) (by omega) h).mono ?_
  rintro e w' ⟨rfl, rfl⟩
  rcases ho with ho | ho
  all_goals
    go_wp2_with fail
    all_goals go_ret
    all_goals exact ⟨rfl, Below.refl _ _⟩
end Go.Proofs.Qxb6613439aFmt
