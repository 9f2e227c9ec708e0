import Derived.Test.Qxb6613913aF
namespace Go.Proofs.Qxb6613913a
open Go.ChangeShapes Go.WideShapes Go.ChangeAt Go.RowKit

/-! ### newGraphOf -/
/-- Block b is some map, of at most n entries, keys strings. -/
def AnyMap (w : World) (b n : Nat) : Prop := ∃ D : DataW Unit, w.ownsMap Try.prog 9 (fun _ => some (.nil, [])) b n D
theorem anyMap_made (w : World) : AnyMap (w.alloc (.map #[] 0)) w.heap.size 0 := ⟨_, w.ownsMap_made Try.prog 9 _⟩
theorem AnyMap.alloc {w : World} {b n : Nat} (h : AnyMap w b n) (o : Obj) : AnyMap (w.alloc o) b n := by
  obtain ⟨D, h⟩ := h
  exact ⟨D, h.alloc o⟩
theorem AnyMap.put {w : World} {b n : Nat} (h : AnyMap w b n) (hn : n < 5) {k : ByteArray} (hk : k.size ≤ maxLen) (v : Value) :
    ∃ w', (Instr.mapUpdate 49 (.map (some b)) (.string k) v).run Try.prog w = .ok () w' ∧ AnyMap w' b (n + 1) ∧ w.grownBy w' (some b) ∧ w'.heap.size = w.heap.size := by
  obtain ⟨D, h⟩ := h
  obtain ⟨w', hr, ho, ht⟩ := h.store law9 Try.underlying49 (Nat.lt_of_lt_of_le hn (by decide)) (kl_of hk) (val := v) (d := .nil) (ps := []) rfl
  refine ⟨w', hr, ⟨_, ho⟩, ht.grown, ?_⟩
  obtain ⟨es, cl, es', cl', _, rfl⟩ := ht
  simp [ChangeMaps.setBlock]
/-- Both entries put in, one behind the other. -/
theorem AnyMap.two {w : World} {b B : Nat} (h : AnyMap w b 0) {k1 k2 : ByteArray} (h1 : k1.size ≤ maxLen) (h2 : k2.size ≤ maxLen) (v1 v2 : Value) (hB : B ≤ b) (hBw : B ≤ w.heap.size) :
    ∃ w1 w2, (Instr.mapUpdate 49 (.map (some b)) (.string k1) v1).run Try.prog w = .ok () w1 ∧ (Instr.mapUpdate 49 (.map (some b)) (.string k2) v2).run Try.prog w1 = .ok () w2 ∧ Below B w w2 ∧ Below B w w1 ∧ AnyMap w1 b 1 ∧ AnyMap w2 b 2 ∧ w1.heap.size = w.heap.size ∧ w2.heap.size = w.heap.size := by
  obtain ⟨w1, r1, a1, g1, s1⟩ := h.put (by decide) h1 v1
  obtain ⟨w2, r2, a2, g2, s2⟩ := a1.put (by decide) h2 v2
  have b1 : Below B w w1 := (Below.refl _ _).grown g1 hBw (fun k hk => by cases hk; exact hB)
  exact ⟨w1, w2, r1, r2, b1.grown g2 (by omega) (fun k hk => by cases hk; exact hB), b1, a1, a2, s1, s2.trans s1⟩

theorem AnyMap.drew {w : World} {b n : Nat} (h : AnyMap w b n) : AnyMap w.drew b n := h
theorem below_of_drew {B : Nat} {w v w' : World} (h : Below B v w') (hv : Below B w v) : Below B w w' := hv.trans h

def Graphed (m : Option Nat) (w : World) (e : Ending) (w' : World) : Prop :=
  ∃ d, e = .returned (.pointer (some ⟨d, 0, none⟩)) ∧ w'.cell? ⟨d, 2, none⟩ = some (.map m) ∧ w.heap.size ≤ d ∧ Below w.heap.size w w'
set_option maxHeartbeats 1600000 in
set_option maxRecDepth 1000000 in
theorem f9_any (K O : ByteArray) (p q : Option Addr) (m : Option Nat) (w : World) (hK : K.size ≤ maxLen) (hO : O.size ≤ maxLen) :
    Calls Try.prog 9 #[.string K, .pointer p, .string O, .pointer q, .map m, .int .u64 0] w fun e w' => Graphed m w e w' := by
  have hmm := @run_makeMap Try.prog
  have B1 : Below w.heap.size w (w.alloc (.map #[] 0)).drew := ((Below.refl _ _).alloc (Nat.le_refl _) _).drew
  have B2 : Below w.heap.size w ((w.alloc (.map #[] 0)).alloc (.map #[] 0)).drew := (((Below.refl _ _).alloc (Nat.le_refl _) _).alloc (by simp) _).drew
  have z1 : (w.alloc (.map #[] 0)).drew.heap.size = w.heap.size + 1 := by simp
  have z2 : ((w.alloc (.map #[] 0)).alloc (.map #[] 0)).drew.heap.size = w.heap.size + 1 + 1 := by simp
  have m1 : AnyMap (w.alloc (.map #[] 0)).drew w.heap.size 0 := anyMap_made w
  have m2 : AnyMap ((w.alloc (.map #[] 0)).alloc (.map #[] 0)).drew w.heap.size 0 := (anyMap_made w).alloc _
  have m3 : AnyMap ((w.alloc (.map #[] 0)).alloc (.map #[] 0)).drew (w.heap.size + 1) 0 := by
    have := anyMap_made (w.alloc (.map #[] 0))
    rw [show (w.alloc (.map #[] 0)).heap.size = w.heap.size + 1 by simp] at this
    exact this
  obtain ⟨xa1, xa2, xra1, xra2, xba2, xba1, xma1, _, xsa1, xsa2⟩ := m1.two (B := w.heap.size) hK hO (.pointer p) (.pointer q) (Nat.le_refl _) (by omega)
  obtain ⟨xb2, xrb2, _, xgb2, xsb2⟩ := (xma1.alloc (.map #[] 0)).put (by decide) hO (.pointer q)
  have xFA : Hid (Below w.heap.size w xa2 ∧ w.heap.size ≤ xa2.heap.size) := ⟨B1.trans xba2, by omega⟩
  have xFB : Hid (Below w.heap.size w xb2 ∧ w.heap.size ≤ xb2.heap.size) := ⟨((B1.trans xba1).alloc (by omega) _).grown xgb2 (by simp; omega) (fun k hk => by cases hk; exact Nat.le_refl _), by rw [xsb2]; simp; omega⟩
  obtain ⟨xc1, xc2, xrc1, xrc2, xbc2, _, _, _, _, xsc2⟩ := m2.two (B := w.heap.size) hK hO (.pointer p) (.pointer q) (Nat.le_refl _) (by omega)
  have xFC : Hid (Below w.heap.size w xc2 ∧ w.heap.size ≤ xc2.heap.size) := ⟨B2.trans xbc2, by omega⟩
  obtain ⟨xd1, xd2, xrd1, xrd2, xbd2, _, _, _, _, xsd2⟩ := m3.two (B := w.heap.size) hK hO (.pointer p) (.pointer q) (by omega) (by omega)
  have xFD : Hid (Below w.heap.size w xd2 ∧ w.heap.size ≤ xd2.heap.size) := ⟨B2.trans xbd2, by omega⟩
  clear xba2 xba1 xma1 xsa1 xsa2 xgb2 xsb2 xbc2 xsc2 xbd2 xsd2
  obtain ⟨ya1, ya2, yra1, yra2, yba2, yba1, yma1, _, ysa1, ysa2⟩ := m1.two (B := w.heap.size) hO hK (.pointer q) (.pointer p) (Nat.le_refl _) (by omega)
  obtain ⟨yb2, yrb2, _, ygb2, ysb2⟩ := (yma1.alloc (.map #[] 0)).put (by decide) hK (.pointer p)
  have yFA : Hid (Below w.heap.size w ya2 ∧ w.heap.size ≤ ya2.heap.size) := ⟨B1.trans yba2, by omega⟩
  have yFB : Hid (Below w.heap.size w yb2 ∧ w.heap.size ≤ yb2.heap.size) := ⟨((B1.trans yba1).alloc (by omega) _).grown ygb2 (by simp; omega) (fun k hk => by cases hk; exact Nat.le_refl _), by rw [ysb2]; simp; omega⟩
  obtain ⟨yc1, yc2, yrc1, yrc2, ybc2, _, _, _, _, ysc2⟩ := m2.two (B := w.heap.size) hO hK (.pointer q) (.pointer p) (Nat.le_refl _) (by omega)
  have yFC : Hid (Below w.heap.size w yc2 ∧ w.heap.size ≤ yc2.heap.size) := ⟨B2.trans ybc2, by omega⟩
  obtain ⟨yd1, yd2, yrd1, yrd2, ybd2, _, _, _, _, ysd2⟩ := m3.two (B := w.heap.size) hO hK (.pointer q) (.pointer p) (by omega) (by omega)
  have yFD : Hid (Below w.heap.size w yd2 ∧ w.heap.size ≤ yd2.heap.size) := ⟨B2.trans ybd2, by omega⟩
  clear yba2 yba1 yma1 ysa1 ysa2 ygb2 ysb2 ybc2 ysc2 ybd2 ysd2
  clear B1 B2 z1 z2 m1 m2 m3
  have fin : Hid (∀ (v : World) (arr : Array Value) (t : TypeId), Below w.heap.size w v ∧ w.heap.size ≤ v.heap.size → arr[2]? = some (.map m) → Graphed m w (.returned (.pointer (some ⟨v.heap.size, 0, none⟩))) (v.alloc (.cells arr t))) := by
    intro v arr t hv harr
    refine ⟨v.heap.size, rfl, ?_, hv.2, hv.1.alloc hv.2 _⟩
    simp [harr]
  have fin2 : Hid (∀ (v : World) (o : Obj) (arr : Array Value) (t : TypeId), Below w.heap.size w v ∧ w.heap.size ≤ v.heap.size → arr[2]? = some (.map m) → Graphed m w (.returned (.pointer (some ⟨v.heap.size + 1, 0, none⟩))) ((v.alloc o).alloc (.cells arr t))) := by
    intro v o arr t hv harr
    have := fin.out (v.alloc o) arr t ⟨hv.1.alloc hv.2 _, by simp; omega⟩ harr
    simpa using this
  go_enter Try.func9, Try.ntmps9
  go_wp2
  go_region
  all_goals (go_wp2; go_ret; first | exact fin.out _ _ _ xFB rfl | exact fin.out _ _ _ xFC rfl | exact fin.out _ _ _ xFD rfl | exact fin2.out _ _ _ _ xFA rfl | exact fin.out _ _ _ yFB rfl | exact fin.out _ _ _ yFC rfl | exact fin.out _ _ _ yFD rfl | exact fin2.out _ _ _ _ yFA rfl)
end Go.Proofs.Qxb6613913a
