import Derived.Test.Qxb6613354aF0
import Derived.Test.Qxb6613354aF1
import Derived.Test.Qxb6613354aF2
namespace Go.Proofs.Qxb6613354a
open Go.ChangeShapes Go.WideShapes Go.ChangeAt Go.RowKit
open Go.ChangeMaps (open_string shut_string)
open Go.Extern.Stop (cell)
set_option linter.unusedVariables false

theorem own : ownKnob Try.prog.godebug = none := by kernel_rfl
theorem laidOut : laidOutB Try.prog = true := by kernel_rfl

/-- THE WALK: the law returns true, and writes nothing that was there. -/
theorem walk (a b : ByteArray) (r : Bool) (c : Int) (xs : List UInt8) (a' b' : ByteArray) (r' : Bool) (c' : Int) (ys : List UInt8) (hx : xs.length = 32) (hy : ys.length = 32) (w : World) :
    Calls Try.prog 3 #[.string a, .string b, .bool r, .int .u8 c, .agg (keyA xs), .string a', .string b', .bool r', .int .u8 c', .agg (keyA ys)] w fun e w' => e = .returned (.bool true) ∧ Below w.heap.size w w' := by
  by_cases h : (a.size : Int) ≤ 4096 ∧ (b.size : Int) ≤ 4096 ∧ (a'.size : Int) ≤ 4096 ∧ (b'.size : Int) ≤ 4096
  · obtain ⟨l1, l2, l3, l4⟩ := h
    rcases wantF_le r r' c c' xs ys with hn | hn | hn
    · exact f3_0 a b r c xs a' b' r' c' ys hx hy hn l1 l2 l3 l4 w
    · exact f3_1 a b r c xs a' b' r' c' ys hx hy hn l1 l2 l3 l4 w
    · exact f3_2 a b r c xs a' b' r' c' ys hx hy hn l1 l2 l3 l4 w
  · exact f3_long a b r c xs a' b' r' c' ys hx hy (by omega) w

theorem cells5 : Try.prog.cellsOf 5 = 1 := by kernel_rfl
theorem cells22 : Try.prog.cellsOf 22 = 32 := by kernel_rfl

theorem okWide_arr {w : World} {r : Reach} {base : Nat} {v : Value} (h : Value.okWide Try.prog w r base 22 v) : ∃ cs : Array Value, v = .agg cs ∧ cs.size = 32 := by
  simp only [Value.okWide, Try.underlying22] at h
  obtain ⟨cs, h1, h2, _⟩ := h
  exact ⟨cs, h1, h2.trans cells22⟩

theorem cell_of_wf {n : Int} (h : (Lit.int .u8 n).wf = true) : cell (UInt8.ofNat n.toNat) = .int .u8 n := by
  have := bounds_u8 h
  unfold cell
  congr 1
  have e : (UInt8.ofNat n.toNat).toNat = n.toNat := by rw [UInt8.toNat_ofNat']; omega
  rw [e]
  show ((n.toNat : Nat) : Int) = n
  omega

/-- An array of 32 bytes by value: its bytes. -/
theorem open_arr {H : Type} {enc : TypeId × Value → H} {W : World} {base : Nat} {sp : Nat → Bool} {hd : Bool} {b2 : Nat} {rc : Reach} {v : Value} {d : DataW H} {p : List MemPlace}
    (hv : Value.okWide Try.prog W rc b2 22 v) (h : DataW.Trod enc Try.prog W base sp hd 22 v d p) : ∃ xs : List UInt8, xs.length = 32 ∧ v = .agg (keyA xs) := by
  obtain ⟨cs, rfl, hs⟩ := okWide_arr hv
  obtain ⟨fuel, hf⟩ := h
  obtain ⟨ys, m, _, _, _, hl, hall⟩ := DataW.trod_array Try.underlying22 hf
  have hcell : ∀ i (hi : i < cs.size), ∃ n, cs[i] = .int .u8 n ∧ (Lit.int .u8 n).wf = true := by
    intro i hi
    have hi32 : i < 32 := by omega
    have hy := hall i hi32
    rw [cells5, Nat.mul_one, List.getElem?_eq_getElem (by omega)] at hy
    obtain ⟨n, e0, _, wn⟩ := DataW.trod_int Try.underlying5 hy
    refine ⟨n, ?_, wn⟩
    have hle : i < cs.toList.length := by simpa using hi
    have e1 : (cs.toList.drop i).take 1 = [cs.toList[i]] := by
      rw [List.drop_eq_getElem_cons hle]; simp
    have e2 : (Value.agg cs).cells = cs := rfl
    rw [e2, e1] at e0
    simpa using e0
  refine ⟨cs.toList.map (fun v => UInt8.ofNat (intOf v).toNat), by simpa using hs, ?_⟩
  congr 1
  unfold keyA
  apply Array.ext
  · simp
  · intro i h1 h2
    obtain ⟨n, hn, wn⟩ := hcell i h1
    simp only [List.getElem_toArray, List.getElem_map, Array.getElem_toList, hn, intOf]
    exact (cell_of_wf wn).symm

set_option maxHeartbeats 1600000 in
set_option maxRecDepth 100000 in
theorem lifted (os : Os) (started : os.Started) (H : Type) (enc : TypeId × Value → H) :
    ReturnsInHanded {} Try.checked os 3 .any (Rows.fnSecurityBothWaysIsExactSpec.pre6 enc Try.prog Try.f3 Rows.fnSecurityBothWaysIsExactRow.domain false) (Rows.fnSecurityBothWaysIsExactSpec.post enc Try.prog Try.f3 false true false false) := by
  refine returnsInHanded_of_change (C := Try.checked) own started (by kernel_rfl) Try.func3
    (ChangeSpec.witness6 (enc := enc) (C := Try.checked) false ⟨#[], #[.string ByteArray.empty, .string ByteArray.empty, .bool false, .int .u8 0, .agg #[.int .u8 0, .int .u8 0, .int .u8 0, .int .u8 0, .int .u8 0, .int .u8 0, .int .u8 0, .int .u8 0, .int .u8 0, .int .u8 0, .int .u8 0, .int .u8 0, .int .u8 0, .int .u8 0, .int .u8 0, .int .u8 0, .int .u8 0, .int .u8 0, .int .u8 0, .int .u8 0, .int .u8 0, .int .u8 0, .int .u8 0, .int .u8 0, .int .u8 0, .int .u8 0, .int .u8 0, .int .u8 0, .int .u8 0, .int .u8 0, .int .u8 0, .int .u8 0], .string ByteArray.empty, .string ByteArray.empty, .bool false, .int .u8 0, .agg #[.int .u8 0, .int .u8 0, .int .u8 0, .int .u8 0, .int .u8 0, .int .u8 0, .int .u8 0, .int .u8 0, .int .u8 0, .int .u8 0, .int .u8 0, .int .u8 0, .int .u8 0, .int .u8 0, .int .u8 0, .int .u8 0, .int .u8 0, .int .u8 0, .int .u8 0, .int .u8 0, .int .u8 0, .int .u8 0, .int .u8 0, .int .u8 0, .int .u8 0, .int .u8 0, .int .u8 0, .int .u8 0, .int .u8 0, .int .u8 0, .int .u8 0, .int .u8 0]], []⟩ 8 (by kernel_rfl) (by kernel_rfl) (by kernel_rfl) (by kernel_rfl)) ?_
  intro W base args ds gs before hval0 hW hcnd _
  have hval : ∀ (j : Nat) t v, Try.f3.params[j]? = some t → args[j]? = some v → Value.okWide Try.prog W .any base t v := hval0
  have hW' := hW
  obtain ⟨p, q, hA0, hV, rfl, hfz, hnd⟩ := hW
  have hA : DataW.TrodAll enc Try.prog W 0 (fun _ => true) true Try.f3.params.toList args.toList ds p := hA0
  rw [Try.params3] at hA hval
  obtain ⟨v0, vs0, d0, ds0, p0, q0, hargs, rfl, rfl, h0, r0⟩ := trodAll_cons hA
  obtain ⟨v1, vs1, d1, ds1, p1, q1, rfl, rfl, rfl, h1, r1⟩ := trodAll_cons r0
  obtain ⟨v2, vs2, d2, ds2, p2, q2, rfl, rfl, rfl, h2, r2⟩ := trodAll_cons r1
  obtain ⟨v3, vs3, d3, ds3, p3, q3, rfl, rfl, rfl, h3, r3⟩ := trodAll_cons r2
  obtain ⟨v4, vs4, d4, ds4, p4, q4, rfl, rfl, rfl, h4, r4⟩ := trodAll_cons r3
  obtain ⟨v5, vs5, d5, ds5, p5, q5, rfl, rfl, rfl, h5, r5⟩ := trodAll_cons r4
  obtain ⟨v6, vs6, d6, ds6, p6, q6, rfl, rfl, rfl, h6, r6⟩ := trodAll_cons r5
  obtain ⟨v7, vs7, d7, ds7, p7, q7, rfl, rfl, rfl, h7, r7⟩ := trodAll_cons r6
  obtain ⟨v8, vs8, d8, ds8, p8, q8, rfl, rfl, rfl, h8, r8⟩ := trodAll_cons r7
  obtain ⟨v9, vs9, d9, ds9, p9, q9, rfl, rfl, rfl, h9, r9⟩ := trodAll_cons r8
  obtain ⟨rfl, rfl, rfl⟩ := trodAll_nil r9
  obtain rfl : args = #[v0, v1, v2, v3, v4, v5, v6, v7, v8, v9] := by cases args; simp_all
  obtain ⟨rfl, rfl⟩ := trodVars_none hV
  obtain ⟨a, rfl, rfl, rfl, w0⟩ := open_string Try.underlying9 (hval 0 9 v0 rfl rfl) h0
  obtain ⟨b, rfl, rfl, rfl, w1⟩ := open_string Try.underlying9 (hval 1 9 v1 rfl rfl) h1
  obtain ⟨r, rfl, rfl, rfl⟩ := open_bool Try.underlying4 (hval 2 4 v2 rfl rfl) h2
  obtain ⟨c, rfl, rfl, rfl, w3⟩ := open_int Try.underlying5 (hval 3 5 v3 rfl rfl) h3
  have k4 := h4
  have lt4 : ∀ x ∈ p4, x.block < W.heap.size := by obtain ⟨m, hm⟩ := k4; exact DataW.trod_lt m _ _ _ hm
  obtain ⟨xs, l4, rfl⟩ := open_arr (hval 4 22 v4 rfl rfl) h4
  obtain ⟨a', rfl, rfl, rfl, w5⟩ := open_string Try.underlying9 (hval 5 9 v5 rfl rfl) h5
  obtain ⟨b', rfl, rfl, rfl, w6⟩ := open_string Try.underlying9 (hval 6 9 v6 rfl rfl) h6
  obtain ⟨r', rfl, rfl, rfl⟩ := open_bool Try.underlying4 (hval 7 4 v7 rfl rfl) h7
  obtain ⟨c', rfl, rfl, rfl, w8⟩ := open_int Try.underlying5 (hval 8 5 v8 rfl rfl) h8
  have k9 := h9
  have lt9 : ∀ x ∈ p9, x.block < W.heap.size := by obtain ⟨m, hm⟩ := k9; exact DataW.trod_lt m _ _ _ hm
  obtain ⟨ys, l9, rfl⟩ := open_arr (hval 9 22 v9 rfl rfl) h9
  clear hA0 hval0
  refine (walk a b r c xs a' b' r' c' ys l4 l9 W).mono fun e W' ⟨he, bel⟩ => ?_
  subst he
  exact ⟨_, rfl, _, _, _, [], _, [], hW', trodAll_mk1 (shut_bool Try.underlying4 _), (trodAll_cons_mk (shut_string Try.underlying9 w0) (trodAll_cons_mk (shut_string Try.underlying9 w1) (trodAll_cons_mk (shut_bool Try.underlying4 r) (trodAll_cons_mk (shut_int Try.underlying5 w3) (trodAll_cons_mk (Below.trod laidOut (by kernel_rfl) (of_decide_eq_true (by kernel_rfl)) k4 bel lt4) (trodAll_cons_mk (shut_string Try.underlying9 w5) (trodAll_cons_mk (shut_string Try.underlying9 w6) (trodAll_cons_mk (shut_bool Try.underlying4 r') (trodAll_cons_mk (shut_int Try.underlying5 w8) (trodAll_cons_mk (Below.trod laidOut (by kernel_rfl) (of_decide_eq_true (by kernel_rfl)) k9 bel lt9) trodAll_mk0)))))))))), rfl, bel.frame _, fun h => by cases h⟩

theorem over : Rows.fnSecurityBothWaysIsExactRow.holds Try.pinned (OpenSpec.ofChange Rows.fnSecurityBothWaysIsExactSpec) :=
  OpenClaim.holds_of_wide 3 Try.f3 rfl rfl rfl rfl rfl rfl rfl ⟨rfl, rfl, rfl, rfl, rfl⟩ rfl rfl rfl rfl rfl (by kernel_rfl) Try.func3 (by kernel_rfl)
    (of_decide_eq_true (by kernel_rfl)) (by unfold Func.isWrapper; first | (rw [if_pos (by decide +kernel)]; kernel_rfl) | (rw [if_neg (by decide +kernel)]; exact ⟨rfl, rfl⟩))
    (fun os started H enc _ => lifted os started H enc)

/-- THE STATEMENT -/
theorem proved : Rows.FnSecurityBothWaysIsExactSaid := over
#print axioms proved
end Go.Proofs.Qxb6613354a
