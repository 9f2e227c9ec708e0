import Derived.Test.Qxb6613913aD
namespace Go.Proofs.Qxb6613913a
open Go.ChangeShapes Go.WideShapes Go.ChangeAt Go.RowKit
open Go.Maps (has size Tidy IsMap)

/-! ### Keys and elements -/
theorem law9 : Maps.Keyed Try.prog 9 := Maps.string_keyed Try.underlying9
def kl (s : ByteArray) : Lit := .string s.data.toList
theorem kl_inj {s t : ByteArray} (h : kl s = kl t) : s = t := by
  obtain ⟨⟨x⟩⟩ := s
  obtain ⟨⟨y⟩⟩ := t
  simp [kl] at h
  rw [h]
theorem kl_of {s : ByteArray} (hs : s.size ≤ maxLen) : keyOf Try.prog 9 (.string s) = some (kl s) := WideMaps.keyOf_string_mk Try.underlying9 hs
theorem kl_key {s : ByteArray} (hs : s.size ≤ maxLen) : WideAt.IsKeyLit (kl s) := law9.key (kl_of hs)
theorem zero39 (w : World) : (zeroValue 39).run Try.prog w = .ok (.map none) w := by kernel_rfl
theorem zero4 (w : World) : (zeroValue 4).run Try.prog w = .ok (.bool false) w := by kernel_rfl

/-- An element of the outer map reads as the number of the inner map's block. -/
def refElem : Value → Option (DataW Unit × List MemPlace)
  | .map (some b) => some (.lit (.int .u64 b), [])
  | .map none => some (.nil, [])
  | _ => none
theorem refElem_some {v : Value} {b : Nat} {ps : List MemPlace} (h : refElem v = some (.lit (.int .u64 b), ps)) : v = .map (some b) := by
  unfold refElem at h
  split at h
  · rename_i b'
    simp at h
    obtain rfl : b' = b := by omega
    rfl
  · simp at h
  · cases h
theorem refElem_nil {v : Value} {ps : List MemPlace} (h : refElem v = some (.nil, ps)) : v = .map none := by
  unfold refElem at h
  split at h
  · simp at h
  · rfl
  · cases h
theorem plainElem_bool_inv {v : Value} {p : Bool} {ps : List MemPlace} (h : plainElem (H := Unit) Try.prog 4 v = some (.lit (.bool p), ps)) : v = .bool p := by
  simp only [plainElem, Try.underlying4] at h
  split at h <;> first | (cases h; done) | skip
  all_goals simp_all

theorem own_block {k : TypeId} {R : Value → Option (DataW Unit × List MemPlace)} {w w' : World} {b n : Nat} {D : DataW Unit} (h : w.ownsMap Try.prog k R b n D) (e : w'.heap[b]? = w.heap[b]?) : w'.ownsMap Try.prog k R b n D := by
  obtain ⟨es, c, hb, r⟩ := h
  exact ⟨es, c, e.trans hb, r⟩
theorem own_size {k : TypeId} {R : Value → Option (DataW Unit × List MemPlace)} {w : World} {b n : Nat} {D : DataW Unit} (h : w.ownsMap Try.prog k R b n D) : w.ownsMap Try.prog k R b (size D) D := by
  obtain ⟨es, c, hb, F, hs, rfl⟩ := h
  exact ⟨es, c, hb, F, by simp [size, length_sorted], rfl⟩
theorem own_isMap {k : TypeId} {R : Value → Option (DataW Unit × List MemPlace)} {w : World} {b n : Nat} {D : DataW Unit} (h : w.ownsMap Try.prog k R b n D) : ∃ es c, w.heap[b]? = some (.map es c) := by
  obtain ⟨es, c, hb, _⟩ := h
  exact ⟨es, c, hb⟩

/-! ### The inner maps -/
def Inner (w : World) (b : Nat) (K O : ByteArray) (p q : Bool) : Prop :=
  ∃ D : DataW Unit, w.ownsMap Try.prog 9 (plainElem Try.prog 4) b (size D) D ∧ (has D (kl K) = p ∧ D.atKey (kl K) (.lit (.bool false)) = .lit (.bool p)) ∧ (has D (kl O) = q ∧ D.atKey (kl O) (.lit (.bool false)) = .lit (.bool q)) ∧ size D = p.toNat + q.toNat
theorem Inner.swap {w : World} {b : Nat} {K O : ByteArray} {p q : Bool} (h : Inner w b K O p q) : Inner w b O K q p := by
  obtain ⟨D, h1, h2, h3, h4⟩ := h
  exact ⟨D, h1, h3, h2, by omega⟩
theorem Inner.block {w w' : World} {b : Nat} {K O : ByteArray} {p q : Bool} (h : Inner w b K O p q) (e : w'.heap[b]? = w.heap[b]?) : Inner w' b K O p q := by
  obtain ⟨D, h1, h2⟩ := h
  exact ⟨D, own_block h1 e, h2⟩
theorem Inner.isMap {w : World} {b : Nat} {K O : ByteArray} {p q : Bool} (h : Inner w b K O p q) : ∃ es c, w.heap[b]? = some (.map es c) := by
  obtain ⟨D, h1, _⟩ := h
  exact own_isMap h1
theorem inner_made (w : World) (K O : ByteArray) : Inner (w.alloc (.map #[] 0)) w.heap.size K O false false :=
  ⟨.map [], w.ownsMap_made Try.prog 9 _, ⟨rfl, rfl⟩, ⟨rfl, rfl⟩, rfl⟩
theorem Inner.put {w : World} {b : Nat} {K O : ByteArray} {p q : Bool} (h : Inner w b K O p q) (hne : K ≠ O) (hK : K.size ≤ maxLen) :
    ∃ w', (Instr.mapUpdate 39 (.map (some b)) (.string K) (.bool true)).run Try.prog w = .ok () w' ∧ Inner w' b K O true q ∧ w.mapTurned w' b := by
  obtain ⟨D, h1, h2, h3, h4⟩ := h
  have hlt : size D < maxLen := by
    have h5 : p.toNat ≤ 1 := by cases p <;> decide
    have h6 : q.toNat ≤ 1 := by cases q <;> decide
    have h7 : 2 < maxLen := by decide
    omega
  obtain ⟨w', hrun, hown, hturn⟩ := h1.store law9 Try.underlying39 hlt (kl_of hK) (plainElem_bool Try.underlying4 true)
  have hm := h1.isMap
  have ht := h1.tidy law9
  have hne' : kl O ≠ kl K := fun e => hne (kl_inj e).symm
  refine ⟨w', hrun, ⟨_, own_size hown, ⟨Maps.has_put_same hm (kl_key hK) _, Maps.atKey_put_same hm (kl_key hK) _ _⟩, ⟨(Maps.has_put_other hne' _).trans h3.1, (Maps.atKey_put_other hne' _ _).trans h3.2⟩, ?_⟩, hturn⟩
  rw [Maps.size_put ht, h2.1, h4]
  cases p <;> simp <;> omega
theorem Inner.del {w : World} {b : Nat} {K O : ByteArray} {p q : Bool} (h : Inner w b K O p q) (hne : K ≠ O) (hK : K.size ≤ maxLen) :
    ∃ w', (∀ ty, (Builtin.delete_ #[39, 9] ty #[.map (some b), .string K]).run Try.prog w = .ok (.tuple #[]) w') ∧ Inner w' b K O false q ∧ w.mapTurned w' b := by
  obtain ⟨D, h1, h2, h3, h4⟩ := h
  obtain ⟨w', hrun, hown, hturn⟩ := h1.drop law9 Try.underlying39 (kl_of hK) 0
  have ht := h1.tidy law9
  have hne' : kl O ≠ kl K := fun e => hne (kl_inj e).symm
  refine ⟨w', fun ty => hrun, ⟨_, own_size hown, ⟨Maps.has_del_same, Maps.atKey_del_same _⟩, ⟨(Maps.has_del_other hne').trans h3.1, (Maps.atKey_del_other hne' _).trans h3.2⟩, ?_⟩, hturn⟩
  have := Maps.size_del (k := kl K) ht
  rw [h2.1, h4] at this
  cases p <;> simp at this ⊢ <;> omega
theorem Inner.look {w : World} {b : Nat} {K O : ByteArray} {p q : Bool} (h : Inner w b K O p q) (hK : K.size ≤ maxLen) : (Instr.lookup 39 (.map (some b)) (.string K) false).run Try.prog w = .ok (.bool p) w := by
  obtain ⟨D, h1, h2, h3, h4⟩ := h
  obtain ⟨v, ps, hrun, hv⟩ := h1.lookup law9 Try.underlying39 (zero4 w) (plainElem_bool Try.underlying4 false) (kl_of hK)
  rw [h2.2] at hv
  rw [plainElem_bool_inv hv] at hrun
  exact hrun
theorem Inner.len {w : World} {b : Nat} {K O : ByteArray} {p q : Bool} (h : Inner w b K O p q) (ty : TypeId) : (Builtin.len_ #[39] ty #[.map (some b)]).run Try.prog w = .ok (.int .i64 ((p.toNat + q.toNat : Nat) : Int)) w := by
  obtain ⟨D, h1, h2, h3, h4⟩ := h
  have := h1.len Try.underlying39 ty
  rw [h4] at this
  exact this

/-! ### The frame -/
structure Fr (Pr : Nat → Prop) (w w' : World) : Prop where
  os : w'.os = w.os
  tape : w'.tape = w.tape
  output : w'.output = w.output
  size : w.heap.size ≤ w'.heap.size
  block : ∀ k, Pr k → w'.heap[k]? = w.heap[k]?
theorem Fr.refl (Pr : Nat → Prop) (w : World) : Fr Pr w w := ⟨rfl, rfl, rfl, Nat.le_refl _, fun _ _ => rfl⟩
theorem Fr.trans {Pr : Nat → Prop} {a b c : World} (h : Fr Pr a b) (k : Fr Pr b c) : Fr Pr a c :=
  ⟨k.os.trans h.os, k.tape.trans h.tape, k.output.trans h.output, Nat.le_trans h.size k.size, fun i hi => (k.block i hi).trans (h.block i hi)⟩
theorem Fr.grown {Pr : Nat → Prop} {w w' : World} {row : Option Nat} (h : w.grownBy w' row) (hp : ∀ k, Pr k → k < w.heap.size ∧ some k ≠ row) : Fr Pr w w' :=
  ⟨h.os, h.tape, h.output, h.size, fun k hk => h.block k (hp k hk).1 (hp k hk).2⟩
theorem Fr.below {B : Nat} {Pr : Nat → Prop} {w w' : World} (h : Below B w w') (hp : ∀ k, Pr k → k < B) : Fr Pr w w' :=
  ⟨h.os, h.tape, h.output, h.size, fun k hk => h.block k (hp k hk)⟩
theorem Fr.to_below {B : Nat} {Pr : Nat → Prop} {w w' : World} (h : Fr Pr w w') (hp : ∀ k, k < B → Pr k) : Below B w w' :=
  ⟨h.os, h.tape, h.output, h.size, fun k hk => h.block k (hp k hk)⟩
theorem Fr.mono {Pr Pr' : Nat → Prop} {w w' : World} (h : Fr Pr w w') (hp : ∀ k, Pr' k → Pr k) : Fr Pr' w w' :=
  ⟨h.os, h.tape, h.output, h.size, fun k hk => h.block k (hp k hk)⟩

/-! ### The label index: a map of maps -/
def upd (P : ByteArray → Bool) (x : ByteArray) (v : Bool) (s : ByteArray) : Bool := if s.toList == x.toList then v else P s
theorem upd_same (P : ByteArray → Bool) (x : ByteArray) (v : Bool) : upd P x v x = v := by simp [upd]
theorem upd_other (P : ByteArray → Bool) {x s : ByteArray} (v : Bool) (h : s ≠ x) : upd P x v s = P s := by
  unfold upd
  rw [if_neg]
  intro e
  exact h (eq_of_toList (eq_of_beq e))

/-- In w, block bO is the label index: label s stands there if P s or Q s; its inner map names K if P s, O if Q s, and nothing else; c labels in all. No block of it is one of Pr. -/
def Index (w : World) (bO : Nat) (K O : ByteArray) (P Q : ByteArray → Bool) (c : Nat) (Pr : Nat → Prop) : Prop :=
  ∃ (D : DataW Unit) (g : ByteArray → Nat), w.ownsMap Try.prog 9 refElem bO (size D) D ∧ (∀ s, has D (kl s) = (P s || Q s)) ∧ (∀ s, (P s || Q s) = true → ∀ z, D.atKey (kl s) z = .lit (.int .u64 (g s))) ∧ size D = c ∧
    (∀ s, (P s || Q s) = true → Inner w (g s) K O (P s) (Q s) ∧ g s ≠ bO ∧ ¬ Pr (g s)) ∧ ¬ Pr bO ∧ ∀ s t, (P s || Q s) = true → (P t || Q t) = true → g s = g t → s = t

variable {w : World} {bO c : Nat} {K O : ByteArray} {P Q : ByteArray → Bool} {Pr : Nat → Prop}

theorem Index.swap (h : Index w bO K O P Q c Pr) : Index w bO O K Q P c Pr := by
  obtain ⟨D, g, h1, h2, h3, h4, h5, h6, h7⟩ := h
  have e : ∀ s, (Q s || P s) = (P s || Q s) := fun s => Bool.or_comm _ _
  refine ⟨D, g, h1, fun s => by rw [h2, e], fun s hs => h3 s (by rw [← e]; exact hs), h4, fun s hs => ?_, h6, fun s t hs ht => h7 s t (by rw [← e]; exact hs) (by rw [← e]; exact ht)⟩
  have := h5 s (by rw [← e]; exact hs)
  exact ⟨this.1.swap, this.2⟩
theorem Index.cast {P' Q' : ByteArray → Bool} {c' : Nat} (h : Index w bO K O P Q c Pr) (hP : ∀ s, P' s = P s) (hQ : ∀ s, Q' s = Q s) (hc : c' = c) : Index w bO K O P' Q' c' Pr := by
  rw [show P' = P from funext hP, show Q' = Q from funext hQ, hc]
  exact h
theorem Index.keep {w' : World} (h : Index w bO K O P Q c Pr) (e : ∀ (k : Nat) es cl, w.heap[k]? = some (Obj.map es cl) → w'.heap[k]? = w.heap[k]?) : Index w' bO K O P Q c Pr := by
  obtain ⟨D, g, h1, h2, h3, h4, h5, h6, h7⟩ := h
  refine ⟨D, g, ?_, h2, h3, h4, fun s hs => ⟨?_, (h5 s hs).2⟩, h6, h7⟩
  · obtain ⟨es, cl, hb⟩ := own_isMap h1
    exact own_block h1 (e _ _ _ hb)
  · obtain ⟨es, cl, hb⟩ := (h5 s hs).1.isMap
    exact (h5 s hs).1.block (e _ _ _ hb)
theorem Index.turn {Pr' : Nat → Prop} (h : Index w bO K O P Q c Pr) (hp : ∀ (k : Nat) es cl, w.heap[k]? = some (Obj.map es cl) → ¬ Pr k → ¬ Pr' k) : Index w bO K O P Q c Pr' := by
  obtain ⟨D, g, h1, h2, h3, h4, h5, h6, h7⟩ := h
  refine ⟨D, g, h1, h2, h3, h4, fun s hs => ⟨(h5 s hs).1, (h5 s hs).2.1, ?_⟩, ?_, h7⟩
  · obtain ⟨es, cl, hb⟩ := (h5 s hs).1.isMap
    exact hp _ _ _ hb (h5 s hs).2.2
  · obtain ⟨es, cl, hb⟩ := own_isMap h1
    exact hp _ _ _ hb h6
theorem Index.made (w : World) (K O : ByteArray) (hp : ¬ Pr w.heap.size) : Index (w.alloc (.map #[] 0)) w.heap.size K O (fun _ => false) (fun _ => false) 0 Pr :=
  ⟨.map [], fun _ => 0, w.ownsMap_made Try.prog 9 _, fun s => rfl, fun s hs => (by cases hs), rfl, fun s hs => (by cases hs), hp, fun s t hs => (by cases hs)⟩

theorem Index.miss (h : Index w bO K O P Q c Pr) {x : ByteArray} (hx : x.size ≤ maxLen) (hd : (P x || Q x) = false) : (Instr.lookup 31 (.map (some bO)) (.string x) false).run Try.prog w = .ok (.map none) w := by
  obtain ⟨D, g, h1, h2, h3, h4, h5, h6, h7⟩ := h
  obtain ⟨v, ps, hrun, hv⟩ := h1.lookup law9 Try.underlying31 (zero39 w) (zd := .nil) (zp := []) rfl (kl_of hx)
  rw [Maps.atKey_of_not_has ((h2 x).trans hd)] at hv
  rw [refElem_nil hv] at hrun
  exact hrun
theorem Index.hit (h : Index w bO K O P Q c Pr) {x : ByteArray} (hx : x.size ≤ maxLen) (hd : (P x || Q x) = true) : ∃ b, (Instr.lookup 31 (.map (some bO)) (.string x) false).run Try.prog w = .ok (.map (some b)) w ∧ Inner w b K O (P x) (Q x) ∧ ¬ Pr b := by
  obtain ⟨D, g, h1, h2, h3, h4, h5, h6, h7⟩ := h
  obtain ⟨v, ps, hrun, hv⟩ := h1.lookup law9 Try.underlying31 (zero39 w) (zd := .nil) (zp := []) rfl (kl_of hx)
  rw [h3 x hd] at hv
  rw [refElem_some hv] at hrun
  exact ⟨g x, hrun, (h5 x hd).1, (h5 x hd).2.2⟩
theorem Index.ok (h : Index w bO K O P Q c Pr) {x : ByteArray} (hx : x.size ≤ maxLen) : ∃ v, (Instr.lookup 31 (.map (some bO)) (.string x) true).run Try.prog w = .ok (.tuple #[v, .bool (P x || Q x)]) w := by
  obtain ⟨D, g, h1, h2, h3, h4, h5, h6, h7⟩ := h
  obtain ⟨v, ps, hrun, hv⟩ := h1.look_ok law9 Try.underlying31 (zero39 w) (zd := .nil) (zp := []) rfl (kl_of hx)
  rw [h2 x] at hrun
  exact ⟨v, hrun⟩
theorem Index.len (h : Index w bO K O P Q c Pr) (ty : TypeId) : (Builtin.len_ #[31] ty #[.map (some bO)]).run Try.prog w = .ok (.int .i64 c) w := by
  obtain ⟨D, g, h1, h2, h3, h4, h5, h6, h7⟩ := h
  have := h1.len Try.underlying31 ty
  rw [h4] at this
  exact this

/-- An inner map of the index is written: K is put in. -/
theorem Index.put (h : Index w bO K O P Q c Pr) {x : ByteArray} (hx : x.size ≤ maxLen) (hd : (P x || Q x) = true) (hne : K ≠ O) (hK : K.size ≤ maxLen) (hpr : ∀ k, Pr k → k < w.heap.size) :
    ∃ b w', (Instr.lookup 31 (.map (some bO)) (.string x) false).run Try.prog w = .ok (.map (some b)) w ∧ (Instr.mapUpdate 39 (.map (some b)) (.string K) (.bool true)).run Try.prog w = .ok () w' ∧ Index w' bO K O (upd P x true) Q c Pr ∧ Fr Pr w w' := by
  obtain ⟨b, hl, _, hpb⟩ := h.hit hx hd
  obtain ⟨D, g, h1, h2, h3, h4, h5, h6, h7⟩ := h
  have hb : b = g x := by
    obtain ⟨v, ps, hrun, hv⟩ := h1.lookup law9 Try.underlying31 (zero39 w) (zd := .nil) (zp := []) rfl (kl_of hx)
    rw [h3 x hd] at hv
    rw [refElem_some hv] at hrun
    rw [hl] at hrun
    cases hrun
    rfl
  subst hb
  obtain ⟨w', hr, hi, hturn⟩ := (h5 x hd).1.put hne hK
  have hg := hturn.grown
  have hdom : ∀ s, (upd P x true s || Q s) = (P s || Q s) := by
    intro s
    by_cases e : s = x
    · subst e; rw [upd_same, hd]; rfl
    · rw [upd_other P _ e]
  refine ⟨g x, w', hl, hr, ⟨D, g, own_block h1 (hg.block _ h1.lt (fun e => (h5 x hd).2.1 (by cases e; rfl))), fun s => by rw [hdom, h2], fun s hs => h3 s (by rw [← hdom]; exact hs), h4, fun s hs => ?_, h6, fun s t hs ht => h7 s t (by rw [← hdom]; exact hs) (by rw [← hdom]; exact ht)⟩, Fr.grown hg fun k hk => ⟨hpr k hk, fun e => hpb (by cases e; exact hk)⟩⟩
  have hs' : (P s || Q s) = true := by rw [← hdom]; exact hs
  refine ⟨?_, (h5 s hs').2⟩
  by_cases e : s = x
  · subst e; rw [upd_same]; exact hi
  · rw [upd_other P _ e]
    obtain ⟨es, cl, hb⟩ := (h5 s hs').1.isMap
    exact (h5 s hs').1.block (hg.block _ (Array.getElem?_eq_some_iff.1 hb).1 (fun e' => e (h7 s x hs' hd (Option.some.inj e'))))

/-- A new label, its inner map new, with K alone. -/
theorem Index.new (h : Index w bO K O P Q c Pr) {x : ByteArray} (hx : x.size ≤ maxLen) (hd : (P x || Q x) = false) (hne : K ≠ O) (hK : K.size ≤ maxLen) (hc : c < maxLen) (hpr : ∀ k, Pr k → k < w.heap.size) :
    ∃ w2 w3, (Instr.mapUpdate 31 (.map (some bO)) (.string x) (.map (some w.heap.size))).run Try.prog (w.alloc (.map #[] 0)) = .ok () w2 ∧ (Instr.mapUpdate 39 (.map (some w.heap.size)) (.string K) (.bool true)).run Try.prog w2 = .ok () w3 ∧ Index w3 bO K O (upd P x true) Q (c + 1) Pr ∧ Fr Pr w w3 := by
  obtain ⟨D, g, h1, h2, h3, h4, h5, h6, h7⟩ := h
  have hbO := h1.lt
  have h1' := h1.alloc (.map #[] 0)
  obtain ⟨w2, hr2, hown2, hturn2⟩ := h1'.store law9 Try.underlying31 (by omega) (kl_of hx) (val := .map (some w.heap.size)) (d := .lit (.int .u64 w.heap.size)) (ps := []) rfl
  have hg2 := hturn2.grown
  have hsz : (w.alloc (.map #[] 0)).heap.size = w.heap.size + 1 := by simp
  have hin : Inner w2 w.heap.size K O false false := (inner_made w K O).block (hg2.block _ (by omega) (fun e => by cases e; omega))
  obtain ⟨w3, hr3, hi3, hturn3⟩ := hin.put hne hK
  have hg3 := hturn3.grown
  have hsz2 := hg2.size
  have old : ∀ k, k < w.heap.size → k ≠ bO → w3.heap[k]? = w.heap[k]? := fun k hk hn =>
    ((hg3.block k (by omega) (fun e => by cases e; omega)).trans (hg2.block k (by omega) (fun e => hn (by cases e; rfl)))).trans (Below.heap_alloc w _ k hk)
  have hglt : ∀ s, (P s || Q s) = true → g s < w.heap.size := fun s hs => by
    obtain ⟨es, cl, hb⟩ := (h5 s hs).1.isMap
    exact (Array.getElem?_eq_some_iff.1 hb).1
  have hdx : (upd P x true x || Q x) = true := by rw [upd_same]; rfl
  have hPx : Q x = false := by cases hq : Q x <;> simp_all
  have hdo : ∀ s, s ≠ x → (upd P x true s || Q s) = (P s || Q s) := fun s e => by rw [upd_other P _ e]
  have hklne : ∀ s, s ≠ x → kl s ≠ kl x := fun s e e' => e (kl_inj e')
  obtain ⟨g', hg'⟩ : ∃ g' : ByteArray → Nat, g' x = w.heap.size ∧ ∀ s, s ≠ x → g' s = g s := by
    refine ⟨fun s => if s.toList == x.toList then w.heap.size else g s, by simp, fun s hs => ?_⟩
    show (if s.toList == x.toList then w.heap.size else g s) = g s
    rw [if_neg]
    intro e
    exact hs (eq_of_toList (eq_of_beq e))
  have hm := h1.isMap
  have ht := h1.tidy law9
  refine ⟨w2, w3, hr2, hr3, ⟨_, g', own_size (own_block hown2 (hg3.block _ (by omega) (fun e => by cases e; omega))), fun s => ?_, fun s hs z => ?_, ?_, fun s hs => ?_, h6, fun s t hs ht => ?_⟩, ?_⟩
  · by_cases e : s = x
    · subst e; rw [hdx, Maps.has_put_same hm (kl_key hx)]
    · rw [hdo s e, Maps.has_put_other (hklne s e), h2]
  · by_cases e : s = x
    · subst e; rw [hg'.1, Maps.atKey_put_same hm (kl_key hx)]
    · rw [hg'.2 s e, Maps.atKey_put_other (hklne s e)]
      exact h3 s (by rw [← hdo s e]; exact hs) z
  · rw [Maps.size_put ht, h2 x, hd, h4]; rfl
  · by_cases e : s = x
    · subst e
      rw [hg'.1, upd_same, hPx]
      exact ⟨hi3, by omega, fun hp => by have := hpr _ hp; omega⟩
    · have hs' : (P s || Q s) = true := by rw [← hdo s e]; exact hs
      rw [hg'.2 s e, upd_other P _ e]
      exact ⟨(h5 s hs').1.block (old _ (hglt s hs') (h5 s hs').2.1), (h5 s hs').2⟩
  · intro e
    by_cases es : s = x
    · by_cases et : t = x
      · rw [es, et]
      · rw [es, hg'.1, hg'.2 t et] at e
        have := hglt t (by rw [← hdo t et]; exact ht)
        omega
    · by_cases et : t = x
      · rw [et, hg'.1, hg'.2 s es] at e
        have := hglt s (by rw [← hdo s es]; exact hs)
        omega
      · rw [hg'.2 s es, hg'.2 t et] at e
        exact h7 s t (by rw [← hdo s es]; exact hs) (by rw [← hdo t et]; exact ht) e
  · refine ⟨hg3.os.trans hg2.os, hg3.tape.trans hg2.tape, hg3.output.trans hg2.output, by have := hg3.size; omega, fun k hk => old k (hpr k hk) (fun e => h6 (by rw [← e]; exact hk))⟩

/-- K is struck from a label's inner map. -/
theorem Index.del (h : Index w bO K O P Q c Pr) {x : ByteArray} (hx : x.size ≤ maxLen) (hd : P x = true) (hne : K ≠ O) (hK : K.size ≤ maxLen) (hpr : ∀ k, Pr k → k < w.heap.size) :
    ∃ b w', (Instr.lookup 31 (.map (some bO)) (.string x) false).run Try.prog w = .ok (.map (some b)) w ∧ (∀ ty, (Builtin.delete_ #[39, 9] ty #[.map (some b), .string K]).run Try.prog w = .ok (.tuple #[]) w') ∧
      (Instr.lookup 31 (.map (some bO)) (.string x) false).run Try.prog w' = .ok (.map (some b)) w' ∧ (∀ ty, (Builtin.len_ #[39] ty #[.map (some b)]).run Try.prog w' = .ok (.int .i64 ((Q x).toNat : Int)) w') ∧
      (Q x = true → Index w' bO K O (upd P x false) Q c Pr) ∧
      (Q x = false → ∃ w3, (∀ ty, (Builtin.delete_ #[31, 9] ty #[.map (some bO), .string x]).run Try.prog w' = .ok (.tuple #[]) w3) ∧ Index w3 bO K O (upd P x false) Q (c - 1) Pr ∧ w'.mapTurned w3 bO ∧ Fr Pr w w3) ∧ w.mapTurned w' b ∧ Fr Pr w w' := by
  have hdd : (P x || Q x) = true := by rw [hd]; rfl
  obtain ⟨b, hl, _, hpb⟩ := h.hit hx hdd
  obtain ⟨D, g, h1, h2, h3, h4, h5, h6, h7⟩ := h
  have look : ∀ {w' : World}, w'.ownsMap Try.prog 9 refElem bO (size D) D → (Instr.lookup 31 (.map (some bO)) (.string x) false).run Try.prog w' = .ok (.map (some (g x))) w' := fun {w'} h1 => by
    obtain ⟨v, ps, hrun, hv⟩ := h1.lookup law9 Try.underlying31 (zero39 w') (zd := .nil) (zp := []) rfl (kl_of hx)
    rw [h3 x hdd] at hv
    rw [refElem_some hv] at hrun
    exact hrun
  have hb : b = g x := by
    have := look h1
    rw [hl] at this
    cases this
    rfl
  subst hb
  obtain ⟨w', hr, hi, hturn⟩ := (h5 x hdd).1.del hne hK
  have hg := hturn.grown
  have h1' : w'.ownsMap Try.prog 9 refElem bO (size D) D := own_block h1 (hg.block _ h1.lt (fun e => (h5 x hdd).2.1 (by cases e; rfl)))
  have hfr : Fr Pr w w' := Fr.grown hg fun k hk => ⟨hpr k hk, fun e => hpb (by cases e; exact hk)⟩
  have hother : ∀ s, s ≠ x → (P s || Q s) = true → Inner w' (g s) K O (P s) (Q s) := fun s e hs => by
    obtain ⟨es, cl, hb⟩ := (h5 s hs).1.isMap
    exact (h5 s hs).1.block (hg.block _ (Array.getElem?_eq_some_iff.1 hb).1 (fun e' => e (h7 s x hs hdd (Option.some.inj e'))))
  have hdo : ∀ s, s ≠ x → (upd P x false s || Q s) = (P s || Q s) := fun s e => by rw [upd_other P _ e]
  refine ⟨g x, w', hl, hr, look h1', fun ty => by have := hi.len ty; simpa using this, fun hq => ?_, fun hq => ?_, hturn, hfr⟩
  · have hdom : ∀ s, (upd P x false s || Q s) = (P s || Q s) := by
      intro s
      by_cases e : s = x
      · subst e; rw [hq]; simp
      · exact hdo s e
    refine ⟨D, g, h1', fun s => by rw [hdom, h2], fun s hs => h3 s (by rw [← hdom]; exact hs), h4, fun s hs => ?_, h6, fun s t hs ht => h7 s t (by rw [← hdom]; exact hs) (by rw [← hdom]; exact ht)⟩
    have hs' : (P s || Q s) = true := by rw [← hdom]; exact hs
    refine ⟨?_, (h5 s hs').2⟩
    by_cases e : s = x
    · subst e; rw [upd_same]; exact hi
    · rw [upd_other P _ e]; exact hother s e hs'
  · obtain ⟨w3, hr3, hown3, hturn3⟩ := h1'.drop law9 Try.underlying31 (kl_of hx) 0
    have hg3 := hturn3.grown
    have hm := h1.isMap
    have ht := h1.tidy law9
    have hdx : (upd P x false x || Q x) = false := by rw [upd_same, hq]; rfl
    have hklne : ∀ s, s ≠ x → kl s ≠ kl x := fun s e e' => e (kl_inj e')
    have hsz := hg.size
    have ne : ∀ s, (upd P x false s || Q s) = true → s ≠ x := fun s hs e => by rw [e, hdx] at hs; cases hs
    refine ⟨w3, fun ty => hr3, ⟨_, g, own_size hown3, fun s => ?_, fun s hs z => ?_, ?_, fun s hs => ?_, h6, fun s t hs ht => h7 s t (by rw [← hdo s (ne s hs)]; exact hs) (by rw [← hdo t (ne t ht)]; exact ht)⟩, hturn3, hfr.trans (Fr.grown hg3 fun k hk => ⟨Nat.lt_of_lt_of_le (hpr k hk) hsz, fun e => h6 (by cases e; exact hk)⟩)⟩
    · by_cases e : s = x
      · subst e; rw [hdx, Maps.has_del_same]
      · rw [hdo s e, Maps.has_del_other (hklne s e), h2]
    · rw [Maps.atKey_del_other (hklne s (ne s hs))]
      exact h3 s (by rw [← hdo s (ne s hs)]; exact hs) z
    · have := Maps.size_del (k := kl x) ht
      rw [h2 x, hdd, h4] at this
      simp at this
      omega
    · have hs' : (P s || Q s) = true := by rw [← hdo s (ne s hs)]; exact hs
      refine ⟨?_, (h5 s hs').2⟩
      rw [upd_other P _ (ne s hs)]
      have hi' := hother s (ne s hs) hs'
      obtain ⟨es, cl, hb⟩ := hi'.isMap
      exact hi'.block (hg3.block _ (Array.getElem?_eq_some_iff.1 hb).1 (fun e' => (h5 s hs').2.1 (by cases e'; rfl)))
end Go.Proofs.Qxb6613913a
