import JvmDerived
import JvmDerived.Pilot.@@N@@Statement
import JvmDerived.Pilot.@@N@@Code
set_option linter.unusedVariables false
set_option linter.unusedSimpArgs false
namespace Jvm.Own
open Jvm Jvm.ClassFile Sem Op Lib Bundle Jvm.Free Jvm.Stand Jvm.LawKit Jvm.RoadKit
/-! The walk's own small framework, part 1: what is known of the heap, as ONE word over lists.
An object is told by its kind and some of its fields, an array by its kind and all its components, a String (only read) by its chars. O: what may be written (new cells all); RO: what is only read; FZ: what is only read and was made, or loaded as a constant, since the body's start. -/
/-- a char that a byte holds -/
def Lat (x : Int32) : Prop := 0 ≤ x.toInt ∧ x.toInt ≤ 255
/-- the byte of a char -/
def by8 (x : Int32) : Int32 := x.toInt8.toInt32
abbrev Key : Type := String × String × String
abbrev Ob : Type := Sum (String × List (Key × Value)) (Sum (FieldType × List Value) (List Int32))
abbrev HL : Type := List (Addr × Ob)
abbrev aO (ty : FieldType) (vs : List Value) : Ob := .inr (.inl (ty, vs))
abbrev tO (cs : List Int32) : Ob := .inr (.inr cs)
abbrev bO (cs : List Int32) : Ob := .inr (.inl (.byte, (cs.map by8).map Value.int))
def slotK (Z : State) (k : Key) : Nat := RoadKit.slotOf Z k.1 k.2.1 k.2.2
def FldK (Z : State) (h : Heap) (a : Addr) (f : Key × Value) : Prop := Fld Z h a f.1.1 f.1.2.1 f.1.2.2 f.2
def ArL (Z : State) (h : Heap) (a : Addr) (ty : FieldType) (vs : List Value) : Prop :=
  ∃ c : Cell, Arr Z h a c ty ∧ c.slots = vs.toArray ∧ vs.length < 2 ^ 31 ∧ (∀ v ∈ vs, fits ty v = true) ∧ (∀ C, ty = .object C → Z.heap.size ≤ a → Ovr Z c.cls C)
def Is (Z : State) (h : Heap) (a : Addr) : Ob → Prop
  | .inl (C, fs) => Exa Z h a C ∧ (∀ f ∈ fs, FldK Z h a f) ∧ (fs.map fun f => slotK Z f.1).Nodup
  | .inr (.inl (ty, vs)) => ArL Z h a ty vs
  | .inr (.inr _) => False
abbrev vK : Key := ("java/lang/String", "value", "[B")
abbrev cK : Key := ("java/lang/String", "coder", "B")
abbrev sF (b : Addr) : List (Key × Value) := [(vK, .ref b), (cK, .int 0)]
abbrev sO (b : Addr) : Ob := .inl ("java/lang/String", sF b)
theorem ltAll {ip : List Nat} {n : Nat} (h : ip.all (fun i => Nat.ble (i + 1) n) = true) : ∀ i ∈ ip, i < n := fun i hi => Nat.le_of_ble_eq_true (List.all_eq_true.mp h i hi)
theorem nodup_at {α : Type} {L : List α} (hn : L.Nodup) {i j : Nat} {x : α} (h1 : L[i]? = some x) (h2 : L[j]? = some x) : i = j :=
  (List.getElem?_inj (List.getElem?_eq_some_iff.mp h1).1 hn).mp (h1.trans h2.symm)
theorem set_same {α : Type} {L : List α} {i : Nat} {x : α} (h : L[i]? = some x) : L.set i x = L := by
  refine List.ext_getElem? fun j => ?_
  by_cases e : i = j
  · subst e
    rw [List.getElem?_set_self (List.getElem?_eq_some_iff.mp h).1]; exact h.symm
  · rw [List.getElem?_set_ne e]
section One
variable {Z : State} {h h' : Heap} {a b : Addr} {o : Ob} {ty : FieldType} {vs : List Value} {C : String} {fs : List (Key × Value)} {v : Value} {ws : List Addr} {q : Addr × Ob} {Φ Ψ : Addr → Prop}
theorem Is.lt (F : Is Z h a o) : a < h.size := by
  rcases o with ⟨C, fs⟩ | ⟨ty, vs⟩ | cs
  · exact Exa.lt F.1
  · obtain ⟨c, A, -⟩ := F; exact A.lt
  · exact F.elim
/-- it looks at one cell -/
theorem Is.loc (e : h'[a]? = h[a]?) (F : Is Z h a o) : Is Z h' a o := by
  rcases o with ⟨C, fs⟩ | ⟨ty, vs⟩ | cs
  · refine ⟨?_, fun f hf => ?_, F.2.2⟩
    · obtain ⟨cell, k, h1, r⟩ := F.1; exact ⟨cell, k, e.trans h1, r⟩
    · obtain ⟨cell, cf, k, i, f', h1, r⟩ := F.2.1 f hf; exact ⟨cell, cf, k, i, f', e.trans h1, r⟩
  · obtain ⟨c, A, r⟩ := F; exact ⟨c, ⟨e.trans A.1, A.2⟩, r⟩
  · exact F.elim
theorem same_ext (E : Ext h h') {x : Addr} (hx : x < h.size) : h'[x]? = h[x]? := by
  have := E.2 x _ (Array.getElem?_eq_getElem hx)
  rw [this]; exact (Array.getElem?_eq_getElem hx).symm
theorem same_keep (K : Keep h h' ws) {x : Addr} (hx : x < h.size) (hn : x ∉ ws) : h'[x]? = h[x]? := by
  have := K.2.1 x _ (Array.getElem?_eq_getElem hx) hn
  rw [this]; exact (Array.getElem?_eq_getElem hx).symm
theorem Is.ext (E : Ext h h') (F : Is Z h a o) : Is Z h' a o := F.loc (same_ext E F.lt)
theorem Is.keep (K : Keep h h' ws) (hn : a ∉ ws) (F : Is Z h a o) : Is Z h' a o := F.loc (same_keep K F.lt hn)
theorem Is.other {sl : Nat} (W : Wr h h' b sl v) (hn : a ≠ b) (F : Is Z h a o) : Is Z h' a o :=
  F.keep (Keep.of_wr W) (fun q => hn (List.mem_singleton.mp q))
theorem Is.wrF {key : Key} {old : Value} {j : Nat} (W : Wr h h' a (slotK Z key) v) (hj : fs[j]? = some (key, old)) (F : Is Z h a (.inl (C, fs))) : Is Z h' a (.inl (C, fs.set j (key, v))) := by
  obtain ⟨E, H, N⟩ := F
  have hold := H _ (List.mem_of_getElem? hj)
  refine ⟨Exa.wr W E, fun f hf => ?_, ?_⟩
  · obtain ⟨i, hi⟩ := List.mem_iff_getElem?.mp hf
    by_cases e : j = i
    · subst e
      rw [List.getElem?_set_self (List.getElem?_eq_some_iff.mp hj).1] at hi
      cases hi
      exact Fld.same W hold
    · rw [List.getElem?_set_ne e] at hi
      refine Fld.other W (H _ (List.mem_of_getElem? hi)) (Or.inr fun q => e ?_)
      refine nodup_at N (x := slotK Z key) ?_ ?_
      · rw [List.getElem?_map, hj]; rfl
      · rw [List.getElem?_map, hi]; exact congrArg some q
  · have : (fs.set j (key, v)).map (fun f => slotK Z f.1) = fs.map fun f => slotK Z f.1 := by
      rw [List.map_set]
      exact set_same (by rw [List.getElem?_map, hj]; rfl)
    rw [this]; exact N
theorem Is.wrA {j : Nat} (W : Wr h h' a j v) (hj : j < vs.length) (hv : fits ty v = true) (F : Is Z h a (aO ty vs)) : Is Z h' a (aO ty (vs.set j v)) := by
  obtain ⟨c, A, hs, hl, hf, ho⟩ := F
  refine ⟨c.setSlot j v, A.same W, ?_, by rw [List.length_set]; exact hl, fun x hx => ?_, ho⟩
  · simp [Cell.setSlot, hs]
  · rcases List.mem_or_eq_of_mem_set hx with q | q
    · exact hf x q
    · rw [q]; exact hv
/-- a thing that is only read; Φ holds of its cells (a String's: its own and its array's) -/
def Foot (Φ : Addr → Prop) (Z : State) (h : Heap) : Addr × Ob → Prop
  | (a, .inr (.inr cs)) => Φ a ∧ (∀ x ∈ cs, Lat x) ∧ ∃ b, Φ b ∧ Is Z h a (sO b) ∧ Is Z h b (bO cs)
  | (a, .inr (.inl x)) => Φ a ∧ Is Z h a (.inr (.inl x))
  | (a, .inl x) => Φ a ∧ Is Z h a (.inl x)
theorem Foot.of (F : Is Z h a o) (hΦ : Φ a) : Foot Φ Z h (a, o) := by
  rcases o with x | x | cs
  · exact ⟨hΦ, F⟩
  · exact ⟨hΦ, F⟩
  · exact F.elim
theorem Foot.step (hs : ∀ x, x < h.size → Φ x → h'[x]? = h[x]? ∧ Ψ x) (F : Foot Φ Z h q) : Foot Ψ Z h' q := by
  obtain ⟨a, o⟩ := q
  rcases o with x | x | cs
  · obtain ⟨f1, f2⟩ := F
    obtain ⟨e, g⟩ := hs _ f2.lt f1
    exact ⟨g, f2.loc e⟩
  · obtain ⟨f1, f2⟩ := F
    obtain ⟨e, g⟩ := hs _ f2.lt f1
    exact ⟨g, f2.loc e⟩
  · obtain ⟨f1, f2, b, f3, f4, f5⟩ := F
    obtain ⟨e1, g1⟩ := hs _ f4.lt f1
    obtain ⟨e2, g2⟩ := hs _ f5.lt f3
    exact ⟨g1, f2, b, g2, f4.loc e1, f5.loc e2⟩
theorem Foot.imp (hs : ∀ x, x < h.size → Φ x → Ψ x) (F : Foot Φ Z h q) : Foot Ψ Z h q := F.step fun x h1 h2 => ⟨rfl, hs x h1 h2⟩
end One
/-! ### literals -/
def LitI (Z : State) (EL : List (String × Nat)) (vm : Vm) (h : Heap) (t : Addr × Addr × List Value) : Prop :=
  Is Z h t.1 (sO t.2.1) ∧ Is Z h t.2.1 (aO .byte t.2.2) ∧ ∃ p ∈ EL, ∃ u : Array UInt16, Booksv vm p.1 p.2 u t.1
/-- x is a cell of a String constant -/
def LitX (Z : State) (EL : List (String × Nat)) (vm : Vm) (h : Heap) (x : Addr) : Prop := ∃ t, LitI Z EL vm h t ∧ (x = t.1 ∨ x = t.2.1)
section Lits
variable {Z W : State} {a0 : Array Value} {EL : List (String × Nat)} {vm vm1 : Vm} {h h' : Heap} {a b x : Addr} {own : String} {ix : Nat} {u : Array UInt16} {t : Addr × Addr × List Value}
theorem booksv_later {text : String} (hW : W.Warmed39 vm1) (w : (Cond.stringLink own ix text).before a0 W = true) (B : Booksv W.vm own ix u a) : Booksv vm1 own ix u a := by
  obtain ⟨c, k, cf, i, h1, h2, h3, h4, h5, h6⟩ := B
  obtain ⟨k0, cf0, i0, u0, e1, e2, e3, e4, hnm, -, -⟩ := Cond.stringLink_spec h1 w
  cases h2.symm.trans e1
  cases h3.symm.trans e2
  cases h4.symm.trans e3
  cases h5.symm.trans e4
  obtain ⟨k', g1, g2, -, ee, -⟩ := hW.2.2.2 c k h2
  have hcf : k'.cf = some cf := by rw [g2]; exact h3
  refine ⟨c, k', cf, i, by rw [hW.alike.findClass]; exact h1, g1, hcf, h4, h5, ?_⟩
  rcases h6 with h6 | ⟨h6, h7⟩
  · left
    rcases ee ix with e0 | ⟨hop, -⟩
    · rw [e0]; exact h6
    · rw [h6] at hop; cases hop
  · rcases ee ix with e0 | ⟨-, r, r1, hr | ⟨a3, tx, si, us, rfl, -, q3, q4, q5⟩⟩
    · right; exact ⟨e0.trans h6, hW.finds h7⟩
    · exfalso
      cases r <;> simp [State.rightAt, h2, h3, hnm] at hr
    · left
      rw [h3] at q3 q4
      have e3' : si = i := by
        have := q3.symm.trans h4
        simpa using this
      subst e3'
      have e4' : us = u := by simpa [ConstantPool.utf8?, h5] using q4.symm
      subst e4'
      have e5 := hW.finds h7
      rw [q5] at e5
      have e6 : a3 = a := by simpa using e5
      rw [r1, e6]
theorem LitI.ne (hal : Z.vm.Alike vm) (H : CHv Z EL vm h) (L : LitI Z EL vm h t) (S : Safe Z EL vm h x) : x ≠ t.1 ∧ x ≠ t.2.1 := by
  obtain ⟨L1, L2, p, hp, u, hb⟩ := L
  obtain ⟨q, hqa, F⟩ := SlB.of (H p hp u _ hb)
  have hsd : q.sd = t.2.1 := by
    have G : Fld Z h t.1 "java/lang/String" "value" "[B" (.ref t.2.1) := L1.2.1 (vK, .ref t.2.1) (List.mem_cons_self ..)
    obtain ⟨cell, cf, k, i, f, g1, g2, -, -, -, -, g7⟩ := G
    have ha := F.ha
    rw [hqa] at ha
    cases (show h[t.1]? = some q.sC from ha).symm.trans g1
    obtain ⟨cS, ⟨⟨-, -, -, ⟨c1, k1, i1, f1, -⟩, -, -, -, v1, -⟩, -⟩, -⟩ := F
    obtain ⟨k2, e2⟩ := ff_back (U := Wst Z vm h) hal f1
    cases g2.symm.trans e2
    have := v1.symm.trans g7
    simpa using this
  exact ⟨fun e => S ⟨p, hp, u, _, hb, q, hqa, F, Or.inl (e.trans hqa.symm)⟩, fun e => S ⟨p, hp, u, _, hb, q, hqa, F, Or.inr (e.trans hsd.symm)⟩⟩
theorem LitX.ne (hal : Z.vm.Alike vm) (H : CHv Z EL vm h) {y : Addr} (L : LitX Z EL vm h y) (S : Safe Z EL vm h x) : x ≠ y := by
  obtain ⟨t, L, rfl | rfl⟩ := L
  · exact (L.ne hal H S).1
  · exact (L.ne hal H S).2
/-- what keeps booked cells keeps this -/
theorem LitX.step (hs : ∀ y, y < h.size → LitX Z EL vm h y → h'[y]? = h[y]?) (L : LitX Z EL vm h x) : LitX Z EL vm h' x := by
  obtain ⟨t, L, e⟩ := L
  exact ⟨t, ⟨L.1.loc (hs _ L.1.lt ⟨t, L, Or.inl rfl⟩), L.2.1.loc (hs _ L.2.1.lt ⟨t, L, Or.inr rfl⟩), L.2.2⟩, e⟩
theorem LitX.later (hZ : Z.Warmed39 vm) (hW : (Wst Z vm h).Warmed39 vm1) (w : EW Z a0 EL) (L : LitX Z EL vm h x) : LitX Z EL vm1 h x := by
  obtain ⟨t, ⟨L1, L2, p, hp, u, hb⟩, e⟩ := L
  obtain ⟨text, wl, -⟩ := w p hp
  exact ⟨t, ⟨L1, L2, p, hp, u, booksv_later (W := Wst Z vm h) (text := text) (a0 := a0) hW (mvS (s := { Z with heap := h }) hZ wl) hb⟩, e⟩
end Lits
/-! ### the whole -/
def Apart (O : HL) (x : Addr) : Prop := ∀ p ∈ O, p.1 ≠ x
def Mine (Z : State) (EL : List (String × Nat)) (vm : Vm) (h : Heap) (n0 : Nat) (O : HL) (x : Addr) : Prop := Apart O x ∧ (n0 ≤ x ∨ LitX Z EL vm h x)
def HI (Z : State) (EL : List (String × Nat)) (vm : Vm) (h : Heap) (n0 : Nat) (O RO FZ : HL) : Prop :=
  Ext Z.heap h ∧ CHv Z EL vm h ∧ (∀ p ∈ O, Is Z h p.1 p.2 ∧ Z.heap.size ≤ p.1 ∧ Safe Z EL vm h p.1) ∧ (O.map (·.1)).Nodup ∧ (∀ q ∈ RO, Foot (Apart O) Z h q) ∧ ∀ q ∈ FZ, Foot (Mine Z EL vm h n0 O) Z h q
def pick (L : HL) : List Nat → HL
  | [] => []
  | i :: r => match L[i]? with
    | some x => x :: pick L r
    | none => pick L r
def put (O : HL) : List Nat → HL → HL
  | [], _ => O
  | _ :: _, [] => O
  | i :: r, x :: xs => put (O.set i x) r xs
def merge (O : HL) (ip : List Nat) (O' : HL) : HL := put O ip (O'.take ip.length) ++ O'.drop ip.length
theorem mem_pick {L : HL} {x : Addr × Ob} : ∀ {ip : List Nat}, x ∈ pick L ip → ∃ i ∈ ip, L[i]? = some x
  | [], h => nomatch h
  | i :: r, h => by
    unfold pick at h
    cases hi : L[i]? with
    | none =>
      rw [hi] at h
      obtain ⟨j, h1, h2⟩ := mem_pick h
      exact ⟨j, List.mem_cons_of_mem _ h1, h2⟩
    | some y =>
      rw [hi] at h
      rcases List.mem_cons.mp h with rfl | h
      · exact ⟨i, List.mem_cons_self .., hi⟩
      · obtain ⟨j, h1, h2⟩ := mem_pick h
        exact ⟨j, List.mem_cons_of_mem _ h1, h2⟩
theorem at_fst {L : HL} {i : Nat} {x : Addr × Ob} (h : L[i]? = some x) : (L.map (·.1))[i]? = some x.1 := by rw [List.getElem?_map, h]; rfl
theorem nodup_pick {L : HL} (hn : (L.map (·.1)).Nodup) : ∀ {ip : List Nat}, ip.Nodup → ((pick L ip).map (·.1)).Nodup
  | [], _ => List.nodup_nil
  | i :: r, h => by
    obtain ⟨h1, h2⟩ := List.nodup_cons.mp h
    have ih := nodup_pick hn h2
    unfold pick
    cases hi : L[i]? with
    | none => exact ih
    | some y =>
      refine List.nodup_cons.mpr ⟨fun q => ?_, ih⟩
      obtain ⟨z, hz, e⟩ := List.mem_map.mp q
      obtain ⟨j, hj, hjz⟩ := mem_pick hz
      have a1 := at_fst hi
      have a2 := at_fst hjz
      rw [e] at a2
      have := nodup_at hn a1 a2
      exact h1 (this ▸ hj)
theorem put_mem {q : Addr × Ob} : ∀ {ip : List Nat} {O X : HL}, q ∈ put O ip X → q ∈ X ∨ ∃ j, O[j]? = some q ∧ (X.length = ip.length → j ∉ ip)
  | [], O, X, h => by
    obtain ⟨j, hj⟩ := List.mem_iff_getElem?.mp (show q ∈ O by cases X <;> exact h)
    exact Or.inr ⟨j, hj, fun _ z => nomatch z⟩
  | i :: r, O, [], h => by
    obtain ⟨j, hj⟩ := List.mem_iff_getElem?.mp (show q ∈ O from h)
    exact Or.inr ⟨j, hj, fun z => by simp at z⟩
  | i :: r, O, x :: xs, h => by
    rcases put_mem (ip := r) (O := O.set i x) (X := xs) h with h | ⟨j, hj, hn⟩
    · exact Or.inl (List.mem_cons_of_mem _ h)
    · by_cases e : i = j
      · subst e
        by_cases hl : i < O.length
        · rw [List.getElem?_set_self hl] at hj
          cases hj
          exact Or.inl (List.mem_cons_self ..)
        · rw [List.getElem?_eq_none (by rw [List.length_set]; omega)] at hj
          cases hj
      · rw [List.getElem?_set_ne e] at hj
        refine Or.inr ⟨j, hj, fun z => ?_⟩
        have := hn (by simpa using z)
        simp [Ne.symm e, this]
theorem put_fst : ∀ {ip : List Nat} {O X : HL}, (∀ i ∈ ip, i < O.length) → X.map (·.1) = (pick O ip).map (·.1) → (put O ip X).map (·.1) = O.map (·.1)
  | [], _, X, _, _ => by cases X <;> rfl
  | _ :: _, _, [], _, _ => rfl
  | i :: r, O, x :: xs, hl, h => by
    have hi := hl i (List.mem_cons_self ..)
    have e0 : O[i]? = some O[i] := List.getElem?_eq_getElem hi
    unfold pick at h
    rw [e0] at h
    obtain ⟨h1, h2⟩ := List.cons.inj (show x.1 :: xs.map (·.1) = O[i].1 :: (pick O r).map (·.1) from h)
    have hs : (O.set i x).map (·.1) = O.map (·.1) := by
      rw [List.map_set, h1]
      exact set_same (at_fst e0)
    have hp : ∀ r : List Nat, (pick (O.set i x) r).map (·.1) = (pick O r).map (·.1) := fun r => by
      induction r with
      | nil => rfl
      | cons j r ih =>
        have e : ((O.set i x)[j]?).map (·.1) = (O[j]?).map (·.1) := by
          rw [← List.getElem?_map, ← List.getElem?_map, hs]
        unfold pick
        cases h1 : (O.set i x)[j]? <;> cases h2 : O[j]? <;> rw [h1, h2] at e <;> simp at e
        · exact ih
        · simp only [List.map_cons, ih, e]
    show (put (O.set i x) r xs).map (·.1) = _
    rw [put_fst (fun j hj => by rw [List.length_set]; exact hl j (List.mem_cons_of_mem _ hj)) (by rw [hp]; exact h2), hs]
/-- the first of O are P's places, the rest is new -/
def Lays (P : HL) (h0 : Heap) (O : HL) : Prop := (O.map (·.1)).take P.length = P.map (·.1) ∧ ∀ q ∈ O.drop P.length, h0.size ≤ q.1
section All
variable {Z : State} {a0 : Array Value} {EL : List (String × Nat)} {vm vm1 vm2 : Vm} {h h' : Heap} {n0 : Nat} {O RO O' P PR FZ FN : HL} {a b : Addr} {o : Ob} {i j : Nat} {v : Value} {cs : List Int32}
theorem HI.at (H : HI Z EL vm h n0 O RO FZ) (hi : (O ++ (RO ++ FZ))[i]? = some (a, o)) : Foot (fun _ => True) Z h (a, o) := by
  have hm := List.mem_of_getElem? hi
  rcases List.mem_append.mp hm with q | q
  · exact Foot.of (H.2.2.1 _ q).1 trivial
  · rcases List.mem_append.mp q with q | q
    · exact (H.2.2.2.2.1 _ q).imp fun _ _ _ => trivial
    · exact (H.2.2.2.2.2 _ q).imp fun _ _ _ => trivial
theorem HI.atO {C : String} {fs : List (Key × Value)} (H : HI Z EL vm h n0 O RO FZ) (hi : (O ++ (RO ++ FZ))[i]? = some (a, .inl (C, fs))) : Is Z h a (.inl (C, fs)) := (H.at hi).2
theorem HI.atA {ty : FieldType} {vs : List Value} (H : HI Z EL vm h n0 O RO FZ) (hi : (O ++ (RO ++ FZ))[i]? = some (a, aO ty vs)) : Is Z h a (aO ty vs) := (H.at hi).2
theorem HI.ext (E : Ext h h') (H : HI Z EL vm h n0 O RO FZ) : HI Z EL vm h' n0 O RO FZ := by
  obtain ⟨h1, h2, h3, h4, h5, h6⟩ := H
  refine ⟨⟨Nat.le_trans h1.1 E.1, fun x c q => E.2 x c (h1.2 x c q)⟩, h2.ext E, fun p hp => ⟨(h3 p hp).1.ext E, (h3 p hp).2.1, Safe.ext E h2 (h3 p hp).2.2⟩, h4, fun q hq => (h5 q hq).step fun x hx hA => ⟨same_ext E hx, hA⟩, fun q hq => (h6 q hq).step fun x hx hA => ⟨same_ext E hx, hA.1, hA.2.imp id fun L => L.step fun y hy _ => same_ext E hy⟩⟩
/-- a new cell -/
theorem HI.new (E : Ext h h') (H : HI Z EL vm h n0 O RO FZ) (F : Is Z h' h.size o) : HI Z EL vm h' n0 (O ++ [(h.size, o)]) RO FZ := by
  have H' := H.ext E
  have hs : Safe Z EL vm h' h.size := Safe.ext E H.2.1 (Safe.new (Nat.le_refl _))
  have lt : ∀ p ∈ O, p.1 < h.size := fun p hp => (H.2.2.1 p hp).1.lt
  have ap : ∀ x, x < h.size → Apart O x → Apart (O ++ [(h.size, o)]) x := fun x hx hA p hp => by
    rcases List.mem_append.mp hp with hp | hp
    · exact hA p hp
    · cases List.mem_singleton.mp hp
      show h.size ≠ x
      omega
  refine ⟨H'.1, H'.2.1, fun p hp => ?_, ?_, fun q hq => (H.2.2.2.2.1 q hq).step fun x hx hA => ⟨same_ext E hx, ap x hx hA⟩, fun q hq => (H.2.2.2.2.2 q hq).step fun x hx hA => ⟨same_ext E hx, ap x hx hA.1, hA.2.imp id fun L => L.step fun y hy _ => same_ext E hy⟩⟩
  · rcases List.mem_append.mp hp with hp | hp
    · exact H'.2.2.1 p hp
    · cases List.mem_singleton.mp hp
      exact ⟨F, H.1.1, hs⟩
  · rw [List.map_append]
    refine List.nodup_append.mpr ⟨H.2.2.2.1, by simp, fun x hx y hy => ?_⟩
    obtain ⟨p, hp, rfl⟩ := List.mem_map.mp hx
    have ey : y = h.size := by simpa using hy
    intro e
    rw [ey] at e
    exact Nat.lt_irrefl _ (Nat.lt_of_le_of_lt (Nat.le_of_eq e.symm) (lt p hp))
/-- one place of the i-th is written -/
theorem HI.wr {sl : Nat} {o' : Ob} (H : HI Z EL vm h n0 O RO FZ) (hal : Z.vm.Alike vm) (hi : O[i]? = some (a, o)) (W : Wr h h' a sl v) (F : Is Z h' a o') : HI Z EL vm h' n0 (O.set i (a, o')) RO FZ := by
  obtain ⟨h1, h2, h3, h4, h5, h6⟩ := H
  have hm := List.mem_of_getElem? hi
  have S := (h3 _ hm).2.2
  have G := (h3 _ hm).2.1
  have K := Keep.of_wr W
  have fst : (O.set i (a, o')).map (·.1) = O.map (·.1) := by rw [List.map_set]; exact set_same (x := a) (at_fst hi)
  have ap : ∀ x, Apart O x → Apart (O.set i (a, o')) x := fun x hA p hp => by
    have : p.1 ∈ (O.set i (a, o')).map (·.1) := List.mem_map.mpr ⟨p, hp, rfl⟩
    rw [fst] at this
    obtain ⟨p', q1, q2⟩ := List.mem_map.mp this
    rw [← q2]; exact hA p' q1
  have st : ∀ x, x < h.size → x ≠ a → h'[x]? = h[x]? := fun x hx hn => same_keep K hx fun z => hn (List.mem_singleton.mp z)
  have lx : ∀ y, LitX Z EL vm h y → LitX Z EL vm h' y := fun y L => L.step fun y hy L => st y hy fun e => L.ne hal h2 S e.symm
  refine ⟨⟨by rw [W.size]; exact h1.1, fun x c q => K.2.1 x c (h1.2 x c q) fun z => ?_⟩, h2.wr W S, fun p hp => ?_, by rw [fst]; exact h4, fun q hq => (h5 q hq).step fun x hx hA => ⟨st x hx fun e => hA _ hm e.symm, ap x hA⟩, fun q hq => (h6 q hq).step fun x hx hA => ⟨st x hx fun e => hA.1 _ hm e.symm, ap x hA.1, hA.2.imp id (lx x)⟩⟩
  · have e := List.mem_singleton.mp z
    have l1 := (Array.getElem?_eq_some_iff.mp q).1
    rw [e] at l1
    exact Nat.lt_irrefl _ (Nat.lt_of_lt_of_le l1 G)
  · obtain ⟨j, hj⟩ := List.mem_iff_getElem?.mp hp
    by_cases e : i = j
    · subst e
      rw [List.getElem?_set_self (List.getElem?_eq_some_iff.mp hi).1] at hj
      cases hj
      exact ⟨F, G, Safe.wr W S h2 S⟩
    · rw [List.getElem?_set_ne e] at hj
      have hpO := List.mem_of_getElem? hj
      have hne : p.1 ≠ a := fun q => by
        have a1 := at_fst hi
        have a2 := at_fst hj
        rw [q] at a2
        exact e (nodup_at h4 a1 a2)
      exact ⟨(h3 p hpO).1.other W hne, (h3 p hpO).2.1, Safe.wr W S h2 (h3 p hpO).2.2⟩
/-- the tables warm, the heap stands -/
theorem HI.later (hZ : Z.Warmed39 vm) (hW : (Wst Z vm h).Warmed39 vm1) (w : EW Z a0 EL) (C : CHr Z EL vm h vm1 h) (H : HI Z EL vm h n0 O RO FZ) : HI Z EL vm1 h n0 O RO FZ := by
  obtain ⟨h1, h2, h3, h4, h5, h6⟩ := H
  exact ⟨h1, C.1, fun p hp => ⟨(h3 p hp).1, (h3 p hp).2.1, C.safe (h3 p hp).1.lt (h3 p hp).2.2⟩, h4, h5, fun q hq => (h6 q hq).imp fun x _ hA => ⟨hA.1, hA.2.imp id fun L => L.later hZ hW w⟩⟩
theorem HI.forget (H : HI Z EL vm h n0 O RO FZ) {RO' FZ' : HL} (hr : ∀ q ∈ RO', q ∈ RO) (hs : ∀ q ∈ FZ', q ∈ FZ) : HI Z EL vm h n0 O RO' FZ' := ⟨H.1, H.2.1, H.2.2.1, H.2.2.2.1, fun q hq => H.2.2.2.2.1 q (hr q hq), fun q hq => H.2.2.2.2.2 q (hs q hq)⟩
/-- what a callee is handed -/
theorem HI.call (H : HI Z EL vm h n0 O RO FZ) {n1 : Nat} {ip ir : List Nat} (hP : pick O ip = P) (hPR : pick (O ++ (RO ++ FZ)) ir = PR) (hn : ip.Nodup) (hd : ∀ j ∈ ir, j ∉ ip) : HI Z EL vm h n1 P PR [] := by
  subst hP hPR
  obtain ⟨h1, h2, h3, h4, h5, h6⟩ := id H
  have sub : ∀ x, Apart O x → Apart (pick O ip) x := fun x hA p hp => by
    obtain ⟨i, -, hi⟩ := mem_pick hp
    exact hA p (List.mem_of_getElem? hi)
  refine ⟨h1, h2, fun p hp => ?_, nodup_pick h4 hn, fun q hq => ?_, fun t ht => nomatch ht⟩
  · obtain ⟨i, -, hi⟩ := mem_pick hp
    exact h3 p (List.mem_of_getElem? hi)
  · obtain ⟨j, hj, hq⟩ := mem_pick hq
    by_cases hl : j < O.length
    · rw [List.getElem?_append_left hl] at hq
      refine Foot.of (h3 q (List.mem_of_getElem? hq)).1 fun p hp => ?_
      obtain ⟨i, hii, hi⟩ := mem_pick hp
      intro e
      have a1 := at_fst hi
      have a2 := at_fst hq
      rw [e] at a1
      exact hd j hj (nodup_at h4 a2 a1 ▸ hii)
    · rw [List.getElem?_append_right (by omega)] at hq
      rcases List.mem_append.mp (List.mem_of_getElem? hq) with q' | q'
      · exact (h5 q q').imp fun x _ hA => sub x hA
      · exact (h6 q q').imp fun x _ hA => sub x hA.1
/-- what it hands back -/
theorem HI.back (hZ : Z.Warmed39 vm) (hZ1 : Z.Warmed39 vm1) (hW : (Wst Z vm h).Warmed39 vm1) (w : EW Z a0 EL) (H : HI Z EL vm h n0 O RO FZ) (hn0 : n0 ≤ h.size) {ip : List Nat} (hP : pick O ip = P) (hn : ip.Nodup) (hl : ∀ i ∈ ip, i < O.length) (K : Keep h h' (P.map (·.1))) (C : CHr Z EL vm h vm1 h') (H' : HI Z EL vm1 h' h.size O' PR FN) (L : Lays P h O') :
    HI Z EL vm1 h' n0 (merge O ip O') RO (FZ ++ FN) := by
  subst hP
  obtain ⟨h1, h2, h3, h4, h5, h6⟩ := id H
  have hal := hZ.alike
  have plen : (pick O ip).length = ip.length := by
    clear L H' C K hn
    induction ip with
    | nil => rfl
    | cons i r ih =>
      unfold pick
      rw [List.getElem?_eq_getElem (hl i (List.mem_cons_self ..))]
      exact congrArg (· + 1) (ih fun j hj => hl j (List.mem_cons_of_mem _ hj))
  obtain ⟨L1, L2⟩ := L
  rw [plen] at L1 L2
  have Lf : (O'.take ip.length).map (·.1) = (pick O ip).map (·.1) := by rw [List.map_take]; exact L1
  have fst := put_fst hl Lf
  have xlen : (O'.take ip.length).length = ip.length := by have := congrArg List.length Lf; simpa [plen] using this
  have pnot : ∀ {j : Nat} {q : Addr × Ob}, O[j]? = some q → j ∉ ip → q.1 ∉ (pick O ip).map (·.1) := fun {j q} hj hni z => by
    obtain ⟨p, hp, e⟩ := List.mem_map.mp z
    obtain ⟨i, hii, hi⟩ := mem_pick hp
    have a1 := at_fst hi
    have a2 := at_fst hj
    rw [e] at a1
    exact hni (nodup_at h4 a2 a1 ▸ hii)
  have lt : ∀ p ∈ O, p.1 < h.size := fun p hp => (h3 p hp).1.lt
  have pO : ∀ x ∈ (pick O ip).map (·.1), ∃ p ∈ O, p.1 = x := fun x hx => by
    obtain ⟨p, hp, e⟩ := List.mem_map.mp hx
    obtain ⟨i, -, hi⟩ := mem_pick hp
    exact ⟨p, List.mem_of_getElem? hi, e⟩
  have adr : ∀ p ∈ merge O ip O', (∃ p' ∈ O, p'.1 = p.1) ∨ h.size ≤ p.1 := fun p hp => by
    rcases List.mem_append.mp hp with hp | hp
    · have : p.1 ∈ (put O ip (O'.take ip.length)).map (·.1) := List.mem_map.mpr ⟨p, hp, rfl⟩
      rw [fst] at this
      obtain ⟨p', q1, q2⟩ := List.mem_map.mp this
      exact Or.inl ⟨p', q1, q2⟩
    · exact Or.inr (L2 p hp)
  have ap : ∀ x, x < h.size → Apart O x → Apart (merge O ip O') x := fun x hx hA p hp => by
    rcases adr p hp with ⟨p', q1, q2⟩ | q1
    · rw [← q2]; exact hA p' q1
    · exact fun e => Nat.lt_irrefl _ (Nat.lt_of_lt_of_le hx (by rw [← e]; exact q1))
  have st : ∀ x, x < h.size → Apart O x → h'[x]? = h[x]? := fun x hx hA => same_keep K hx fun z => by
    obtain ⟨p, hp, e⟩ := pO _ z
    exact hA p hp e
  have hW' : (Wst Z vm h').Warmed39 vm1 := hW
  have lx : ∀ y, LitX Z EL vm h y → LitX Z EL vm1 h' y := fun y L => by
    refine LitX.later hZ hW' w (L.step fun y hy L => same_keep K hy fun z => ?_)
    obtain ⟨p, hp, e⟩ := pO _ z
    exact (LitX.ne hal h2 L (h3 p hp).2.2) e
  refine ⟨H'.1, H'.2.1, fun p hp => ?_, ?_, fun q hq => (h5 q hq).step fun x hx hA => ⟨st x hx hA, ap x hx hA⟩, fun q hq => ?_⟩
  · rcases List.mem_append.mp hp with hp | hp
    · rcases put_mem hp with hp | ⟨j, hj, hni⟩
      · exact H'.2.2.1 p (List.mem_of_mem_take hp)
      · have hpO := h3 p (List.mem_of_getElem? hj)
        exact ⟨hpO.1.keep K (pnot hj (hni xlen)), hpO.2.1, C.safe hpO.1.lt hpO.2.2⟩
    · exact H'.2.2.1 p (List.mem_of_mem_drop hp)
  · unfold merge
    rw [List.map_append, fst]
    refine List.nodup_append.mpr ⟨h4, ?_, fun x hx y hy => ?_⟩
    · rw [List.map_drop]
      exact H'.2.2.2.1.sublist (List.drop_sublist ..)
    · obtain ⟨p, hp, rfl⟩ := List.mem_map.mp hx
      obtain ⟨q, hq, rfl⟩ := List.mem_map.mp hy
      show p.1 ≠ q.1
      exact fun e => Nat.lt_irrefl _ (Nat.lt_of_lt_of_le (lt p hp) (by rw [e]; exact L2 q hq))
  · rcases List.mem_append.mp hq with hq | hq
    · exact (h6 q hq).step fun x hx hA => ⟨st x hx hA.1, ap x hx hA.1, hA.2.imp id (lx x)⟩
    · refine (H'.2.2.2.2.2 q hq).imp fun x hx hA => ⟨fun p hp => ?_, hA.2.imp (fun q => Nat.le_trans hn0 q) id⟩
      rcases List.mem_append.mp hp with hp | hp
      · rcases put_mem hp with hp | ⟨j, hj, hni⟩
        · exact hA.1 p (List.mem_of_mem_take hp)
        · have hpO := h3 p (List.mem_of_getElem? hj)
          rcases hA.2 with q | q
          · exact fun e => Nat.lt_irrefl _ (Nat.lt_of_lt_of_le hpO.1.lt (by rw [e]; exact q))
          · exact LitX.ne hZ1.alike H'.2.1 q (C.safe hpO.1.lt hpO.2.2)
      · exact hA.1 p (List.mem_of_mem_drop hp)
/-- an old thing joins what is only read -/
theorem HI.old (H : HI Z EL vm h n0 O RO FZ) (F : Is Z Z.heap a o) : HI Z EL vm h n0 O (RO ++ [(a, o)]) FZ :=
  ⟨H.1, H.2.1, H.2.2.1, H.2.2.2.1, fun q hq => by
    rcases List.mem_append.mp hq with hq | hq
    · exact H.2.2.2.2.1 q hq
    · cases List.mem_singleton.mp hq
      refine Foot.of (F.ext H.1) fun p hp e => ?_
      have l1 := (H.2.2.1 p hp).2.1
      rw [e] at l1
      exact Nat.lt_irrefl _ (Nat.lt_of_lt_of_le F.lt l1), H.2.2.2.2.2⟩
/-- a String constant joins what is only read -/
theorem HI.lit {vs : List Value} (hal : Z.vm.Alike vm) (H : HI Z EL vm h n0 O RO FZ) (L : LitI Z EL vm h (a, b, vs)) : HI Z EL vm h n0 O RO (FZ ++ [(a, sO b), (b, aO .byte vs)]) :=
  ⟨H.1, H.2.1, H.2.2.1, H.2.2.2.1, H.2.2.2.2.1, fun q hq => by
    have ap : ∀ x, (x = a ∨ x = b) → Mine Z EL vm h n0 O x := fun x hx => ⟨fun p hp => by
      have := L.ne hal H.2.1 (H.2.2.1 p hp).2.2
      rcases hx with rfl | rfl
      · exact this.1
      · exact this.2, Or.inr ⟨_, L, hx⟩⟩
    rcases List.mem_append.mp hq with hq | hq
    · exact H.2.2.2.2.2 q hq
    · rcases List.mem_cons.mp hq with rfl | hq
      · exact Foot.of L.1 (ap _ (Or.inl rfl))
      · rw [List.mem_singleton.mp hq]; exact Foot.of L.2.1 (ap _ (Or.inr rfl))⟩
/-- what was made is only read from here on -/
theorem HI.freeze (H : HI Z EL vm h n0 O RO FZ) (hi : O[i]? = some (a, o)) (ha : n0 ≤ a) : HI Z EL vm h n0 (O.eraseIdx i) RO (FZ ++ [(a, o)]) := by
  obtain ⟨h1, h2, h3, h4, h5, h6⟩ := H
  have sub : ∀ p ∈ O.eraseIdx i, p ∈ O := fun p hp => List.mem_of_mem_eraseIdx hp
  have ap : ∀ x, Apart O x → Apart (O.eraseIdx i) x := fun x hA p hp => hA p (sub p hp)
  refine ⟨h1, h2, fun p hp => h3 p (sub p hp), ?_, fun q hq => (h5 q hq).imp fun x _ hA => ap x hA, fun q hq => ?_⟩
  · exact h4.sublist (List.Sublist.map _ (List.eraseIdx_sublist ..))
  · rcases List.mem_append.mp hq with hq | hq
    · exact (h6 q hq).imp fun x _ hA => ⟨ap x hA.1, hA.2⟩
    · rw [List.mem_singleton.mp hq]
      refine Foot.of (h3 _ (List.mem_of_getElem? hi)).1 ⟨fun p hp e => ?_, Or.inl ha⟩
      obtain ⟨j, hj⟩ := List.mem_iff_getElem?.mp hp
      rw [List.getElem?_eraseIdx] at hj
      have a1 := at_fst hi
      split at hj
      · have a2 := at_fst hj
        rw [e] at a2
        have := nodup_at h4 a1 a2
        omega
      · have a2 := at_fst hj
        rw [e] at a2
        have := nodup_at h4 a1 a2
        omega
/-- a String's two cells, told as its chars -/
theorem HI.str (H : HI Z EL vm h n0 O RO FZ) (hi : FZ[i]? = some (a, sO b)) (hj : FZ[j]? = some (b, bO cs)) (hc : ∀ x ∈ cs, Lat x) : HI Z EL vm h n0 O RO (FZ ++ [(a, tO cs)]) :=
  ⟨H.1, H.2.1, H.2.2.1, H.2.2.2.1, H.2.2.2.2.1, fun q hq => by
    rcases List.mem_append.mp hq with hq | hq
    · exact H.2.2.2.2.2 q hq
    · rw [List.mem_singleton.mp hq]
      obtain ⟨f1, f2⟩ := H.2.2.2.2.2 _ (List.mem_of_getElem? hi)
      obtain ⟨g1, g2⟩ := H.2.2.2.2.2 _ (List.mem_of_getElem? hj)
      exact ⟨f1, hc, b, g1, f2, g2⟩⟩
/-- .. and back -/
theorem HI.openR (H : HI Z EL vm h n0 O RO FZ) (hi : RO[i]? = some (a, tO cs)) : (∀ x ∈ cs, Lat x) ∧ ∃ b, HI Z EL vm h n0 O (RO ++ [(a, sO b), (b, bO cs)]) FZ := by
  obtain ⟨f1, f2, b, f3, f4, f5⟩ := H.2.2.2.2.1 _ (List.mem_of_getElem? hi)
  refine ⟨f2, b, H.1, H.2.1, H.2.2.1, H.2.2.2.1, fun q hq => ?_, H.2.2.2.2.2⟩
  rcases List.mem_append.mp hq with hq | hq
  · exact H.2.2.2.2.1 q hq
  · rcases List.mem_cons.mp hq with rfl | hq
    · exact Foot.of f4 f1
    · rw [List.mem_singleton.mp hq]; exact Foot.of f5 f3
theorem HI.openF (H : HI Z EL vm h n0 O RO FZ) (hi : FZ[i]? = some (a, tO cs)) : (∀ x ∈ cs, Lat x) ∧ ∃ b, HI Z EL vm h n0 O RO (FZ ++ [(a, sO b), (b, bO cs)]) := by
  obtain ⟨f1, f2, b, f3, f4, f5⟩ := H.2.2.2.2.2 _ (List.mem_of_getElem? hi)
  refine ⟨f2, b, H.1, H.2.1, H.2.2.1, H.2.2.2.1, H.2.2.2.2.1, fun q hq => ?_⟩
  rcases List.mem_append.mp hq with hq | hq
  · exact H.2.2.2.2.2 q hq
  · rcases List.mem_cons.mp hq with rfl | hq
    · exact Foot.of f4 f1
    · rw [List.mem_singleton.mp hq]; exact Foot.of f5 f3
end All
end Jvm.Own

namespace Jvm.Own
open Jvm Jvm.ClassFile Sem Op Lib Bundle Jvm.Free Jvm.Stand Jvm.LawKit Jvm.RoadKit
open Jvm.Free.XT (ushr ushrL cmpL)
/-! The framework, part 2: where a walk stands, and its steps. -/
def Goes (p : Program) (e : Env) (below : List Frame) (Post : Outcome → State → Prop) (S : State) : Prop := ∃ s₂ o, Steps p.tables e below S s₂ ∧ s₂.status = .running ∧ Ended s₂ below o ∧ Post o s₂
theorem Goes.pre {p : Program} {e : Env} {below : List Frame} {Post : Outcome → State → Prop} {S S' : State} (g : Goes p e below Post S') (k : ∀ t, Steps p.tables e below S' t → Steps p.tables e below S t) : Goes p e below Post S := by
  obtain ⟨t, o, h1, h2⟩ := g; exact ⟨t, o, k t h1, h2⟩
def Ctx (EL : List (String × Nat)) (Z : State) (name : String) (bytes : ByteArray) (maxL : Nat) (ret : Option FieldType) (p : Program) (meth : Method) (c : Code) : Prop :=
  p.tables.exec = Jvm.exec ∧ c.code = bytes ∧ c.maxLocals = maxL ∧ meth.sig.returnType = ret ∧ meth.locks = false ∧ meth.name = name ∧ ∃ a0, EW Z a0 EL
/-- where the walk of a body stands -/
def Now (nar : Bool) (EL : List (String × Nat)) (Z : State) (own name : String) (bytes : ByteArray) (maxL : Nat) (ret : Option FieldType) (p : Program) (l : Launch) (e : Env) (R : Room) (s : State) (m : MethodId) (args : Array Value) (below : List Frame) (meth : Method) (c : Code) (P : HL)
    (vm : Vm) (T : State) (k n : Nat) (O RO FZ : HL) : Prop :=
  Ctx EL Z name bytes maxL ret p meth c ∧ ∃ locs, Stand p l e R (s.setVm vm) m args below meth c T locs k n ∧ s.Since vm T.heap.size ∧ Z.Warmed39 vm ∧ vm.findClass own = some m.cls ∧ Fr Z.heap.size locs ∧ HI Z EL vm T.heap s.heap.size O RO FZ ∧ Keep s.heap T.heap (P.map (·.1)) ∧ CHr Z EL s.vm s.heap vm T.heap ∧ (nar = true → s.WarmedH vm) ∧ Lays P s.heap O
/-- what a body's end says -/
def Out (nar : Bool) (EL : List (String × Nat)) (Z : State) (P PR : HL) (Q : Option Value → HL → HL → Prop) (cells slots : Nat) (U : State) (o : Outcome) (U' : State) : Prop :=
  ∃ (v : Option Value) (L : List Loc) (O' FN : HL), o = .returned v ∧ Q v O' FN ∧ Fr Z.heap.size L ∧ HI Z EL U'.vm U'.heap U.heap.size O' PR FN ∧ Keep U.heap U'.heap (P.map (·.1)) ∧ Lays P U.heap O' ∧ CHr Z EL U.vm U.heap U'.vm U'.heap ∧ (nar = true → U.WarmedH U'.vm) ∧ ReturnedEndW U o U' L cells slots
/-- **a body's contract**: handed P (to write) and PR (to read), with these arguments, it returns; Q tells the value and what has become of P (new cells behind) -/
def ConW (nar : Bool) (EL : List (String × Nat)) (l : Launch) (Z : State) (ws : List Cond) (y : MethodName) (bytes : ByteArray) (maxL : Nat) (ret : Option FieldType) (rm : Room) (as' : List Value) (P PR : HL) (Q : Option Value → HL → HL → Prop) : Prop :=
  MetFree l y (head1 (Cond.code y bytes maxL ret :: ws) rm) (fun a U => a = as'.toArray ∧ Z.Warmed39 U.vm ∧ HI Z EL U.vm U.heap U.heap.size P PR []) (fun _ _ _ _ _ => True) (fun _ U o U' => Out nar EL Z P PR Q rm.cells rm.slots U o U')
abbrev Con (nar : Bool) (EL : List (String × Nat)) (l : Launch) (Z : State) (y : MethodName) (bytes : ByteArray) (maxL : Nat) (ret : Option FieldType) (rm : Room) (as' : List Value) (P PR : HL) (Q : Option Value → HL → HL → Prop) : Prop := ConW nar EL l Z [] y bytes maxL ret rm as' P PR Q
section Steps
variable {nar : Bool} {EL : List (String × Nat)} {Z : State} {a0 : Array Value} {own name : String} {bytes : ByteArray} {maxL : Nat} {ret : Option FieldType} {p : Program} {l : Launch} {e : Env} {R : Room} {s : State} {m : MethodId} {args : Array Value} {below : List Frame} {meth : Method} {c : Code} {P O RO O' RO' FZ FZ' : HL}
variable {vm : Vm} {T : State} {k n : Nat} {Post : Outcome → State → Prop} {pc : Nat} {Ls : Array Slot} {st : List Value}

theorem Now.cast (N : Now nar EL Z own name bytes maxL ret p l e R s m args below meth c P vm T k n O RO FZ) (h : O = O') : Now nar EL Z own name bytes maxL ret p l e R s m args below meth c P vm T k n O' RO FZ := h ▸ N
theorem Now.cast3 (N : Now nar EL Z own name bytes maxL ret p l e R s m args below meth c P vm T k n O RO FZ) (h : O = O') (h2 : RO = RO') (h3 : FZ = FZ') : Now nar EL Z own name bytes maxL ret p l e R s m args below meth c P vm T k n O' RO' FZ' := h ▸ h2 ▸ h3 ▸ N
theorem Now.more (N : Now nar EL Z own name bytes maxL ret p l e R s m args below meth c P vm T k n O RO FZ) {k' n' : Nat} (h1 : k ≤ k') (h2 : n ≤ n') : Now nar EL Z own name bytes maxL ret p l e R s m args below meth c P vm T k' n' O RO FZ := by
  obtain ⟨C, locs, X, r⟩ := N; exact ⟨C, locs, X.mono h1 h2, r⟩
theorem Now.forget (N : Now nar EL Z own name bytes maxL ret p l e R s m args below meth c P vm T k n O RO FZ) (hr : ∀ q ∈ RO', q ∈ RO) (hs : ∀ q ∈ FZ', q ∈ FZ) : Now nar EL Z own name bytes maxL ret p l e R s m args below meth c P vm T k n O RO' FZ' := by
  obtain ⟨C, locs, X, h1, h2, h3, h4, H, r⟩ := N; exact ⟨C, locs, X, h1, h2, h3, h4, H.forget hr hs, r⟩
theorem Now.either (N : Now nar EL Z own name bytes maxL ret p l e R s m args below meth c P vm T k n O RO FZ) {w : Addr} {q : Ob} {FN : HL} (hF : FZ = FZ' ++ FN) (h : FN = [(w, q)] ∨ (FN = [] ∧ (w, q) ∈ FZ')) : Now nar EL Z own name bytes maxL ret p l e R s m args below meth c P vm T k n O RO (FZ' ++ [(w, q)]) := by
  subst hF
  rcases h with rfl | ⟨rfl, h⟩
  · exact N
  · rw [List.append_nil] at N; exact N.forget (fun _ h => h) (fun z hz => (List.mem_append.mp hz).elim id (fun hz => by rw [List.mem_singleton.mp hz]; exact h))
theorem Now.str (N : Now nar EL Z own name bytes maxL ret p l e R s m args below meth c P vm T k n O RO FZ) {a b : Addr} {cs : List Int32} (i j : Nat) (hi : FZ[i]? = some (a, sO b)) (hj : FZ[j]? = some (b, bO cs)) (hc : ∀ x ∈ cs, Lat x) : Now nar EL Z own name bytes maxL ret p l e R s m args below meth c P vm T k n O RO (FZ ++ [(a, tO cs)]) := by
  obtain ⟨C, locs, X, h1, h2, h3, h4, H, r⟩ := N; exact ⟨C, locs, X, h1, h2, h3, h4, H.str hi hj hc, r⟩
theorem Now.openR (N : Now nar EL Z own name bytes maxL ret p l e R s m args below meth c P vm T k n O RO FZ) {a : Addr} {cs : List Int32} (i : Nat) (hi : RO[i]? = some (a, tO cs)) : (∀ x ∈ cs, Lat x) ∧ ∃ b, Now nar EL Z own name bytes maxL ret p l e R s m args below meth c P vm T k n O (RO ++ [(a, sO b), (b, bO cs)]) FZ := by
  obtain ⟨C, locs, X, h1, h2, h3, h4, H, r⟩ := N
  obtain ⟨hc, b, H'⟩ := H.openR hi
  exact ⟨hc, b, C, locs, X, h1, h2, h3, h4, H', r⟩
theorem Now.openF (N : Now nar EL Z own name bytes maxL ret p l e R s m args below meth c P vm T k n O RO FZ) {a : Addr} {cs : List Int32} (i : Nat) (hi : FZ[i]? = some (a, tO cs)) : (∀ x ∈ cs, Lat x) ∧ ∃ b, Now nar EL Z own name bytes maxL ret p l e R s m args below meth c P vm T k n O RO (FZ ++ [(a, sO b), (b, bO cs)]) := by
  obtain ⟨C, locs, X, h1, h2, h3, h4, H, r⟩ := N
  obtain ⟨hc, b, H'⟩ := H.openF hi
  exact ⟨hc, b, C, locs, X, h1, h2, h3, h4, H', r⟩
theorem Now.old (N : Now nar EL Z own name bytes maxL ret p l e R s m args below meth c P vm T k n O RO FZ) {a : Addr} {o : Ob} (F : Is Z Z.heap a o) : Now nar EL Z own name bytes maxL ret p l e R s m args below meth c P vm T k n O (RO ++ [(a, o)]) FZ := by
  obtain ⟨C, locs, X, h1, h2, h3, h4, H, r⟩ := N; exact ⟨C, locs, X, h1, h2, h3, h4, H.old F, r⟩
theorem Now.is (N : Now nar EL Z own name bytes maxL ret p l e R s m args below meth c P vm T k n O RO FZ) {i : Nat} {a : Addr} {o : Ob} (hi : (O ++ (RO ++ FZ))[i]? = some (a, o)) : Foot (fun _ => True) Z T.heap (a, o) := by
  obtain ⟨C, locs, X, h1, h2, h3, h4, H, r⟩ := N; exact H.at hi
theorem Now.nodup (N : Now nar EL Z own name bytes maxL ret p l e R s m args below meth c P vm T k n O RO FZ) : (O.map (·.1)).Nodup := by
  obtain ⟨C, locs, X, h1, h2, h3, h4, H, r⟩ := N; exact H.2.2.2.1
theorem Now.apart (N : Now nar EL Z own name bytes maxL ret p l e R s m args below meth c P vm T k n O RO FZ) {i j : Nat} {a b : Addr} {o o' : Ob} (hi : O[i]? = some (a, o)) (hj : O[j]? = some (b, o')) (hn : i ≠ j) : a ≠ b := fun q => by
  have a1 := at_fst hi
  have a2 := at_fst hj
  have a1' : (O.map (·.1))[i]? = some a := a1
  have a2' : (O.map (·.1))[j]? = some a := by rw [q]; exact a2
  exact hn (nodup_at N.nodup a1' a2')
theorem Now.aloadN (N : Now nar EL Z own name bytes maxL ret p l e R s m args below meth c P vm T k n O RO FZ) {j : Fin 4} {v : Value} (hd : decode bytes pc = .ok (.aload_n j, 1)) (hl : Ls[j.val]? = some (.val v)) (hv : v.isRef = true) (g : Goes p e below Post (T.setTop (mkF m (pc + 1) Ls (v :: st)))) : Goes p e below Post (T.setTop (mkF m pc Ls st)) := by
  obtain ⟨⟨hx, hby, -⟩, locs, X, -⟩ := N
  exact g.pre fun t q => XS.aloadN X.here hx rfl (hb hby hd) hl hv q
theorem Now.aload (N : Now nar EL Z own name bytes maxL ret p l e R s m args below meth c P vm T k n O RO FZ) {j : Nat} {v : Value} (hd : decode bytes pc = .ok (.aload j, 2)) (hl : Ls[j]? = some (.val v)) (hv : v.isRef = true) (g : Goes p e below Post (T.setTop (mkF m (pc + 2) Ls (v :: st)))) : Goes p e below Post (T.setTop (mkF m pc Ls st)) := by
  obtain ⟨⟨hx, hby, -⟩, locs, X, -⟩ := N
  exact g.pre fun t q => XS.aload X.here hx rfl (hb hby hd) hl hv q
theorem Now.iloadN (N : Now nar EL Z own name bytes maxL ret p l e R s m args below meth c P vm T k n O RO FZ) {j : Fin 4} {v : Int32} (hd : decode bytes pc = .ok (.iload_n j, 1)) (hl : Ls[j.val]? = some (.val (.int v))) (g : Goes p e below Post (T.setTop (mkF m (pc + 1) Ls (.int v :: st)))) : Goes p e below Post (T.setTop (mkF m pc Ls st)) := by
  obtain ⟨⟨hx, hby, -⟩, locs, X, -⟩ := N
  exact g.pre fun t q => XS.iloadN X.here hx rfl (hb hby hd) hl q
theorem Now.iload (N : Now nar EL Z own name bytes maxL ret p l e R s m args below meth c P vm T k n O RO FZ) {j : Nat} {v : Int32} (hd : decode bytes pc = .ok (.iload j, 2)) (hl : Ls[j]? = some (.val (.int v))) (g : Goes p e below Post (T.setTop (mkF m (pc + 2) Ls (.int v :: st)))) : Goes p e below Post (T.setTop (mkF m pc Ls st)) := by
  obtain ⟨⟨hx, hby, -⟩, locs, X, -⟩ := N
  exact g.pre fun t q => XS.iload X.here hx rfl (hb hby hd) hl q
theorem Now.lloadN (N : Now nar EL Z own name bytes maxL ret p l e R s m args below meth c P vm T k n O RO FZ) {j : Fin 4} {v : Int64} (hd : decode bytes pc = .ok (.lload_n j, 1)) (hl : Ls[j.val]? = some (.val (.long v))) (g : Goes p e below Post (T.setTop (mkF m (pc + 1) Ls (.long v :: st)))) : Goes p e below Post (T.setTop (mkF m pc Ls st)) := by
  obtain ⟨⟨hx, hby, -⟩, locs, X, -⟩ := N
  exact g.pre fun t q => XT.lloadN X.here hx rfl (hb hby hd) hl q
theorem Now.lload (N : Now nar EL Z own name bytes maxL ret p l e R s m args below meth c P vm T k n O RO FZ) {j : Nat} {v : Int64} (hd : decode bytes pc = .ok (.lload j, 2)) (hl : Ls[j]? = some (.val (.long v))) (g : Goes p e below Post (T.setTop (mkF m (pc + 2) Ls (.long v :: st)))) : Goes p e below Post (T.setTop (mkF m pc Ls st)) := by
  obtain ⟨⟨hx, hby, -⟩, locs, X, -⟩ := N
  exact g.pre fun t q => XT.lload X.here hx rfl (hb hby hd) hl q
theorem Now.iconst (N : Now nar EL Z own name bytes maxL ret p l e R s m args below meth c P vm T k n O RO FZ) {i : Int} (v : Int32) (hd : decode bytes pc = .ok (.iconst i, 1)) (hv : Int32.ofInt i = v) (g : Goes p e below Post (T.setTop (mkF m (pc + 1) Ls (.int v :: st)))) : Goes p e below Post (T.setTop (mkF m pc Ls st)) := by
  obtain ⟨⟨hx, hby, -⟩, locs, X, -⟩ := N
  exact g.pre fun t q => XT.iconstV X.here hx rfl v (hb hby hd) hv q
theorem Now.bipush (N : Now nar EL Z own name bytes maxL ret p l e R s m args below meth c P vm T k n O RO FZ) {i : Int} (v : Int32) (hd : decode bytes pc = .ok (.bipush i, 2)) (hv : (Int8.ofInt i).toInt32 = v) (g : Goes p e below Post (T.setTop (mkF m (pc + 2) Ls (.int v :: st)))) : Goes p e below Post (T.setTop (mkF m pc Ls st)) := by
  obtain ⟨⟨hx, hby, -⟩, locs, X, -⟩ := N
  exact g.pre fun t q => XT.bipushV X.here hx rfl v (hb hby hd) hv q
theorem Now.sipush (N : Now nar EL Z own name bytes maxL ret p l e R s m args below meth c P vm T k n O RO FZ) {i : Int} (v : Int32) (hd : decode bytes pc = .ok (.sipush i, 3)) (hv : (Int16.ofInt i).toInt32 = v) (g : Goes p e below Post (T.setTop (mkF m (pc + 3) Ls (.int v :: st)))) : Goes p e below Post (T.setTop (mkF m pc Ls st)) := by
  obtain ⟨⟨hx, hby, -⟩, locs, X, -⟩ := N
  exact g.pre fun t q => XT.sipushV X.here hx rfl v (hb hby hd) hv q
theorem Now.lconst (N : Now nar EL Z own name bytes maxL ret p l e R s m args below meth c P vm T k n O RO FZ) {j : Fin 2} (v : Int64) (hd : decode bytes pc = .ok (.lconst j, 1)) (hv : Int64.ofNat j = v) (g : Goes p e below Post (T.setTop (mkF m (pc + 1) Ls (.long v :: st)))) : Goes p e below Post (T.setTop (mkF m pc Ls st)) := by
  obtain ⟨⟨hx, hby, -⟩, locs, X, -⟩ := N
  exact g.pre fun t q => XT.lconstV X.here hx rfl v (hb hby hd) hv q
theorem Now.aconst (N : Now nar EL Z own name bytes maxL ret p l e R s m args below meth c P vm T k n O RO FZ)  (hd : decode bytes pc = .ok (.aconst_null, 1)) (g : Goes p e below Post (T.setTop (mkF m (pc + 1) Ls (.null :: st)))) : Goes p e below Post (T.setTop (mkF m pc Ls st)) := by
  obtain ⟨⟨hx, hby, -⟩, locs, X, -⟩ := N
  exact g.pre fun t q => XS.aconstNull X.here hx rfl (hb hby hd) q
theorem Now.iadd (N : Now nar EL Z own name bytes maxL ret p l e R s m args below meth c P vm T k n O RO FZ) {x y : Int32} (hd : decode bytes pc = .ok (.iadd, 1)) (g : Goes p e below Post (T.setTop (mkF m (pc + 1) Ls (.int (x + y) :: st)))) : Goes p e below Post (T.setTop (mkF m pc Ls (.int y :: .int x :: st))) := by
  obtain ⟨⟨hx, hby, -⟩, locs, X, -⟩ := N
  exact g.pre fun t q => XS.iadd X.here hx rfl (hb hby hd) rfl q
theorem Now.isub (N : Now nar EL Z own name bytes maxL ret p l e R s m args below meth c P vm T k n O RO FZ) {x y : Int32} (hd : decode bytes pc = .ok (.isub, 1)) (g : Goes p e below Post (T.setTop (mkF m (pc + 1) Ls (.int (x - y) :: st)))) : Goes p e below Post (T.setTop (mkF m pc Ls (.int y :: .int x :: st))) := by
  obtain ⟨⟨hx, hby, -⟩, locs, X, -⟩ := N
  exact g.pre fun t q => XS.isub X.here hx rfl (hb hby hd) rfl q
theorem Now.iand (N : Now nar EL Z own name bytes maxL ret p l e R s m args below meth c P vm T k n O RO FZ) {x y : Int32} (hd : decode bytes pc = .ok (.iand, 1)) (g : Goes p e below Post (T.setTop (mkF m (pc + 1) Ls (.int (x &&& y) :: st)))) : Goes p e below Post (T.setTop (mkF m pc Ls (.int y :: .int x :: st))) := by
  obtain ⟨⟨hx, hby, -⟩, locs, X, -⟩ := N
  exact g.pre fun t q => XS.iand X.here hx rfl (hb hby hd) rfl q
theorem Now.imul (N : Now nar EL Z own name bytes maxL ret p l e R s m args below meth c P vm T k n O RO FZ) {x y : Int32} (hd : decode bytes pc = .ok (.imul, 1)) (g : Goes p e below Post (T.setTop (mkF m (pc + 1) Ls (.int (x * y) :: st)))) : Goes p e below Post (T.setTop (mkF m pc Ls (.int y :: .int x :: st))) := by
  obtain ⟨⟨hx, hby, -⟩, locs, X, -⟩ := N
  exact g.pre fun t q => XS.imul X.here hx rfl (hb hby hd) rfl q
theorem Now.ixor (N : Now nar EL Z own name bytes maxL ret p l e R s m args below meth c P vm T k n O RO FZ) {x y : Int32} (hd : decode bytes pc = .ok (.ixor, 1)) (g : Goes p e below Post (T.setTop (mkF m (pc + 1) Ls (.int (x ^^^ y) :: st)))) : Goes p e below Post (T.setTop (mkF m pc Ls (.int y :: .int x :: st))) := by
  obtain ⟨⟨hx, hby, -⟩, locs, X, -⟩ := N
  exact g.pre fun t q => XT.ixor X.here hx rfl (hb hby hd) rfl q
theorem Now.ior (N : Now nar EL Z own name bytes maxL ret p l e R s m args below meth c P vm T k n O RO FZ) {x y : Int32} (hd : decode bytes pc = .ok (.ior, 1)) (g : Goes p e below Post (T.setTop (mkF m (pc + 1) Ls (.int (x ||| y) :: st)))) : Goes p e below Post (T.setTop (mkF m pc Ls (.int y :: .int x :: st))) := by
  obtain ⟨⟨hx, hby, -⟩, locs, X, -⟩ := N
  exact g.pre fun t q => XT.ior X.here hx rfl (hb hby hd) rfl q
theorem Now.ishl (N : Now nar EL Z own name bytes maxL ret p l e R s m args below meth c P vm T k n O RO FZ) {x y : Int32} (hd : decode bytes pc = .ok (.ishl, 1)) (g : Goes p e below Post (T.setTop (mkF m (pc + 1) Ls (.int (x <<< (y &&& 31)) :: st)))) : Goes p e below Post (T.setTop (mkF m pc Ls (.int y :: .int x :: st))) := by
  obtain ⟨⟨hx, hby, -⟩, locs, X, -⟩ := N
  exact g.pre fun t q => XT.ishl X.here hx rfl (hb hby hd) rfl q
theorem Now.ishr (N : Now nar EL Z own name bytes maxL ret p l e R s m args below meth c P vm T k n O RO FZ) {x y : Int32} (hd : decode bytes pc = .ok (.ishr, 1)) (g : Goes p e below Post (T.setTop (mkF m (pc + 1) Ls (.int (x >>> (y &&& 31)) :: st)))) : Goes p e below Post (T.setTop (mkF m pc Ls (.int y :: .int x :: st))) := by
  obtain ⟨⟨hx, hby, -⟩, locs, X, -⟩ := N
  exact g.pre fun t q => XT.ishr X.here hx rfl (hb hby hd) rfl q
theorem Now.iushr (N : Now nar EL Z own name bytes maxL ret p l e R s m args below meth c P vm T k n O RO FZ) {x y : Int32} (hd : decode bytes pc = .ok (.iushr, 1)) (g : Goes p e below Post (T.setTop (mkF m (pc + 1) Ls (.int (ushr x y) :: st)))) : Goes p e below Post (T.setTop (mkF m pc Ls (.int y :: .int x :: st))) := by
  obtain ⟨⟨hx, hby, -⟩, locs, X, -⟩ := N
  exact g.pre fun t q => XT.iushr X.here hx rfl (hb hby hd) rfl q
theorem Now.ladd (N : Now nar EL Z own name bytes maxL ret p l e R s m args below meth c P vm T k n O RO FZ) {x y : Int64} (hd : decode bytes pc = .ok (.ladd, 1)) (g : Goes p e below Post (T.setTop (mkF m (pc + 1) Ls (.long (x + y) :: st)))) : Goes p e below Post (T.setTop (mkF m pc Ls (.long y :: .long x :: st))) := by
  obtain ⟨⟨hx, hby, -⟩, locs, X, -⟩ := N
  exact g.pre fun t q => XT.ladd X.here hx rfl (hb hby hd) rfl q
theorem Now.lsub (N : Now nar EL Z own name bytes maxL ret p l e R s m args below meth c P vm T k n O RO FZ) {x y : Int64} (hd : decode bytes pc = .ok (.lsub, 1)) (g : Goes p e below Post (T.setTop (mkF m (pc + 1) Ls (.long (x - y) :: st)))) : Goes p e below Post (T.setTop (mkF m pc Ls (.long y :: .long x :: st))) := by
  obtain ⟨⟨hx, hby, -⟩, locs, X, -⟩ := N
  exact g.pre fun t q => XT.lsub X.here hx rfl (hb hby hd) rfl q
theorem Now.land (N : Now nar EL Z own name bytes maxL ret p l e R s m args below meth c P vm T k n O RO FZ) {x y : Int64} (hd : decode bytes pc = .ok (.land, 1)) (g : Goes p e below Post (T.setTop (mkF m (pc + 1) Ls (.long (x &&& y) :: st)))) : Goes p e below Post (T.setTop (mkF m pc Ls (.long y :: .long x :: st))) := by
  obtain ⟨⟨hx, hby, -⟩, locs, X, -⟩ := N
  exact g.pre fun t q => XT.land X.here hx rfl (hb hby hd) rfl q
theorem Now.lor (N : Now nar EL Z own name bytes maxL ret p l e R s m args below meth c P vm T k n O RO FZ) {x y : Int64} (hd : decode bytes pc = .ok (.lor, 1)) (g : Goes p e below Post (T.setTop (mkF m (pc + 1) Ls (.long (x ||| y) :: st)))) : Goes p e below Post (T.setTop (mkF m pc Ls (.long y :: .long x :: st))) := by
  obtain ⟨⟨hx, hby, -⟩, locs, X, -⟩ := N
  exact g.pre fun t q => XT.lor X.here hx rfl (hb hby hd) rfl q
theorem Now.lushr (N : Now nar EL Z own name bytes maxL ret p l e R s m args below meth c P vm T k n O RO FZ) {x : Int64} {y : Int32} (hd : decode bytes pc = .ok (.lushr, 1)) (g : Goes p e below Post (T.setTop (mkF m (pc + 1) Ls (.long (ushrL x y) :: st)))) : Goes p e below Post (T.setTop (mkF m pc Ls (.int y :: .long x :: st))) := by
  obtain ⟨⟨hx, hby, -⟩, locs, X, -⟩ := N
  exact g.pre fun t q => XT.lushr X.here hx rfl (hb hby hd) rfl q
theorem Now.lrem (N : Now nar EL Z own name bytes maxL ret p l e R s m args below meth c P vm T k n O RO FZ) {x y : Int64} (hd : decode bytes pc = .ok (.lrem, 1)) (hy : y ≠ 0) (g : Goes p e below Post (T.setTop (mkF m (pc + 1) Ls (.long (x - (x / y) * y) :: st)))) : Goes p e below Post (T.setTop (mkF m pc Ls (.long y :: .long x :: st))) := by
  obtain ⟨⟨hx, hby, -⟩, locs, X, -⟩ := N
  exact g.pre fun t q => XT.lrem X.here hx rfl (hb hby hd) rfl hy q
theorem Now.idiv (N : Now nar EL Z own name bytes maxL ret p l e R s m args below meth c P vm T k n O RO FZ) {x y : Int32} (hd : decode bytes pc = .ok (.idiv, 1)) (hy : y ≠ 0) (g : Goes p e below Post (T.setTop (mkF m (pc + 1) Ls (.int (x / y) :: st)))) : Goes p e below Post (T.setTop (mkF m pc Ls (.int y :: .int x :: st))) := by
  obtain ⟨⟨hx, hby, -⟩, locs, X, -⟩ := N
  exact g.pre fun t q => XS.idiv X.here hx rfl (hb hby hd) rfl hy q
theorem Now.irem (N : Now nar EL Z own name bytes maxL ret p l e R s m args below meth c P vm T k n O RO FZ) {x y : Int32} (hd : decode bytes pc = .ok (.irem, 1)) (hy : y ≠ 0) (g : Goes p e below Post (T.setTop (mkF m (pc + 1) Ls (.int (x % y) :: st)))) : Goes p e below Post (T.setTop (mkF m pc Ls (.int y :: .int x :: st))) := by
  obtain ⟨⟨hx, hby, -⟩, locs, X, -⟩ := N
  exact g.pre fun t q => iremM X hx rfl (hb hby hd) rfl hy q
theorem Now.ineg (N : Now nar EL Z own name bytes maxL ret p l e R s m args below meth c P vm T k n O RO FZ) {x : Int32} (hd : decode bytes pc = .ok (.ineg, 1)) (g : Goes p e below Post (T.setTop (mkF m (pc + 1) Ls (.int (-x) :: st)))) : Goes p e below Post (T.setTop (mkF m pc Ls (.int x :: st))) := by
  obtain ⟨⟨hx, hby, -⟩, locs, X, -⟩ := N
  exact g.pre fun t q => XS.ineg X.here hx rfl (hb hby hd) rfl q
theorem Now.i2l (N : Now nar EL Z own name bytes maxL ret p l e R s m args below meth c P vm T k n O RO FZ) {x : Int32} (hd : decode bytes pc = .ok (.i2l, 1)) (g : Goes p e below Post (T.setTop (mkF m (pc + 1) Ls (.long (x.toInt64) :: st)))) : Goes p e below Post (T.setTop (mkF m pc Ls (.int x :: st))) := by
  obtain ⟨⟨hx, hby, -⟩, locs, X, -⟩ := N
  exact g.pre fun t q => XT.i2l X.here hx rfl (hb hby hd) rfl q
theorem Now.l2i (N : Now nar EL Z own name bytes maxL ret p l e R s m args below meth c P vm T k n O RO FZ) {x : Int64} (hd : decode bytes pc = .ok (.l2i, 1)) (g : Goes p e below Post (T.setTop (mkF m (pc + 1) Ls (.int (x.toInt32) :: st)))) : Goes p e below Post (T.setTop (mkF m pc Ls (.long x :: st))) := by
  obtain ⟨⟨hx, hby, -⟩, locs, X, -⟩ := N
  exact g.pre fun t q => XT.l2i X.here hx rfl (hb hby hd) rfl q
theorem Now.i2b (N : Now nar EL Z own name bytes maxL ret p l e R s m args below meth c P vm T k n O RO FZ) {x : Int32} (hd : decode bytes pc = .ok (.i2b, 1)) (g : Goes p e below Post (T.setTop (mkF m (pc + 1) Ls (.int (x.toInt8.toInt32) :: st)))) : Goes p e below Post (T.setTop (mkF m pc Ls (.int x :: st))) := by
  obtain ⟨⟨hx, hby, -⟩, locs, X, -⟩ := N
  exact g.pre fun t q => XT.i2b X.here hx rfl (hb hby hd) rfl q
theorem Now.i2c (N : Now nar EL Z own name bytes maxL ret p l e R s m args below meth c P vm T k n O RO FZ) {x : Int32} (hd : decode bytes pc = .ok (.i2c, 1)) (g : Goes p e below Post (T.setTop (mkF m (pc + 1) Ls (.int (x.toUInt32.toUInt16.toUInt32.toInt32) :: st)))) : Goes p e below Post (T.setTop (mkF m pc Ls (.int x :: st))) := by
  obtain ⟨⟨hx, hby, -⟩, locs, X, -⟩ := N
  exact g.pre fun t q => XT.i2c X.here hx rfl (hb hby hd) rfl q
theorem Now.i2s (N : Now nar EL Z own name bytes maxL ret p l e R s m args below meth c P vm T k n O RO FZ) {x : Int32} (hd : decode bytes pc = .ok (.i2s, 1)) (g : Goes p e below Post (T.setTop (mkF m (pc + 1) Ls (.int (x.toInt16.toInt32) :: st)))) : Goes p e below Post (T.setTop (mkF m pc Ls (.int x :: st))) := by
  obtain ⟨⟨hx, hby, -⟩, locs, X, -⟩ := N
  exact g.pre fun t q => XT.i2s X.here hx rfl (hb hby hd) rfl q
theorem Now.lcmp (N : Now nar EL Z own name bytes maxL ret p l e R s m args below meth c P vm T k n O RO FZ) {x y : Int64} (hd : decode bytes pc = .ok (.lcmp, 1)) (g : Goes p e below Post (T.setTop (mkF m (pc + 1) Ls (.int (cmpL x y) :: st)))) : Goes p e below Post (T.setTop (mkF m pc Ls (.long y :: .long x :: st))) := by
  obtain ⟨⟨hx, hby, -⟩, locs, X, -⟩ := N
  exact g.pre fun t q => XT.lcmp X.here hx rfl (hb hby hd) rfl q
theorem Now.pop (N : Now nar EL Z own name bytes maxL ret p l e R s m args below meth c P vm T k n O RO FZ) {x : Value} (hd : decode bytes pc = .ok (.pop, 1)) (hc : x.category = 1) (g : Goes p e below Post (T.setTop (mkF m (pc + 1) Ls st))) : Goes p e below Post (T.setTop (mkF m pc Ls (x :: st))) := by
  obtain ⟨⟨hx, hby, -⟩, locs, X, -⟩ := N
  exact g.pre fun t q => XT.pop X.here hx rfl (hb hby hd) rfl hc q
theorem Now.dup (N : Now nar EL Z own name bytes maxL ret p l e R s m args below meth c P vm T k n O RO FZ) {x : Value} (hd : decode bytes pc = .ok (.dup, 1)) (hc : x.category = 1) (g : Goes p e below Post (T.setTop (mkF m (pc + 1) Ls (x :: x :: st)))) : Goes p e below Post (T.setTop (mkF m pc Ls (x :: st))) := by
  obtain ⟨⟨hx, hby, -⟩, locs, X, -⟩ := N
  exact g.pre fun t q => XS.dup X.here hx rfl (hb hby hd) rfl hc q
theorem Now.dupX1 (N : Now nar EL Z own name bytes maxL ret p l e R s m args below meth c P vm T k n O RO FZ) {x y : Value} (hd : decode bytes pc = .ok (.dup_x1, 1)) (hc : x.category = 1) (hc' : y.category = 1) (g : Goes p e below Post (T.setTop (mkF m (pc + 1) Ls (x :: y :: x :: st)))) : Goes p e below Post (T.setTop (mkF m pc Ls (x :: y :: st))) := by
  obtain ⟨⟨hx, hby, -⟩, locs, X, -⟩ := N
  exact g.pre fun t q => XT.dupX1 X.here hx rfl (hb hby hd) rfl hc hc' q
theorem Now.istoreN (N : Now nar EL Z own name bytes maxL ret p l e R s m args below meth c P vm T k n O RO FZ) {j : Fin 4} {x : Int32} {l' : Array Slot} (hd : decode bytes pc = .ok (.istore_n j, 1)) (hl : storeLocals Ls j.val (.int x) = some l') (g : Goes p e below Post (T.setTop (mkF m (pc + 1) l' st))) : Goes p e below Post (T.setTop (mkF m pc Ls (.int x :: st))) := by
  obtain ⟨⟨hx, hby, -⟩, locs, X, -⟩ := N
  exact g.pre fun t q => XS.istoreN X.here hx rfl (hb hby hd) rfl hl q
theorem Now.istore (N : Now nar EL Z own name bytes maxL ret p l e R s m args below meth c P vm T k n O RO FZ) {j : Nat} {x : Int32} {l' : Array Slot} (hd : decode bytes pc = .ok (.istore j, 2)) (hl : storeLocals Ls j (.int x) = some l') (g : Goes p e below Post (T.setTop (mkF m (pc + 2) l' st))) : Goes p e below Post (T.setTop (mkF m pc Ls (.int x :: st))) := by
  obtain ⟨⟨hx, hby, -⟩, locs, X, -⟩ := N
  exact g.pre fun t q => XS.istore X.here hx rfl (hb hby hd) rfl hl q
theorem Now.lstoreN (N : Now nar EL Z own name bytes maxL ret p l e R s m args below meth c P vm T k n O RO FZ) {j : Fin 4} {x : Int64} {l' : Array Slot} (hd : decode bytes pc = .ok (.lstore_n j, 1)) (hl : storeLocals Ls j.val (.long x) = some l') (g : Goes p e below Post (T.setTop (mkF m (pc + 1) l' st))) : Goes p e below Post (T.setTop (mkF m pc Ls (.long x :: st))) := by
  obtain ⟨⟨hx, hby, -⟩, locs, X, -⟩ := N
  exact g.pre fun t q => XT.lstoreN X.here hx rfl (hb hby hd) rfl hl q
theorem Now.lstore (N : Now nar EL Z own name bytes maxL ret p l e R s m args below meth c P vm T k n O RO FZ) {j : Nat} {x : Int64} {l' : Array Slot} (hd : decode bytes pc = .ok (.lstore j, 2)) (hl : storeLocals Ls j (.long x) = some l') (g : Goes p e below Post (T.setTop (mkF m (pc + 2) l' st))) : Goes p e below Post (T.setTop (mkF m pc Ls (.long x :: st))) := by
  obtain ⟨⟨hx, hby, -⟩, locs, X, -⟩ := N
  exact g.pre fun t q => XT.lstore X.here hx rfl (hb hby hd) rfl hl q
theorem Now.astoreN (N : Now nar EL Z own name bytes maxL ret p l e R s m args below meth c P vm T k n O RO FZ) {j : Fin 4} {x : Value} {l' : Array Slot} (hd : decode bytes pc = .ok (.astore_n j, 1)) (hv : x.isRef = true) (hl : storeLocals Ls j.val x = some l') (g : Goes p e below Post (T.setTop (mkF m (pc + 1) l' st))) : Goes p e below Post (T.setTop (mkF m pc Ls (x :: st))) := by
  obtain ⟨⟨hx, hby, -⟩, locs, X, -⟩ := N
  exact g.pre fun t q => XS.astoreN X.here hx rfl (hb hby hd) rfl hv hl q
theorem Now.astore (N : Now nar EL Z own name bytes maxL ret p l e R s m args below meth c P vm T k n O RO FZ) {j : Nat} {x : Value} {l' : Array Slot} (hd : decode bytes pc = .ok (.astore j, 2)) (hv : x.isRef = true) (hl : storeLocals Ls j x = some l') (g : Goes p e below Post (T.setTop (mkF m (pc + 2) l' st))) : Goes p e below Post (T.setTop (mkF m pc Ls (x :: st))) := by
  obtain ⟨⟨hx, hby, -⟩, locs, X, -⟩ := N
  exact g.pre fun t q => XS.astore X.here hx rfl (hb hby hd) rfl hv hl q
theorem Now.iinc (N : Now nar EL Z own name bytes maxL ret p l e R s m args below meth c P vm T k n O RO FZ) {j : Nat} {i : Int} {x : Int32} {l' : Array Slot} (v : Int32) (hd : decode bytes pc = .ok (.iinc j i, 3)) (hv : Int32.ofInt i = v) (hl : Ls[j]? = some (.val (.int x))) (hl' : storeLocals Ls j (.int (x + v)) = some l') (g : Goes p e below Post (T.setTop (mkF m (pc + 3) l' st))) : Goes p e below Post (T.setTop (mkF m pc Ls st)) := by
  obtain ⟨⟨hx, hby, -⟩, locs, X, -⟩ := N
  exact g.pre fun t q => XT.iincV X.here hx rfl v (hb hby hd) hv hl hl' q
theorem Now.goto (N : Now nar EL Z own name bytes maxL ret p l e R s m args below meth c P vm T k n O RO FZ) {o : Int} {pc' : Nat} (hd : decode bytes pc = .ok (.goto o, 3)) (hp : (pc : Int) + o = (pc' : Int)) (g : Goes p e below Post (T.setTop (mkF m pc' Ls st))) : Goes p e below Post (T.setTop (mkF m pc Ls st)) := by
  obtain ⟨⟨hx, hby, -⟩, locs, X, -⟩ := N
  exact g.pre fun t q => XS.goto X.here hx rfl (pc0 := pc) rfl (hb hby hd) (by omega) (by omega) q
theorem Now.ifeqT (N : Now nar EL Z own name bytes maxL ret p l e R s m args below meth c P vm T k n O RO FZ) {o : Int} {pc' : Nat} {x : Int32} (hd : decode bytes pc = .ok (.ifCond .eq o, 3)) (hp : (pc : Int) + o = (pc' : Int)) (hc : x = 0) (g : Goes p e below Post (T.setTop (mkF m pc' Ls st))) : Goes p e below Post (T.setTop (mkF m pc Ls (.int x :: st))) := by
  obtain ⟨⟨hx, hby, -⟩, locs, X, -⟩ := N
  exact g.pre fun t q => XS.ifYes X.here hx rfl (pc0 := pc) rfl (hb hby hd) rfl (XT.i0_eq_t hc) (by omega) (by omega) q
theorem Now.ifeqF (N : Now nar EL Z own name bytes maxL ret p l e R s m args below meth c P vm T k n O RO FZ) {o : Int} {x : Int32} (hd : decode bytes pc = .ok (.ifCond .eq o, 3)) (hc : ¬ x = 0) (g : Goes p e below Post (T.setTop (mkF m (pc + 3) Ls st))) : Goes p e below Post (T.setTop (mkF m pc Ls (.int x :: st))) := by
  obtain ⟨⟨hx, hby, -⟩, locs, X, -⟩ := N
  exact g.pre fun t q => XS.ifNo X.here hx rfl (hb hby hd) rfl (XT.i0_eq_f hc) q
theorem Now.icmpeqT (N : Now nar EL Z own name bytes maxL ret p l e R s m args below meth c P vm T k n O RO FZ) {o : Int} {pc' : Nat} {x y : Int32} (hd : decode bytes pc = .ok (.if_icmp .eq o, 3)) (hp : (pc : Int) + o = (pc' : Int)) (hc : x = y) (g : Goes p e below Post (T.setTop (mkF m pc' Ls st))) : Goes p e below Post (T.setTop (mkF m pc Ls (.int y :: .int x :: st))) := by
  obtain ⟨⟨hx, hby, -⟩, locs, X, -⟩ := N
  exact g.pre fun t q => XS.icmpYes X.here hx rfl (pc0 := pc) rfl (hb hby hd) rfl (XT.ii_eq_t hc) (by omega) (by omega) q
theorem Now.icmpeqF (N : Now nar EL Z own name bytes maxL ret p l e R s m args below meth c P vm T k n O RO FZ) {o : Int} {x y : Int32} (hd : decode bytes pc = .ok (.if_icmp .eq o, 3)) (hc : ¬ x = y) (g : Goes p e below Post (T.setTop (mkF m (pc + 3) Ls st))) : Goes p e below Post (T.setTop (mkF m pc Ls (.int y :: .int x :: st))) := by
  obtain ⟨⟨hx, hby, -⟩, locs, X, -⟩ := N
  exact g.pre fun t q => XS.icmpNo X.here hx rfl (hb hby hd) rfl (XT.ii_eq_f hc) q
theorem Now.lcmpeqT (N : Now nar EL Z own name bytes maxL ret p l e R s m args below meth c P vm T k n O RO FZ) {o : Int} {pc' : Nat} {x y : Int64} (hd : decode bytes pc = .ok (.ifCond .eq o, 3)) (hp : (pc : Int) + o = (pc' : Int)) (hc : x = y) (g : Goes p e below Post (T.setTop (mkF m pc' Ls st))) : Goes p e below Post (T.setTop (mkF m pc Ls (.int (cmpL x y) :: st))) := by
  obtain ⟨⟨hx, hby, -⟩, locs, X, -⟩ := N
  exact g.pre fun t q => XS.ifYes X.here hx rfl (pc0 := pc) rfl (hb hby hd) rfl (XT.ll_eq_t hc) (by omega) (by omega) q
theorem Now.lcmpeqF (N : Now nar EL Z own name bytes maxL ret p l e R s m args below meth c P vm T k n O RO FZ) {o : Int} {x y : Int64} (hd : decode bytes pc = .ok (.ifCond .eq o, 3)) (hc : ¬ x = y) (g : Goes p e below Post (T.setTop (mkF m (pc + 3) Ls st))) : Goes p e below Post (T.setTop (mkF m pc Ls (.int (cmpL x y) :: st))) := by
  obtain ⟨⟨hx, hby, -⟩, locs, X, -⟩ := N
  exact g.pre fun t q => XS.ifNo X.here hx rfl (hb hby hd) rfl (XT.ll_eq_f hc) q
theorem Now.ifneT (N : Now nar EL Z own name bytes maxL ret p l e R s m args below meth c P vm T k n O RO FZ) {o : Int} {pc' : Nat} {x : Int32} (hd : decode bytes pc = .ok (.ifCond .ne o, 3)) (hp : (pc : Int) + o = (pc' : Int)) (hc : ¬ x = 0) (g : Goes p e below Post (T.setTop (mkF m pc' Ls st))) : Goes p e below Post (T.setTop (mkF m pc Ls (.int x :: st))) := by
  obtain ⟨⟨hx, hby, -⟩, locs, X, -⟩ := N
  exact g.pre fun t q => XS.ifYes X.here hx rfl (pc0 := pc) rfl (hb hby hd) rfl (XT.i0_ne_t hc) (by omega) (by omega) q
theorem Now.ifneF (N : Now nar EL Z own name bytes maxL ret p l e R s m args below meth c P vm T k n O RO FZ) {o : Int} {x : Int32} (hd : decode bytes pc = .ok (.ifCond .ne o, 3)) (hc : x = 0) (g : Goes p e below Post (T.setTop (mkF m (pc + 3) Ls st))) : Goes p e below Post (T.setTop (mkF m pc Ls (.int x :: st))) := by
  obtain ⟨⟨hx, hby, -⟩, locs, X, -⟩ := N
  exact g.pre fun t q => XS.ifNo X.here hx rfl (hb hby hd) rfl (XT.i0_ne_f hc) q
theorem Now.icmpneT (N : Now nar EL Z own name bytes maxL ret p l e R s m args below meth c P vm T k n O RO FZ) {o : Int} {pc' : Nat} {x y : Int32} (hd : decode bytes pc = .ok (.if_icmp .ne o, 3)) (hp : (pc : Int) + o = (pc' : Int)) (hc : ¬ x = y) (g : Goes p e below Post (T.setTop (mkF m pc' Ls st))) : Goes p e below Post (T.setTop (mkF m pc Ls (.int y :: .int x :: st))) := by
  obtain ⟨⟨hx, hby, -⟩, locs, X, -⟩ := N
  exact g.pre fun t q => XS.icmpYes X.here hx rfl (pc0 := pc) rfl (hb hby hd) rfl (XT.ii_ne_t hc) (by omega) (by omega) q
theorem Now.icmpneF (N : Now nar EL Z own name bytes maxL ret p l e R s m args below meth c P vm T k n O RO FZ) {o : Int} {x y : Int32} (hd : decode bytes pc = .ok (.if_icmp .ne o, 3)) (hc : x = y) (g : Goes p e below Post (T.setTop (mkF m (pc + 3) Ls st))) : Goes p e below Post (T.setTop (mkF m pc Ls (.int y :: .int x :: st))) := by
  obtain ⟨⟨hx, hby, -⟩, locs, X, -⟩ := N
  exact g.pre fun t q => XS.icmpNo X.here hx rfl (hb hby hd) rfl (XT.ii_ne_f hc) q
theorem Now.lcmpneT (N : Now nar EL Z own name bytes maxL ret p l e R s m args below meth c P vm T k n O RO FZ) {o : Int} {pc' : Nat} {x y : Int64} (hd : decode bytes pc = .ok (.ifCond .ne o, 3)) (hp : (pc : Int) + o = (pc' : Int)) (hc : ¬ x = y) (g : Goes p e below Post (T.setTop (mkF m pc' Ls st))) : Goes p e below Post (T.setTop (mkF m pc Ls (.int (cmpL x y) :: st))) := by
  obtain ⟨⟨hx, hby, -⟩, locs, X, -⟩ := N
  exact g.pre fun t q => XS.ifYes X.here hx rfl (pc0 := pc) rfl (hb hby hd) rfl (XT.ll_ne_t hc) (by omega) (by omega) q
theorem Now.lcmpneF (N : Now nar EL Z own name bytes maxL ret p l e R s m args below meth c P vm T k n O RO FZ) {o : Int} {x y : Int64} (hd : decode bytes pc = .ok (.ifCond .ne o, 3)) (hc : x = y) (g : Goes p e below Post (T.setTop (mkF m (pc + 3) Ls st))) : Goes p e below Post (T.setTop (mkF m pc Ls (.int (cmpL x y) :: st))) := by
  obtain ⟨⟨hx, hby, -⟩, locs, X, -⟩ := N
  exact g.pre fun t q => XS.ifNo X.here hx rfl (hb hby hd) rfl (XT.ll_ne_f hc) q
theorem Now.ifltT (N : Now nar EL Z own name bytes maxL ret p l e R s m args below meth c P vm T k n O RO FZ) {o : Int} {pc' : Nat} {x : Int32} (hd : decode bytes pc = .ok (.ifCond .lt o, 3)) (hp : (pc : Int) + o = (pc' : Int)) (hc : x < 0) (g : Goes p e below Post (T.setTop (mkF m pc' Ls st))) : Goes p e below Post (T.setTop (mkF m pc Ls (.int x :: st))) := by
  obtain ⟨⟨hx, hby, -⟩, locs, X, -⟩ := N
  exact g.pre fun t q => XS.ifYes X.here hx rfl (pc0 := pc) rfl (hb hby hd) rfl (XT.i0_lt_t hc) (by omega) (by omega) q
theorem Now.ifltF (N : Now nar EL Z own name bytes maxL ret p l e R s m args below meth c P vm T k n O RO FZ) {o : Int} {x : Int32} (hd : decode bytes pc = .ok (.ifCond .lt o, 3)) (hc : ¬ x < 0) (g : Goes p e below Post (T.setTop (mkF m (pc + 3) Ls st))) : Goes p e below Post (T.setTop (mkF m pc Ls (.int x :: st))) := by
  obtain ⟨⟨hx, hby, -⟩, locs, X, -⟩ := N
  exact g.pre fun t q => XS.ifNo X.here hx rfl (hb hby hd) rfl (XT.i0_lt_f hc) q
theorem Now.icmpltT (N : Now nar EL Z own name bytes maxL ret p l e R s m args below meth c P vm T k n O RO FZ) {o : Int} {pc' : Nat} {x y : Int32} (hd : decode bytes pc = .ok (.if_icmp .lt o, 3)) (hp : (pc : Int) + o = (pc' : Int)) (hc : x < y) (g : Goes p e below Post (T.setTop (mkF m pc' Ls st))) : Goes p e below Post (T.setTop (mkF m pc Ls (.int y :: .int x :: st))) := by
  obtain ⟨⟨hx, hby, -⟩, locs, X, -⟩ := N
  exact g.pre fun t q => XS.icmpYes X.here hx rfl (pc0 := pc) rfl (hb hby hd) rfl (XT.ii_lt_t hc) (by omega) (by omega) q
theorem Now.icmpltF (N : Now nar EL Z own name bytes maxL ret p l e R s m args below meth c P vm T k n O RO FZ) {o : Int} {x y : Int32} (hd : decode bytes pc = .ok (.if_icmp .lt o, 3)) (hc : ¬ x < y) (g : Goes p e below Post (T.setTop (mkF m (pc + 3) Ls st))) : Goes p e below Post (T.setTop (mkF m pc Ls (.int y :: .int x :: st))) := by
  obtain ⟨⟨hx, hby, -⟩, locs, X, -⟩ := N
  exact g.pre fun t q => XS.icmpNo X.here hx rfl (hb hby hd) rfl (XT.ii_lt_f hc) q
theorem Now.lcmpltT (N : Now nar EL Z own name bytes maxL ret p l e R s m args below meth c P vm T k n O RO FZ) {o : Int} {pc' : Nat} {x y : Int64} (hd : decode bytes pc = .ok (.ifCond .lt o, 3)) (hp : (pc : Int) + o = (pc' : Int)) (hc : x < y) (g : Goes p e below Post (T.setTop (mkF m pc' Ls st))) : Goes p e below Post (T.setTop (mkF m pc Ls (.int (cmpL x y) :: st))) := by
  obtain ⟨⟨hx, hby, -⟩, locs, X, -⟩ := N
  exact g.pre fun t q => XS.ifYes X.here hx rfl (pc0 := pc) rfl (hb hby hd) rfl (XT.ll_lt_t hc) (by omega) (by omega) q
theorem Now.lcmpltF (N : Now nar EL Z own name bytes maxL ret p l e R s m args below meth c P vm T k n O RO FZ) {o : Int} {x y : Int64} (hd : decode bytes pc = .ok (.ifCond .lt o, 3)) (hc : ¬ x < y) (g : Goes p e below Post (T.setTop (mkF m (pc + 3) Ls st))) : Goes p e below Post (T.setTop (mkF m pc Ls (.int (cmpL x y) :: st))) := by
  obtain ⟨⟨hx, hby, -⟩, locs, X, -⟩ := N
  exact g.pre fun t q => XS.ifNo X.here hx rfl (hb hby hd) rfl (XT.ll_lt_f hc) q
theorem Now.ifgeT (N : Now nar EL Z own name bytes maxL ret p l e R s m args below meth c P vm T k n O RO FZ) {o : Int} {pc' : Nat} {x : Int32} (hd : decode bytes pc = .ok (.ifCond .ge o, 3)) (hp : (pc : Int) + o = (pc' : Int)) (hc : ¬ x < 0) (g : Goes p e below Post (T.setTop (mkF m pc' Ls st))) : Goes p e below Post (T.setTop (mkF m pc Ls (.int x :: st))) := by
  obtain ⟨⟨hx, hby, -⟩, locs, X, -⟩ := N
  exact g.pre fun t q => XS.ifYes X.here hx rfl (pc0 := pc) rfl (hb hby hd) rfl (XT.i0_ge_t hc) (by omega) (by omega) q
theorem Now.ifgeF (N : Now nar EL Z own name bytes maxL ret p l e R s m args below meth c P vm T k n O RO FZ) {o : Int} {x : Int32} (hd : decode bytes pc = .ok (.ifCond .ge o, 3)) (hc : x < 0) (g : Goes p e below Post (T.setTop (mkF m (pc + 3) Ls st))) : Goes p e below Post (T.setTop (mkF m pc Ls (.int x :: st))) := by
  obtain ⟨⟨hx, hby, -⟩, locs, X, -⟩ := N
  exact g.pre fun t q => XS.ifNo X.here hx rfl (hb hby hd) rfl (XT.i0_ge_f hc) q
theorem Now.icmpgeT (N : Now nar EL Z own name bytes maxL ret p l e R s m args below meth c P vm T k n O RO FZ) {o : Int} {pc' : Nat} {x y : Int32} (hd : decode bytes pc = .ok (.if_icmp .ge o, 3)) (hp : (pc : Int) + o = (pc' : Int)) (hc : ¬ x < y) (g : Goes p e below Post (T.setTop (mkF m pc' Ls st))) : Goes p e below Post (T.setTop (mkF m pc Ls (.int y :: .int x :: st))) := by
  obtain ⟨⟨hx, hby, -⟩, locs, X, -⟩ := N
  exact g.pre fun t q => XS.icmpYes X.here hx rfl (pc0 := pc) rfl (hb hby hd) rfl (XT.ii_ge_t hc) (by omega) (by omega) q
theorem Now.icmpgeF (N : Now nar EL Z own name bytes maxL ret p l e R s m args below meth c P vm T k n O RO FZ) {o : Int} {x y : Int32} (hd : decode bytes pc = .ok (.if_icmp .ge o, 3)) (hc : x < y) (g : Goes p e below Post (T.setTop (mkF m (pc + 3) Ls st))) : Goes p e below Post (T.setTop (mkF m pc Ls (.int y :: .int x :: st))) := by
  obtain ⟨⟨hx, hby, -⟩, locs, X, -⟩ := N
  exact g.pre fun t q => XS.icmpNo X.here hx rfl (hb hby hd) rfl (XT.ii_ge_f hc) q
theorem Now.lcmpgeT (N : Now nar EL Z own name bytes maxL ret p l e R s m args below meth c P vm T k n O RO FZ) {o : Int} {pc' : Nat} {x y : Int64} (hd : decode bytes pc = .ok (.ifCond .ge o, 3)) (hp : (pc : Int) + o = (pc' : Int)) (hc : ¬ x < y) (g : Goes p e below Post (T.setTop (mkF m pc' Ls st))) : Goes p e below Post (T.setTop (mkF m pc Ls (.int (cmpL x y) :: st))) := by
  obtain ⟨⟨hx, hby, -⟩, locs, X, -⟩ := N
  exact g.pre fun t q => XS.ifYes X.here hx rfl (pc0 := pc) rfl (hb hby hd) rfl (XT.ll_ge_t hc) (by omega) (by omega) q
theorem Now.lcmpgeF (N : Now nar EL Z own name bytes maxL ret p l e R s m args below meth c P vm T k n O RO FZ) {o : Int} {x y : Int64} (hd : decode bytes pc = .ok (.ifCond .ge o, 3)) (hc : x < y) (g : Goes p e below Post (T.setTop (mkF m (pc + 3) Ls st))) : Goes p e below Post (T.setTop (mkF m pc Ls (.int (cmpL x y) :: st))) := by
  obtain ⟨⟨hx, hby, -⟩, locs, X, -⟩ := N
  exact g.pre fun t q => XS.ifNo X.here hx rfl (hb hby hd) rfl (XT.ll_ge_f hc) q
theorem Now.ifgtT (N : Now nar EL Z own name bytes maxL ret p l e R s m args below meth c P vm T k n O RO FZ) {o : Int} {pc' : Nat} {x : Int32} (hd : decode bytes pc = .ok (.ifCond .gt o, 3)) (hp : (pc : Int) + o = (pc' : Int)) (hc : 0 < x) (g : Goes p e below Post (T.setTop (mkF m pc' Ls st))) : Goes p e below Post (T.setTop (mkF m pc Ls (.int x :: st))) := by
  obtain ⟨⟨hx, hby, -⟩, locs, X, -⟩ := N
  exact g.pre fun t q => XS.ifYes X.here hx rfl (pc0 := pc) rfl (hb hby hd) rfl (XT.i0_gt_t hc) (by omega) (by omega) q
theorem Now.ifgtF (N : Now nar EL Z own name bytes maxL ret p l e R s m args below meth c P vm T k n O RO FZ) {o : Int} {x : Int32} (hd : decode bytes pc = .ok (.ifCond .gt o, 3)) (hc : ¬ 0 < x) (g : Goes p e below Post (T.setTop (mkF m (pc + 3) Ls st))) : Goes p e below Post (T.setTop (mkF m pc Ls (.int x :: st))) := by
  obtain ⟨⟨hx, hby, -⟩, locs, X, -⟩ := N
  exact g.pre fun t q => XS.ifNo X.here hx rfl (hb hby hd) rfl (XT.i0_gt_f hc) q
theorem Now.icmpgtT (N : Now nar EL Z own name bytes maxL ret p l e R s m args below meth c P vm T k n O RO FZ) {o : Int} {pc' : Nat} {x y : Int32} (hd : decode bytes pc = .ok (.if_icmp .gt o, 3)) (hp : (pc : Int) + o = (pc' : Int)) (hc : y < x) (g : Goes p e below Post (T.setTop (mkF m pc' Ls st))) : Goes p e below Post (T.setTop (mkF m pc Ls (.int y :: .int x :: st))) := by
  obtain ⟨⟨hx, hby, -⟩, locs, X, -⟩ := N
  exact g.pre fun t q => XS.icmpYes X.here hx rfl (pc0 := pc) rfl (hb hby hd) rfl (XT.ii_gt_t hc) (by omega) (by omega) q
theorem Now.icmpgtF (N : Now nar EL Z own name bytes maxL ret p l e R s m args below meth c P vm T k n O RO FZ) {o : Int} {x y : Int32} (hd : decode bytes pc = .ok (.if_icmp .gt o, 3)) (hc : ¬ y < x) (g : Goes p e below Post (T.setTop (mkF m (pc + 3) Ls st))) : Goes p e below Post (T.setTop (mkF m pc Ls (.int y :: .int x :: st))) := by
  obtain ⟨⟨hx, hby, -⟩, locs, X, -⟩ := N
  exact g.pre fun t q => XS.icmpNo X.here hx rfl (hb hby hd) rfl (XT.ii_gt_f hc) q
theorem Now.lcmpgtT (N : Now nar EL Z own name bytes maxL ret p l e R s m args below meth c P vm T k n O RO FZ) {o : Int} {pc' : Nat} {x y : Int64} (hd : decode bytes pc = .ok (.ifCond .gt o, 3)) (hp : (pc : Int) + o = (pc' : Int)) (hc : y < x) (g : Goes p e below Post (T.setTop (mkF m pc' Ls st))) : Goes p e below Post (T.setTop (mkF m pc Ls (.int (cmpL x y) :: st))) := by
  obtain ⟨⟨hx, hby, -⟩, locs, X, -⟩ := N
  exact g.pre fun t q => XS.ifYes X.here hx rfl (pc0 := pc) rfl (hb hby hd) rfl (XT.ll_gt_t hc) (by omega) (by omega) q
theorem Now.lcmpgtF (N : Now nar EL Z own name bytes maxL ret p l e R s m args below meth c P vm T k n O RO FZ) {o : Int} {x y : Int64} (hd : decode bytes pc = .ok (.ifCond .gt o, 3)) (hc : ¬ y < x) (g : Goes p e below Post (T.setTop (mkF m (pc + 3) Ls st))) : Goes p e below Post (T.setTop (mkF m pc Ls (.int (cmpL x y) :: st))) := by
  obtain ⟨⟨hx, hby, -⟩, locs, X, -⟩ := N
  exact g.pre fun t q => XS.ifNo X.here hx rfl (hb hby hd) rfl (XT.ll_gt_f hc) q
theorem Now.ifleT (N : Now nar EL Z own name bytes maxL ret p l e R s m args below meth c P vm T k n O RO FZ) {o : Int} {pc' : Nat} {x : Int32} (hd : decode bytes pc = .ok (.ifCond .le o, 3)) (hp : (pc : Int) + o = (pc' : Int)) (hc : ¬ 0 < x) (g : Goes p e below Post (T.setTop (mkF m pc' Ls st))) : Goes p e below Post (T.setTop (mkF m pc Ls (.int x :: st))) := by
  obtain ⟨⟨hx, hby, -⟩, locs, X, -⟩ := N
  exact g.pre fun t q => XS.ifYes X.here hx rfl (pc0 := pc) rfl (hb hby hd) rfl (XT.i0_le_t hc) (by omega) (by omega) q
theorem Now.ifleF (N : Now nar EL Z own name bytes maxL ret p l e R s m args below meth c P vm T k n O RO FZ) {o : Int} {x : Int32} (hd : decode bytes pc = .ok (.ifCond .le o, 3)) (hc : 0 < x) (g : Goes p e below Post (T.setTop (mkF m (pc + 3) Ls st))) : Goes p e below Post (T.setTop (mkF m pc Ls (.int x :: st))) := by
  obtain ⟨⟨hx, hby, -⟩, locs, X, -⟩ := N
  exact g.pre fun t q => XS.ifNo X.here hx rfl (hb hby hd) rfl (XT.i0_le_f hc) q
theorem Now.icmpleT (N : Now nar EL Z own name bytes maxL ret p l e R s m args below meth c P vm T k n O RO FZ) {o : Int} {pc' : Nat} {x y : Int32} (hd : decode bytes pc = .ok (.if_icmp .le o, 3)) (hp : (pc : Int) + o = (pc' : Int)) (hc : ¬ y < x) (g : Goes p e below Post (T.setTop (mkF m pc' Ls st))) : Goes p e below Post (T.setTop (mkF m pc Ls (.int y :: .int x :: st))) := by
  obtain ⟨⟨hx, hby, -⟩, locs, X, -⟩ := N
  exact g.pre fun t q => XS.icmpYes X.here hx rfl (pc0 := pc) rfl (hb hby hd) rfl (XT.ii_le_t hc) (by omega) (by omega) q
theorem Now.icmpleF (N : Now nar EL Z own name bytes maxL ret p l e R s m args below meth c P vm T k n O RO FZ) {o : Int} {x y : Int32} (hd : decode bytes pc = .ok (.if_icmp .le o, 3)) (hc : y < x) (g : Goes p e below Post (T.setTop (mkF m (pc + 3) Ls st))) : Goes p e below Post (T.setTop (mkF m pc Ls (.int y :: .int x :: st))) := by
  obtain ⟨⟨hx, hby, -⟩, locs, X, -⟩ := N
  exact g.pre fun t q => XS.icmpNo X.here hx rfl (hb hby hd) rfl (XT.ii_le_f hc) q
theorem Now.lcmpleT (N : Now nar EL Z own name bytes maxL ret p l e R s m args below meth c P vm T k n O RO FZ) {o : Int} {pc' : Nat} {x y : Int64} (hd : decode bytes pc = .ok (.ifCond .le o, 3)) (hp : (pc : Int) + o = (pc' : Int)) (hc : ¬ y < x) (g : Goes p e below Post (T.setTop (mkF m pc' Ls st))) : Goes p e below Post (T.setTop (mkF m pc Ls (.int (cmpL x y) :: st))) := by
  obtain ⟨⟨hx, hby, -⟩, locs, X, -⟩ := N
  exact g.pre fun t q => XS.ifYes X.here hx rfl (pc0 := pc) rfl (hb hby hd) rfl (XT.ll_le_t hc) (by omega) (by omega) q
theorem Now.lcmpleF (N : Now nar EL Z own name bytes maxL ret p l e R s m args below meth c P vm T k n O RO FZ) {o : Int} {x y : Int64} (hd : decode bytes pc = .ok (.ifCond .le o, 3)) (hc : y < x) (g : Goes p e below Post (T.setTop (mkF m (pc + 3) Ls st))) : Goes p e below Post (T.setTop (mkF m pc Ls (.int (cmpL x y) :: st))) := by
  obtain ⟨⟨hx, hby, -⟩, locs, X, -⟩ := N
  exact g.pre fun t q => XS.ifNo X.here hx rfl (hb hby hd) rfl (XT.ll_le_f hc) q
theorem Now.ifnullT (N : Now nar EL Z own name bytes maxL ret p l e R s m args below meth c P vm T k n O RO FZ) {o : Int} {pc' : Nat} (hd : decode bytes pc = .ok (.ifnull o, 3)) (hp : (pc : Int) + o = (pc' : Int)) (g : Goes p e below Post (T.setTop (mkF m pc' Ls st))) : Goes p e below Post (T.setTop (mkF m pc Ls (.null :: st))) := by
  obtain ⟨⟨hx, hby, -⟩, locs, X, -⟩ := N
  exact g.pre fun t q => XS.ifnullYes X.here hx rfl (pc0 := pc) rfl (hb hby hd) rfl (by omega) (by omega) q
theorem Now.ifnullF (N : Now nar EL Z own name bytes maxL ret p l e R s m args below meth c P vm T k n O RO FZ) {o : Int} {b : Addr} (hd : decode bytes pc = .ok (.ifnull o, 3)) (g : Goes p e below Post (T.setTop (mkF m (pc + 3) Ls st))) : Goes p e below Post (T.setTop (mkF m pc Ls (.ref b :: st))) := by
  obtain ⟨⟨hx, hby, -⟩, locs, X, -⟩ := N
  exact g.pre fun t q => XS.ifnullNo X.here hx rfl (hb hby hd) rfl q
theorem Now.ifnonnullT (N : Now nar EL Z own name bytes maxL ret p l e R s m args below meth c P vm T k n O RO FZ) {o : Int} {pc' : Nat} {b : Addr} (hd : decode bytes pc = .ok (.ifnonnull o, 3)) (hp : (pc : Int) + o = (pc' : Int)) (g : Goes p e below Post (T.setTop (mkF m pc' Ls st))) : Goes p e below Post (T.setTop (mkF m pc Ls (.ref b :: st))) := by
  obtain ⟨⟨hx, hby, -⟩, locs, X, -⟩ := N
  exact g.pre fun t q => XT.ifnonnullYes X.here hx rfl (pc0 := pc) rfl (hb hby hd) rfl (by omega) (by omega) q
theorem Now.ifnonnullF (N : Now nar EL Z own name bytes maxL ret p l e R s m args below meth c P vm T k n O RO FZ) {o : Int} (hd : decode bytes pc = .ok (.ifnonnull o, 3)) (g : Goes p e below Post (T.setTop (mkF m (pc + 3) Ls st))) : Goes p e below Post (T.setTop (mkF m pc Ls (.null :: st))) := by
  obtain ⟨⟨hx, hby, -⟩, locs, X, -⟩ := N
  exact g.pre fun t q => XT.ifnonnullNo X.here hx rfl (hb hby hd) rfl q
theorem Now.acmpeqT (N : Now nar EL Z own name bytes maxL ret p l e R s m args below meth c P vm T k n O RO FZ) {o : Int} {pc' : Nat} {x y : Value} (hd : decode bytes pc = .ok (.if_acmp .eq o, 3)) (hp : (pc : Int) + o = (pc' : Int)) (h1 : x.isRef = true) (h2 : y.isRef = true) (hc : x = y) (g : Goes p e below Post (T.setTop (mkF m pc' Ls st))) : Goes p e below Post (T.setTop (mkF m pc Ls (y :: x :: st))) := by
  obtain ⟨⟨hx, hby, -⟩, locs, X, -⟩ := N
  exact g.pre fun t q => XT.acmpYes X.here hx rfl (pc0 := pc) rfl (hb hby hd) rfl h1 h2 (XT.aa_eq_t hc) (by omega) (by omega) q
theorem Now.acmpeqF (N : Now nar EL Z own name bytes maxL ret p l e R s m args below meth c P vm T k n O RO FZ) {o : Int} {x y : Value} (hd : decode bytes pc = .ok (.if_acmp .eq o, 3)) (h1 : x.isRef = true) (h2 : y.isRef = true) (hc : ¬ x = y) (g : Goes p e below Post (T.setTop (mkF m (pc + 3) Ls st))) : Goes p e below Post (T.setTop (mkF m pc Ls (y :: x :: st))) := by
  obtain ⟨⟨hx, hby, -⟩, locs, X, -⟩ := N
  exact g.pre fun t q => XT.acmpNo X.here hx rfl (hb hby hd) rfl h1 h2 (XT.aa_eq_f hc) q
theorem Now.acmpneT (N : Now nar EL Z own name bytes maxL ret p l e R s m args below meth c P vm T k n O RO FZ) {o : Int} {pc' : Nat} {x y : Value} (hd : decode bytes pc = .ok (.if_acmp .ne o, 3)) (hp : (pc : Int) + o = (pc' : Int)) (h1 : x.isRef = true) (h2 : y.isRef = true) (hc : ¬ x = y) (g : Goes p e below Post (T.setTop (mkF m pc' Ls st))) : Goes p e below Post (T.setTop (mkF m pc Ls (y :: x :: st))) := by
  obtain ⟨⟨hx, hby, -⟩, locs, X, -⟩ := N
  exact g.pre fun t q => XT.acmpYes X.here hx rfl (pc0 := pc) rfl (hb hby hd) rfl h1 h2 (XT.aa_ne_t hc) (by omega) (by omega) q
theorem Now.acmpneF (N : Now nar EL Z own name bytes maxL ret p l e R s m args below meth c P vm T k n O RO FZ) {o : Int} {x y : Value} (hd : decode bytes pc = .ok (.if_acmp .ne o, 3)) (h1 : x.isRef = true) (h2 : y.isRef = true) (hc : x = y) (g : Goes p e below Post (T.setTop (mkF m (pc + 3) Ls st))) : Goes p e below Post (T.setTop (mkF m pc Ls (y :: x :: st))) := by
  obtain ⟨⟨hx, hby, -⟩, locs, X, -⟩ := N
  exact g.pre fun t q => XT.acmpNo X.here hx rfl (hb hby hd) rfl h1 h2 (XT.aa_ne_f hc) q
theorem Now.ldcI (N : Now nar EL Z own name bytes maxL ret p l e R s m args below meth c P vm T k n O RO FZ) {idx : Nat} {v : Int32} (w : (Cond.constant own idx v).before a0 Z = true) (hd : decode bytes pc = .ok (.ldc idx, 2)) (g : Goes p e below Post (T.setTop (mkF m (pc + 2) Ls (.int v :: st)))) : Goes p e below Post (T.setTop (mkF m pc Ls st)) := by
  obtain ⟨⟨hx, hby, -⟩, locs, X, h1, h2, h3, -⟩ := N
  exact g.pre fun t q => Stand.ldcI X hx h3 (mv (s := s.setVm vm) h2 w) rfl (hb hby hd) q
theorem Now.ldcWI (N : Now nar EL Z own name bytes maxL ret p l e R s m args below meth c P vm T k n O RO FZ) {idx : Nat} {v : Int32} (w : (Cond.constant own idx v).before a0 Z = true) (hd : decode bytes pc = .ok (.ldc_w idx, 3)) (g : Goes p e below Post (T.setTop (mkF m (pc + 3) Ls (.int v :: st)))) : Goes p e below Post (T.setTop (mkF m pc Ls st)) := by
  obtain ⟨⟨hx, hby, -⟩, locs, X, h1, h2, h3, -⟩ := N
  exact g.pre fun t q => Stand.ldcWI X hx h3 (mv (s := s.setVm vm) h2 w) rfl (hb hby hd) q
theorem Now.ldc2J (N : Now nar EL Z own name bytes maxL ret p l e R s m args below meth c P vm T k n O RO FZ) {idx : Nat} {v : Int64} (w : (Cond.constantLong own idx v).before a0 Z = true) (hd : decode bytes pc = .ok (.ldc2_w idx, 3)) (g : Goes p e below Post (T.setTop (mkF m (pc + 3) Ls (.long v :: st)))) : Goes p e below Post (T.setTop (mkF m pc Ls st)) := by
  obtain ⟨⟨hx, hby, -⟩, locs, X, h1, h2, h3, -⟩ := N
  exact g.pre fun t q => Stand.ldc2J X hx h3 (mv (s := s.setVm vm) h2 w) rfl (hb hby hd) q
theorem Now.same (N : Now nar EL Z own name bytes maxL ret p l e R s m args below meth c P vm T k n O RO FZ) {T' : State} (X' : ∃ locs, Stand p l e R (s.setVm vm) m args below meth c T' locs k n ∧ Fr Z.heap.size locs) (he : T'.heap = T.heap) : Now nar EL Z own name bytes maxL ret p l e R s m args below meth c P vm T' k n O RO FZ := by
  obtain ⟨C, locs, X, h1, h2, h3, h4, H, r⟩ := N
  obtain ⟨locs', X', h4'⟩ := X'
  exact ⟨C, locs', X', by rw [he]; exact h1, h2, h3, h4', by rw [he]; exact H, by rw [he]; exact r⟩
theorem Now.getfield (N : Now nar EL Z own name bytes maxL ret p l e R s m args below meth c P vm T k n O RO FZ) {idx : Nat} {R0 F nm d C : String} {a : Addr} {v : Value} {fs : List (Key × Value)} (i : Nat) (hd : decode bytes pc = .ok (.getfield idx, 3)) (w : (Cond.fieldLink own idx R0 nm d).before a0 Z = true) (via : Via Z R0 F nm d)
    (hi : (O ++ (RO ++ FZ))[i]? = some (a, .inl (C, fs))) (hf : ((F, nm, d), v) ∈ fs) (g : ∀ T, Now nar EL Z own name bytes maxL ret p l e R s m args below meth c P vm T k n O RO FZ → Goes p e below Post (T.setTop (mkF m (pc + 3) Ls (v :: st)))) : Goes p e below Post (T.setTop (mkF m pc Ls (.ref a :: st))) := by
  obtain ⟨⟨hx, hby, hr⟩, locs, X, h1, h2, h3, h4, H, r⟩ := id N
  obtain ⟨T', X', e', st'⟩ := getF (host := "") X hx (s := s.setVm vm) h2 h3 (Or.inl w) via rfl ((H.atO hi).2.1 _ hf) (g := mkF m pc Ls (.ref a :: st)) rfl rfl (hb hby hd)
  exact (g T' (N.same ⟨locs, X', h4⟩ e')).pre st'
theorem Now.getstatic (N : Now nar EL Z own name bytes maxL ret p l e R s m args below meth c P vm T k n O RO FZ) {idx : Nat} {R0 F nm d : String} {v : Value} (hd : decode bytes pc = .ok (.getstatic idx, 3)) (w : (Cond.fieldLink own idx R0 nm d).before a0 Z = true) (via : Via Z R0 F nm d)
    (S : Sta Z Z.heap F nm d v) (g : ∀ T, Now nar EL Z own name bytes maxL ret p l e R s m args below meth c P vm T k n O RO FZ → Goes p e below Post (T.setTop (mkF m (pc + 3) Ls (v :: st)))) : Goes p e below Post (T.setTop (mkF m pc Ls st)) := by
  obtain ⟨⟨hx, hby, hr⟩, locs, X, h1, h2, h3, h4, H, r⟩ := id N
  obtain ⟨T', X', e', st'⟩ := getS (host := "") X hx (s := s.setVm vm) h2 h3 w via rfl (S.ext H.1) (g := mkF m pc Ls st) rfl (hb hby hd)
  exact (g T' (N.same ⟨locs, X', h4⟩ e')).pre st'
theorem Now.getstaticNest (N : Now nar EL Z own name bytes maxL ret p l e R s m args below meth c P vm T k n O RO FZ) {idx : Nat} {R0 F nm d host : String} {v : Value} (hd : decode bytes pc = .ok (.getstatic idx, 3)) (w : (Cond.fieldLinkNest own idx R0 nm d host).before a0 Z = true) (via : Via Z R0 F nm d)
    (S : Sta Z Z.heap F nm d v) (g : ∀ T, Now nar EL Z own name bytes maxL ret p l e R s m args below meth c P vm T k n O RO FZ → Goes p e below Post (T.setTop (mkF m (pc + 3) Ls (v :: st)))) : Goes p e below Post (T.setTop (mkF m pc Ls st)) := by
  obtain ⟨⟨hx, hby, hr⟩, locs, X, h1, h2, h3, h4, H, r⟩ := id N
  obtain ⟨T', X', e', st'⟩ := getS2 (host := host) X hx (s := s.setVm vm) h2 h3 (Or.inr w) via rfl (S.ext H.1) (g := mkF m pc Ls st) rfl (hb hby hd)
  exact (g T' (N.same ⟨locs, X', h4⟩ e')).pre st'
theorem Now.arraylength (N : Now nar EL Z own name bytes maxL ret p l e R s m args below meth c P vm T k n O RO FZ) {a : Addr} {ty : FieldType} {vs : List Value} (z : Int32) (i : Nat) (hd : decode bytes pc = .ok (.arraylength, 1)) (hi : (O ++ (RO ++ FZ))[i]? = some (a, aO ty vs)) (hz : vs.length.toInt32 = z) (g : Goes p e below Post (T.setTop (mkF m (pc + 1) Ls (.int z :: st)))) : Goes p e below Post (T.setTop (mkF m pc Ls (.ref a :: st))) := by
  obtain ⟨⟨hx, hby, hr⟩, locs, X, h1, h2, h3, h4, H, r⟩ := N
  obtain ⟨cl, A, hs, -⟩ := H.atA hi
  refine g.pre fun t q => X.arraylength hx A.1 (State.isArrayOf_alike (T := s.setVm vm) h2.alike A.2.1) (g := mkF m pc Ls (.ref a :: st)) rfl rfl (hb hby hd) t ?_
  rw [hs, List.size_toArray, hz]; exact q
theorem in_of {vs : List Value} {c : Cell} {z : Int32} {j : Nat} {v : Value} (hs : c.slots = vs.toArray) (hz : z.toNatClampNeg = j) (h0 : ¬ z < 0) (hv : vs[j]? = some v) : ¬ (z < 0 ∨ c.slots.size ≤ z.toNatClampNeg) ∧ c.slots[z.toNatClampNeg]? = some v := by
  have hl := (List.getElem?_eq_some_iff.mp hv).1
  refine ⟨fun q => q.elim h0 fun q => ?_, ?_⟩
  · rw [hs, List.size_toArray, hz] at q; omega
  · rw [hs, hz]; simpa using hv
theorem Now.caload (N : Now nar EL Z own name bytes maxL ret p l e R s m args below meth c P vm T k n O RO FZ) {a : Addr} {vs : List Value} {z : Int32} {v : Value} (i j : Nat) (hd : decode bytes pc = .ok (.caload, 1)) (hi : (O ++ (RO ++ FZ))[i]? = some (a, aO .char vs)) (hz : z.toNatClampNeg = j) (h0 : ¬ z < 0) (hv : vs[j]? = some v) (g : Goes p e below Post (T.setTop (mkF m (pc + 1) Ls (v :: st)))) : Goes p e below Post (T.setTop (mkF m pc Ls (.int z :: .ref a :: st))) := by
  obtain ⟨⟨hx, hby, hr⟩, locs, X, h1, h2, h3, h4, H, r⟩ := N
  obtain ⟨cl, A, hs, -⟩ := H.atA hi
  obtain ⟨q1, q2⟩ := in_of hs hz h0 hv
  exact g.pre fun t q => X.caload hx A.1 (State.isArrayOf_alike (T := s.setVm vm) h2.alike A.2.1) A.2.2 q1 q2 (g := mkF m pc Ls (.int z :: .ref a :: st)) rfl rfl (hb hby hd) t q
theorem Now.baload (N : Now nar EL Z own name bytes maxL ret p l e R s m args below meth c P vm T k n O RO FZ) {a : Addr} {vs : List Value} {z : Int32} {v : Value} (i j : Nat) (hd : decode bytes pc = .ok (.baload, 1)) (hi : (O ++ (RO ++ FZ))[i]? = some (a, aO .byte vs)) (hz : z.toNatClampNeg = j) (h0 : ¬ z < 0) (hv : vs[j]? = some v) (g : Goes p e below Post (T.setTop (mkF m (pc + 1) Ls (v :: st)))) : Goes p e below Post (T.setTop (mkF m pc Ls (.int z :: .ref a :: st))) := by
  obtain ⟨⟨hx, hby, hr⟩, locs, X, h1, h2, h3, h4, H, r⟩ := N
  obtain ⟨cl, A, hs, -⟩ := H.atA hi
  obtain ⟨q1, q2⟩ := in_of hs hz h0 hv
  exact g.pre fun t q => X.baloadBytes hx A.1 (State.isArrayOf_alike (T := s.setVm vm) h2.alike A.2.1) A.2.2 q1 q2 (g := mkF m pc Ls (.int z :: .ref a :: st)) rfl rfl (hb hby hd) t q
theorem Now.iaload (N : Now nar EL Z own name bytes maxL ret p l e R s m args below meth c P vm T k n O RO FZ) {a : Addr} {vs : List Value} {z : Int32} {v : Value} (i j : Nat) (hd : decode bytes pc = .ok (.iaload, 1)) (hi : (O ++ (RO ++ FZ))[i]? = some (a, aO .int vs)) (hz : z.toNatClampNeg = j) (h0 : ¬ z < 0) (hv : vs[j]? = some v) (g : Goes p e below Post (T.setTop (mkF m (pc + 1) Ls (v :: st)))) : Goes p e below Post (T.setTop (mkF m pc Ls (.int z :: .ref a :: st))) := by
  obtain ⟨⟨hx, hby, hr⟩, locs, X, h1, h2, h3, h4, H, r⟩ := N
  obtain ⟨cl, A, hs, -⟩ := H.atA hi
  obtain ⟨q1, q2⟩ := in_of hs hz h0 hv
  exact g.pre fun t q => X.iaload hx A.1 (State.isArrayOf_alike (T := s.setVm vm) h2.alike A.2.1) A.2.2 q1 q2 (g := mkF m pc Ls (.int z :: .ref a :: st)) rfl rfl (hb hby hd) t q
theorem Now.laload (N : Now nar EL Z own name bytes maxL ret p l e R s m args below meth c P vm T k n O RO FZ) {a : Addr} {vs : List Value} {z : Int32} {v : Value} (i j : Nat) (hd : decode bytes pc = .ok (.laload, 1)) (hi : (O ++ (RO ++ FZ))[i]? = some (a, aO .long vs)) (hz : z.toNatClampNeg = j) (h0 : ¬ z < 0) (hv : vs[j]? = some v) (g : Goes p e below Post (T.setTop (mkF m (pc + 1) Ls (v :: st)))) : Goes p e below Post (T.setTop (mkF m pc Ls (.int z :: .ref a :: st))) := by
  obtain ⟨⟨hx, hby, hr⟩, locs, X, h1, h2, h3, h4, H, r⟩ := N
  obtain ⟨cl, A, hs, -⟩ := H.atA hi
  obtain ⟨q1, q2⟩ := in_of hs hz h0 hv
  exact g.pre fun t q => X.laload hx A.1 (State.isArrayOf_alike (T := s.setVm vm) h2.alike A.2.1) A.2.2 q1 q2 (g := mkF m pc Ls (.int z :: .ref a :: st)) rfl rfl (hb hby hd) t q
theorem Now.aaload (N : Now nar EL Z own name bytes maxL ret p l e R s m args below meth c P vm T k n O RO FZ) {a : Addr} {ty : FieldType} {vs : List Value} {z : Int32} {v : Value} (i j : Nat) (hd : decode bytes pc = .ok (.aaload, 1)) (hi : (O ++ (RO ++ FZ))[i]? = some (a, aO ty vs)) (ht : ty.isReference = true) (hz : z.toNatClampNeg = j) (h0 : ¬ z < 0) (hv : vs[j]? = some v) (g : Goes p e below Post (T.setTop (mkF m (pc + 1) Ls (v :: st)))) : Goes p e below Post (T.setTop (mkF m pc Ls (.int z :: .ref a :: st))) := by
  obtain ⟨⟨hx, hby, hr⟩, locs, X, h1, h2, h3, h4, H, r⟩ := N
  obtain ⟨cl, A, hs, -⟩ := H.atA hi
  obtain ⟨q1, q2⟩ := in_of hs hz h0 hv
  exact g.pre fun t q => X.aaload hx A.1 (State.isArrayOf_alike (T := s.setVm vm) h2.alike A.2.1) ht A.2.2 q1 q2 (g := mkF m pc Ls (.int z :: .ref a :: st)) rfl rfl (hb hby hd) t q
theorem Now.checkcast (N : Now nar EL Z own name bytes maxL ret p l e R s m args below meth c P vm T k n O RO FZ) {idx : Nat} {K C : String} {a : Addr} {fs : List (Key × Value)} (i : Nat) (hd : decode bytes pc = .ok (.checkcast idx, 3)) (w : (Cond.classLink own idx K).before a0 Z = true) (wc : (Cond.castable C K).before a0 Z = true) (hi : (O ++ (RO ++ FZ))[i]? = some (a, .inl (C, fs)))
    (g : ∀ T, Now nar EL Z own name bytes maxL ret p l e R s m args below meth c P vm T k n O RO FZ → Goes p e below Post (T.setTop (mkF m (pc + 3) Ls (.ref a :: st)))) : Goes p e below Post (T.setTop (mkF m pc Ls (.ref a :: st))) := by
  obtain ⟨⟨hx, hby, hr⟩, locs, X, h1, h2, h3, h4, H, r⟩ := id N
  obtain ⟨T', X', e', st'⟩ := castY X hx (s := s.setVm vm) h2 h3 w rfl (Ins.of_exa (H.atO hi).1 wc) (g := mkF m pc Ls (.ref a :: st)) rfl rfl (hb hby hd)
  exact (g T' (N.same ⟨locs, X', h4⟩ e')).pre st'
theorem Now.checkcastNull (N : Now nar EL Z own name bytes maxL ret p l e R s m args below meth c P vm T k n O RO FZ) {idx : Nat} (hd : decode bytes pc = .ok (.checkcast idx, 3)) (g : Goes p e below Post (T.setTop (mkF m (pc + 3) Ls (.null :: st)))) : Goes p e below Post (T.setTop (mkF m pc Ls (.null :: st))) := by
  obtain ⟨⟨hx, hby, hr⟩, locs, X, h1, h2, h3, h4, H, r⟩ := id N
  exact g.pre (Stand.checkcastNull X hx (g := mkF m pc Ls (.null :: st)) rfl rfl (hb hby hd))
theorem Now.instY (N : Now nar EL Z own name bytes maxL ret p l e R s m args below meth c P vm T k n O RO FZ) {idx : Nat} {K C : String} {a : Addr} {fs : List (Key × Value)} (i : Nat) (hd : decode bytes pc = .ok (.instanceof idx, 3)) (w : (Cond.classLink own idx K).before a0 Z = true) (wc : (Cond.castable C K).before a0 Z = true) (hi : (O ++ (RO ++ FZ))[i]? = some (a, .inl (C, fs)))
    (g : ∀ T, Now nar EL Z own name bytes maxL ret p l e R s m args below meth c P vm T k n O RO FZ → Goes p e below Post (T.setTop (mkF m (pc + 3) Ls (.int 1 :: st)))) : Goes p e below Post (T.setTop (mkF m pc Ls (.ref a :: st))) := by
  obtain ⟨⟨hx, hby, hr⟩, locs, X, h1, h2, h3, h4, H, r⟩ := id N
  obtain ⟨T', X', e', st'⟩ := RoadKit.instY X hx (s := s.setVm vm) h2 h3 w rfl (Ins.of_exa (H.atO hi).1 wc) (g := mkF m pc Ls (.ref a :: st)) rfl rfl (hb hby hd)
  exact (g T' (N.same ⟨locs, X', h4⟩ e')).pre st'
theorem Now.instN (N : Now nar EL Z own name bytes maxL ret p l e R s m args below meth c P vm T k n O RO FZ) {idx : Nat} {K C : String} {a : Addr} {fs : List (Key × Value)} (i : Nat) (hd : decode bytes pc = .ok (.instanceof idx, 3)) (w : (Cond.classLink own idx K).before a0 Z = true) (F : ∃ c t, Z.vm.findClass C = some c ∧ Z.vm.findClass K = some t ∧ Z.vm.assignable c t = false) (hi : (O ++ (RO ++ FZ))[i]? = some (a, .inl (C, fs)))
    (g : ∀ T, Now nar EL Z own name bytes maxL ret p l e R s m args below meth c P vm T k n O RO FZ → Goes p e below Post (T.setTop (mkF m (pc + 3) Ls (.int 0 :: st)))) : Goes p e below Post (T.setTop (mkF m pc Ls (.ref a :: st))) := by
  obtain ⟨⟨hx, hby, hr⟩, locs, X, h1, h2, h3, h4, H, r⟩ := id N
  obtain ⟨T', X', e', st'⟩ := instNo X hx (s := s.setVm vm) h2 h3 w rfl (H.atO hi).1 F (g := mkF m pc Ls (.ref a :: st)) rfl rfl (hb hby hd)
  exact (g T' (N.same ⟨locs, X', h4⟩ e')).pre st'
theorem Now.instNull (N : Now nar EL Z own name bytes maxL ret p l e R s m args below meth c P vm T k n O RO FZ) {idx : Nat} (hd : decode bytes pc = .ok (.instanceof idx, 3)) (g : Goes p e below Post (T.setTop (mkF m (pc + 3) Ls (.int 0 :: st)))) : Goes p e below Post (T.setTop (mkF m pc Ls (.null :: st))) := by
  obtain ⟨⟨hx, hby, hr⟩, locs, X, h1, h2, h3, h4, H, r⟩ := id N
  exact g.pre (Stand.instanceofNull X hx (g := mkF m pc Ls (.null :: st)) rfl rfl (hb hby hd))
theorem Lays.app {h0 : Heap} {x : Addr × Ob} (L : Lays P h0 O) (hx : h0.size ≤ x.1) (hl : P.length ≤ O.length) : Lays P h0 (O ++ [x]) := by
  refine ⟨?_, fun q hq => ?_⟩
  · rw [List.map_append, List.take_append_of_le_length (by simpa using hl)]; exact L.1
  · rw [List.drop_append_of_le_length hl] at hq
    rcases List.mem_append.mp hq with hq | hq
    · exact L.2 q hq
    · rw [List.mem_singleton.mp hq]; exact hx
theorem Lays.len {h0 : Heap} (L : Lays P h0 O) : P.length ≤ O.length := by
  have := congrArg List.length L.1
  rw [List.length_take, List.length_map, List.length_map] at this
  omega
theorem Lays.set {h0 : Heap} {i : Nat} {a : Addr} {o o' : Ob} (L : Lays P h0 O) (hi : O[i]? = some (a, o)) : Lays P h0 (O.set i (a, o')) := by
  have fst : (O.set i (a, o')).map (·.1) = O.map (·.1) := by rw [List.map_set]; exact set_same (x := a) (at_fst hi)
  refine ⟨by rw [fst]; exact L.1, fun q hq => ?_⟩
  have : q.1 ∈ ((O.set i (a, o')).drop P.length).map (·.1) := List.mem_map.mpr ⟨q, hq, rfl⟩
  rw [List.map_drop, fst, ← List.map_drop] at this
  obtain ⟨p, h1, h2⟩ := List.mem_map.mp this
  rw [← h2]; exact L.2 p h1
theorem Lays.erase {h0 : Heap} {i : Nat} (L : Lays P h0 O) (hi : P.length ≤ i) : Lays P h0 (O.eraseIdx i) := by
  refine ⟨?_, fun q hq => ?_⟩
  · rw [← L.1]
    refine List.ext_getElem? fun j => ?_
    by_cases hj : j < P.length
    · rw [List.getElem?_take_of_lt hj, List.getElem?_take_of_lt hj, List.getElem?_map, List.getElem?_map, List.getElem?_eraseIdx, if_pos (by omega)]
    · rw [List.getElem?_eq_none (by rw [List.length_take]; omega), List.getElem?_eq_none (by rw [List.length_take]; omega)]
  · obtain ⟨j, hj⟩ := List.mem_iff_getElem?.mp hq
    rw [List.getElem?_drop, List.getElem?_eraseIdx] at hj
    split at hj
    · exact L.2 q (List.mem_of_getElem? (by rw [List.getElem?_drop]; exact hj))
    · exact L.2 q (List.mem_of_getElem? (i := j + 1) (by rw [List.getElem?_drop]; exact hj))
theorem Now.freeze (N : Now nar EL Z own name bytes maxL ret p l e R s m args below meth c P vm T k n O RO FZ) {a : Addr} {o : Ob} (i : Nat) (hi : O[i]? = some (a, o)) (hp : P.length ≤ i) (hO : O.eraseIdx i = O') : Now nar EL Z own name bytes maxL ret p l e R s m args below meth c P vm T k n O' RO (FZ ++ [(a, o)]) := by
  subst hO
  obtain ⟨C, locs, X, h1, h2, h3, h4, H, K, CR, hw, L⟩ := N
  have ha : s.heap.size ≤ a := by
    refine L.2 (a, o) (List.mem_of_getElem? (i := i - P.length) ?_)
    rw [List.getElem?_drop, show P.length + (i - P.length) = i by omega]; exact hi
  exact ⟨C, locs, X, h1, h2, h3, h4, H.freeze hi ha, K, CR, hw, L.erase hp⟩
theorem Now.grown (N : Now nar EL Z own name bytes maxL ret p l e R s m args below meth c P vm T k n O RO FZ) {T' : State} {k' n' : Nat} {o : Ob} (X' : ∃ locs, Stand p l e R (s.setVm vm) m args below meth c T' locs k' n' ∧ Fr Z.heap.size locs) (E : Ext T.heap T'.heap) (F : Is Z T'.heap T.heap.size o) : Now nar EL Z own name bytes maxL ret p l e R s m args below meth c P vm T' k' n' (O ++ [(T.heap.size, o)]) RO FZ ∧ s.heap.size ≤ T.heap.size := by
  obtain ⟨C, locs, X, h1, h2, h3, h4, H, K, CR, hw, L⟩ := N
  obtain ⟨locs', X', h4'⟩ := X'
  exact ⟨⟨C, locs', X', ⟨h1.1, h1.2.mono E.1⟩, h2, h3, h4', H.new E F, K.ext E, CR.trans (CHr.ext E H.2.1), hw, L.app K.1 L.len⟩, K.1⟩
theorem Now.new (N : Now nar EL Z own name bytes maxL ret p l e R s m args below meth c P vm T k n O RO FZ) {idx kk : Nat} {C : String} {fs : List (Key × Value)} (hd : decode bytes pc = .ok (.new idx, 3)) (w : (Cond.classLink own idx C).before a0 Z = true) (wi : (Cond.instantiable C kk).before a0 Z = true) (wz : (Cond.initialized C).before a0 Z = true)
    (hL : (∀ f ∈ fs, Laid Z a0 C f.1.1 f.1.2.1 f.1.2.2 ∧ ∃ ty, parseFieldDescriptor f.1.2.2 = some ty ∧ f.2 = defaultValue ty) ∧ (fs.map fun f => slotK Z f.1).Nodup) (hc : k + 1 ≤ R.cells) (hs : n + kk ≤ R.slots)
    (g : ∀ a T, s.heap.size ≤ a → Now nar EL Z own name bytes maxL ret p l e R s m args below meth c P vm T (k + 1) (n + kk) (O ++ [(a, .inl (C, fs))]) RO FZ → Goes p e below Post (T.setTop (mkF m (pc + 3) Ls (.ref a :: st)))) : Goes p e below Post (T.setTop (mkF m pc Ls st)) := by
  obtain ⟨⟨hx, hby, hr⟩, locs, X, h1, h2, h3, h4, H, r⟩ := id N
  obtain ⟨T', h', X', e', E, A, D, -, st'⟩ := newO X hx (s := s.setVm vm) h2 h3 w wi wz rfl (g := mkF m pc Ls st) rfl (hb hby hd) hc hs
  subst e'
  obtain ⟨N', q⟩ := N.grown (o := .inl (C, fs)) ⟨locs, X', h4⟩ E ⟨A, fun f hf => by
    obtain ⟨l1, ty, l2, l3⟩ := hL.1 f hf
    have := D l1 l2
    unfold FldK
    rw [l3]; exact this, hL.2⟩
  exact (g _ T' q N').pre st'
theorem ar_new {h : Heap} {a : Addr} {cA : ClassId} {ty : FieldType} {z : Int32} {j : Nat} (A : Arr Z h a (newA cA ty z) ty) (hz : z.toNatClampNeg = j) (hO : ∀ C, ty = .object C → Ovr Z cA C) (hf : fits ty (defaultValue ty) = true) : Is Z h a (aO ty (List.replicate j (defaultValue ty))) := by
  refine ⟨_, A, ?_, ?_, fun v hv => ?_, fun C q _ => hO C q⟩
  · simp [newA, hz]
  · rw [List.length_replicate, ← hz]; have := Int32.toInt_lt z; simp only [Int32.toNatClampNeg]; omega
  · rw [(List.mem_replicate.mp hv).2]; exact hf
theorem Now.newarray (N : Now nar EL Z own name bytes maxL ret p l e R s m args below meth c P vm T k n O RO FZ) {aty : ArrayType} {z : Int32} (j cap : Nat) (hd : decode bytes pc = .ok (.newarray aty, 2)) (w : (Cond.arrayClass (newarray.typeOf aty)).before a0 Z = true) (hz : z.toNatClampNeg = j) (h0 : ¬ z < 0) (hcap : j ≤ cap) (hb8 : cap * 8 ≤ 536870912) (hc : k + 1 ≤ R.cells) (hs : n + cap ≤ R.slots)
    (g : ∀ a T, s.heap.size ≤ a → Now nar EL Z own name bytes maxL ret p l e R s m args below meth c P vm T (k + 1) (n + cap) (O ++ [(a, aO (newarray.typeOf aty) (List.replicate j (defaultValue (newarray.typeOf aty))))]) RO FZ → Goes p e below Post (T.setTop (mkF m (pc + 2) Ls (.ref a :: st)))) : Goes p e below Post (T.setTop (mkF m pc Ls (.int z :: st))) := by
  obtain ⟨⟨hx, hby, hr⟩, locs, X, h1, h2, h3, h4, H, r⟩ := id N
  obtain ⟨T', h', cA, X', e', E, A, st'⟩ := newP X hx (s := s.setVm vm) h2 w rfl (g := mkF m pc Ls (.int z :: st)) rfl (hb hby hd) rfl h0 (cap := cap) (by omega) hb8 hc hs
  subst e'
  obtain ⟨N', q⟩ := N.grown (o := aO (newarray.typeOf aty) (List.replicate j (defaultValue (newarray.typeOf aty)))) ⟨locs, X', h4⟩ E (ar_new A hz (fun C q => by cases aty <;> cases q) (by cases aty <;> decide))
  exact (g _ T' q N').pre st'
theorem Now.anewarray (N : Now nar EL Z own name bytes maxL ret p l e R s m args below meth c P vm T k n O RO FZ) {idx : Nat} {C : String} {z : Int32} (j cap : Nat) (hd : decode bytes pc = .ok (.anewarray idx, 3)) (w : (Cond.classLink own idx C).before a0 Z = true) (w2 : (Cond.arrayOver (.object C)).before a0 Z = true) (hz : z.toNatClampNeg = j) (h0 : ¬ z < 0) (hcap : j ≤ cap) (hb8 : cap * 8 ≤ 536870912) (hc : k + 1 ≤ R.cells) (hs : n + cap ≤ R.slots)
    (g : ∀ a T, s.heap.size ≤ a → Now nar EL Z own name bytes maxL ret p l e R s m args below meth c P vm T (k + 1) (n + cap) (O ++ [(a, aO (.object C) (List.replicate j .null))]) RO FZ → Goes p e below Post (T.setTop (mkF m (pc + 3) Ls (.ref a :: st)))) : Goes p e below Post (T.setTop (mkF m pc Ls (.int z :: st))) := by
  obtain ⟨⟨hx, hby, hr⟩, locs, X, h1, h2, h3, h4, H, r⟩ := id N
  obtain ⟨T', h', cA, X', e', E, A, Ov, st'⟩ := newR X hx (s := s.setVm vm) h2 h3 w w2 rfl (g := mkF m pc Ls (.int z :: st)) rfl (hb hby hd) rfl h0 (cap := cap) (by omega) hb8 hc hs
  subst e'
  obtain ⟨N', q⟩ := N.grown (o := aO (.object C) (List.replicate j .null)) ⟨locs, X', h4⟩ E (ar_new (ty := .object C) A hz (fun C' q => by cases q; exact Ov) rfl)
  exact (g _ T' q N').pre st'
theorem in_P {h0 : Heap} {i : Nat} {a : Addr} {o : Ob} (L : Lays P h0 O) (hi : O[i]? = some (a, o)) : a ∈ P.map (·.1) ∨ h0.size ≤ a := by
  by_cases q : i < P.length
  · left
    rw [← L.1]
    have : ((O.map (·.1)).take P.length)[i]? = some a := by rw [List.getElem?_take_of_lt q]; exact at_fst hi
    exact List.mem_of_getElem? this
  · right
    refine L.2 (a, o) ?_
    have : (O.drop P.length)[i - P.length]? = some (a, o) := by rw [List.getElem?_drop, show P.length + (i - P.length) = i by omega]; exact hi
    exact List.mem_of_getElem? this
theorem wrote {locs : List Loc} {T' : State} {i sl : Nat} {a : Addr} {o o' : Ob} {v : Value} (C : Ctx EL Z name bytes maxL ret p meth c) (h1 : s.Since vm T.heap.size) (h2 : Z.Warmed39 vm) (h3 : vm.findClass own = some m.cls) (h4 : Fr Z.heap.size locs) (H : HI Z EL vm T.heap s.heap.size O RO FZ) (r : Keep s.heap T.heap (P.map (·.1)) ∧ CHr Z EL s.vm s.heap vm T.heap ∧ (nar = true → s.WarmedH vm) ∧ Lays P s.heap O)
    (hi : O[i]? = some (a, o)) (X' : Stand p l e R (s.setVm vm) m args below meth c T' (locs ++ [⟨a, sl⟩]) k n) (W : Wr T.heap T'.heap a sl v) (F : Is Z T'.heap a o') : Now nar EL Z own name bytes maxL ret p l e R s m args below meth c P vm T' k n (O.set i (a, o')) RO FZ := by
  obtain ⟨K, CR, hw, L⟩ := r
  have ha := H.2.2.1 _ (List.mem_of_getElem? hi)
  exact ⟨C, _, X', by rw [W.size]; exact h1, h2, h3, h4.app (fun y hy => by cases List.mem_singleton.mp hy; exact ha.2.1), H.wr h2.alike hi W F, K.wr W (in_P L hi), CR.trans (CHr.wr W ha.2.2 H.2.1), hw, L.set hi⟩
theorem Now.putfield (N : Now nar EL Z own name bytes maxL ret p l e R s m args below meth c P vm T k n O RO FZ) {idx kk : Nat} {R0 F nm d C : String} {a : Addr} {v v' old : Value} {ty : FieldType} {fs : List (Key × Value)} (i j : Nat) (hd : decode bytes pc = .ok (.putfield idx, 3)) (w : (Cond.fieldLink own idx R0 nm d).before a0 Z = true) (via : Via Z R0 F nm d)
    (L : (Cond.lays C F nm d).before a0 Z = true ∨ ((Cond.laysFinal C F nm d).before a0 Z = true ∧ own = F ∧ name = "<init>")) (wi : (Cond.instantiable C kk).before a0 Z = true)
    (hi : O[i]? = some (a, .inl (C, fs))) (hj : fs[j]? = some ((F, nm, d), old)) (hty : parseFieldDescriptor d = some ty) (hn : narrow ty v = v') (hf : fits ty v' = true) (hO : O.set i (a, .inl (C, fs.set j ((F, nm, d), v'))) = O')
    (g : ∀ T, Now nar EL Z own name bytes maxL ret p l e R s m args below meth c P vm T k n O' RO FZ → Goes p e below Post (T.setTop (mkF m (pc + 3) Ls st))) : Goes p e below Post (T.setTop (mkF m pc Ls (v :: .ref a :: st))) := by
  subst hO
  obtain ⟨Cx, locs, X, h1, h2, h3, h4, H, r⟩ := id N
  obtain ⟨hx, hby, hml, hret, hlk, hnm, hr⟩ := id Cx
  have I := (H.2.2.1 _ (List.mem_of_getElem? hi)).1
  obtain ⟨T', h', X', e', W, st'⟩ := putFN X hx (s := s.setVm vm) h2 h3 w via rfl (I.2.1 _ (List.mem_of_getElem? hj)) I.1 (L.imp id fun q => ⟨q.1, q.2.1, hnm.trans q.2.2⟩) wi hty hn hf (g := mkF m pc Ls (v :: .ref a :: st)) rfl rfl (hb hby hd)
  subst e'
  exact (g T' (wrote Cx h1 h2 h3 h4 H r hi X' W (Is.wrF W hj I))).pre st'
theorem in_of' {vs : List Value} {c : Cell} {z : Int32} {j : Nat} (hs : c.slots = vs.toArray) (hz : z.toNatClampNeg = j) (h0 : ¬ z < 0) (hj : j < vs.length) : ¬ (z < 0 ∨ c.slots.size ≤ z.toNatClampNeg) := fun q => q.elim h0 fun q => by
  rw [hs, List.size_toArray, hz] at q; omega
theorem Now.castore (N : Now nar EL Z own name bytes maxL ret p l e R s m args below meth c P vm T k n O RO FZ) {a : Addr} {vs : List Value} {z : Int32} {x : Int32} {v' : Value} (i j : Nat) (hd : decode bytes pc = .ok (.castore, 1)) (hi : O[i]? = some (a, aO .char vs)) (hz : z.toNatClampNeg = j) (h0 : ¬ z < 0) (hj : j < vs.length) (hv : .int (RoadKit.nar .char x) = v') (hO : O.set i (a, aO .char (vs.set j v')) = O')
    (g : ∀ T, Now nar EL Z own name bytes maxL ret p l e R s m args below meth c P vm T k n O' RO FZ → Goes p e below Post (T.setTop (mkF m (pc + 1) Ls st))) : Goes p e below Post (T.setTop (mkF m pc Ls (.int x :: .int z :: .ref a :: st))) := by
  subst hO hv
  obtain ⟨Cx, locs, X, h1, h2, h3, h4, H, r⟩ := id N
  obtain ⟨hx, hby, hr⟩ := id Cx
  have I := (H.2.2.1 _ (List.mem_of_getElem? hi)).1
  obtain ⟨cl, A, hs, -⟩ := id I
  obtain ⟨T', h', X', e', W, st'⟩ := stC X hx (s := s.setVm vm) h2 rfl A (in_of' hs hz h0 hj) (g := mkF m pc Ls (.int x :: .int z :: .ref a :: st)) rfl rfl (hb hby hd)
  subst e'
  rw [hz] at X' W
  exact (g T' (wrote Cx h1 h2 h3 h4 H r hi X' W (Is.wrA W hj (fits_nar_char x) I))).pre st'
theorem Now.bastore (N : Now nar EL Z own name bytes maxL ret p l e R s m args below meth c P vm T k n O RO FZ) {a : Addr} {vs : List Value} {z : Int32} {x : Int32} {v' : Value} (i j : Nat) (hd : decode bytes pc = .ok (.bastore, 1)) (hi : O[i]? = some (a, aO .byte vs)) (hz : z.toNatClampNeg = j) (h0 : ¬ z < 0) (hj : j < vs.length) (hv : .int (RoadKit.nar .byte x) = v') (hO : O.set i (a, aO .byte (vs.set j v')) = O')
    (g : ∀ T, Now nar EL Z own name bytes maxL ret p l e R s m args below meth c P vm T k n O' RO FZ → Goes p e below Post (T.setTop (mkF m (pc + 1) Ls st))) : Goes p e below Post (T.setTop (mkF m pc Ls (.int x :: .int z :: .ref a :: st))) := by
  subst hO hv
  obtain ⟨Cx, locs, X, h1, h2, h3, h4, H, r⟩ := id N
  obtain ⟨hx, hby, hr⟩ := id Cx
  have I := (H.2.2.1 _ (List.mem_of_getElem? hi)).1
  obtain ⟨cl, A, hs, -⟩ := id I
  obtain ⟨T', h', X', e', W, st'⟩ := stB X hx (s := s.setVm vm) h2 rfl A (in_of' hs hz h0 hj) (g := mkF m pc Ls (.int x :: .int z :: .ref a :: st)) rfl rfl (hb hby hd)
  subst e'
  rw [hz] at X' W
  exact (g T' (wrote Cx h1 h2 h3 h4 H r hi X' W (Is.wrA W hj (fits_nar_byte x) I))).pre st'
theorem Now.iastore (N : Now nar EL Z own name bytes maxL ret p l e R s m args below meth c P vm T k n O RO FZ) {a : Addr} {vs : List Value} {z : Int32} {x : Int32} {v' : Value} (i j : Nat) (hd : decode bytes pc = .ok (.iastore, 1)) (hi : O[i]? = some (a, aO .int vs)) (hz : z.toNatClampNeg = j) (h0 : ¬ z < 0) (hj : j < vs.length) (hv : .int x = v') (hO : O.set i (a, aO .int (vs.set j v')) = O')
    (g : ∀ T, Now nar EL Z own name bytes maxL ret p l e R s m args below meth c P vm T k n O' RO FZ → Goes p e below Post (T.setTop (mkF m (pc + 1) Ls st))) : Goes p e below Post (T.setTop (mkF m pc Ls (.int x :: .int z :: .ref a :: st))) := by
  subst hO hv
  obtain ⟨Cx, locs, X, h1, h2, h3, h4, H, r⟩ := id N
  obtain ⟨hx, hby, hr⟩ := id Cx
  have I := (H.2.2.1 _ (List.mem_of_getElem? hi)).1
  obtain ⟨cl, A, hs, -⟩ := id I
  obtain ⟨T', h', X', e', W, st'⟩ := stI X hx (s := s.setVm vm) h2 rfl A (in_of' hs hz h0 hj) (g := mkF m pc Ls (.int x :: .int z :: .ref a :: st)) rfl rfl (hb hby hd)
  subst e'
  rw [hz] at X' W
  exact (g T' (wrote Cx h1 h2 h3 h4 H r hi X' W (Is.wrA W hj (rfl) I))).pre st'
theorem Now.lastore (N : Now nar EL Z own name bytes maxL ret p l e R s m args below meth c P vm T k n O RO FZ) {a : Addr} {vs : List Value} {z : Int32} {x : Int64} {v' : Value} (i j : Nat) (hd : decode bytes pc = .ok (.lastore, 1)) (hi : O[i]? = some (a, aO .long vs)) (hz : z.toNatClampNeg = j) (h0 : ¬ z < 0) (hj : j < vs.length) (hv : .long x = v') (hO : O.set i (a, aO .long (vs.set j v')) = O')
    (g : ∀ T, Now nar EL Z own name bytes maxL ret p l e R s m args below meth c P vm T k n O' RO FZ → Goes p e below Post (T.setTop (mkF m (pc + 1) Ls st))) : Goes p e below Post (T.setTop (mkF m pc Ls (.long x :: .int z :: .ref a :: st))) := by
  subst hO hv
  obtain ⟨Cx, locs, X, h1, h2, h3, h4, H, r⟩ := id N
  obtain ⟨hx, hby, hr⟩ := id Cx
  have I := (H.2.2.1 _ (List.mem_of_getElem? hi)).1
  obtain ⟨cl, A, hs, -⟩ := id I
  obtain ⟨T', h', X', e', W, st'⟩ := stJ X hx (s := s.setVm vm) h2 rfl A (in_of' hs hz h0 hj) (g := mkF m pc Ls (.long x :: .int z :: .ref a :: st)) rfl rfl (hb hby hd)
  subst e'
  rw [hz] at X' W
  exact (g T' (wrote Cx h1 h2 h3 h4 H r hi X' W (Is.wrA W hj (rfl) I))).pre st'
theorem Now.aastore (N : Now nar EL Z own name bytes maxL ret p l e R s m args below meth c P vm T k n O RO FZ) {a b : Addr} {C K : String} {vs : List Value} {fs : List (Key × Value)} {z : Int32} (i j i2 : Nat) (hd : decode bytes pc = .ok (.aastore, 1)) (hi : O[i]? = some (a, aO (.object K) vs)) (h2' : (O ++ (RO ++ FZ))[i2]? = some (b, .inl (C, fs))) (wc : (Cond.castable C K).before a0 Z = true) (hz : z.toNatClampNeg = j) (h0 : ¬ z < 0) (hj : j < vs.length) (hO : O.set i (a, aO (.object K) (vs.set j (.ref b))) = O')
    (g : ∀ T, Now nar EL Z own name bytes maxL ret p l e R s m args below meth c P vm T k n O' RO FZ → Goes p e below Post (T.setTop (mkF m (pc + 1) Ls st))) : Goes p e below Post (T.setTop (mkF m pc Ls (.ref b :: .int z :: .ref a :: st))) := by
  subst hO
  obtain ⟨Cx, locs, X, h1, h2, h3, h4, H, r⟩ := id N
  obtain ⟨hx, hby, hr⟩ := id Cx
  have I := (H.2.2.1 _ (List.mem_of_getElem? hi)).1
  obtain ⟨cl, A, hs, -, -, hO⟩ := id I
  have S : Sto Z T.heap a (.ref b) := Sto.of A (hO K rfl (H.2.2.1 _ (List.mem_of_getElem? hi)).2.1) (Ins.of_exa (H.atO h2').1 wc)
  obtain ⟨T', h', X', e', W, st'⟩ := stR X hx (s := s.setVm vm) h2 rfl A (in_of' hs hz h0 hj) rfl S (g := mkF m pc Ls (.ref b :: .int z :: .ref a :: st)) rfl rfl (hb hby hd)
  subst e'
  rw [hz] at X' W
  exact (g T' (wrote Cx h1 h2 h3 h4 H r hi X' W (Is.wrA W hj rfl I))).pre st'
theorem Now.objInit (N : Now nar EL Z own name bytes maxL ret p l e R s m args below meth c P vm T k n O RO FZ) {idx : Nat} {a : Addr} (hd : decode bytes pc = .ok (.invokespecial idx, 3)) (w1 : (Cond.methodLink own idx Lib.objectInit).before a0 Z = true) (w2 : (Cond.instanceMethod Lib.objectInit).before a0 Z = true) (w3 : (Cond.code Lib.objectInit ⟨#[0xb1]⟩ 1 none).before a0 Z = true) (hsz : Ls.size = maxL) (hf : 1 ≤ R.frames) (hl : (st.map fun v => v.category).sum + 12 ≤ R.locals)
    (g : ∀ T, Now nar EL Z own name bytes maxL ret p l e R s m args below meth c P vm T k n O RO FZ → Goes p e below Post (T.setTop (mkF m (pc + 3) Ls st))) : Goes p e below Post (T.setTop (mkF m pc Ls (.ref a :: st))) := by
  obtain ⟨⟨hx, hby, hml, hr⟩, locs, X, h1, h2, h3, h4, H, r⟩ := id N
  obtain ⟨T', X', e', st'⟩ := initO X hx (s := s.setVm vm) h2 h3 w1 w2 w3 rfl (g := mkF m pc Ls (.ref a :: st)) rfl (hsz.trans hml.symm) rfl (hb hby hd) hf (W := (st.map fun v => v.category).sum) (by show 2 * 0 + _ ≤ _; omega) hl
  exact (g T' (N.same ⟨locs, X', h4⟩ e')).pre st'
theorem arl_of_arv {h : Heap} {a : Addr} {cA : ClassId} {ty : FieldType} {z : Int32} {vs : List Value} {d : Value} (F : Arv Z h a cA ty z vs d) (hl : z.toNatClampNeg = vs.length) (hO : ∀ C, ty ≠ .object C) : ArL Z h a ty vs := by
  obtain ⟨cl, A, q1, q2, q3, H, G⟩ := F
  have hsz : cl.slots.size = vs.length := q2.trans hl
  have at' : ∀ j, j < vs.length → vs.getD j d = vs[j]! := fun j hj => by simp [hj]
  refine ⟨cl, A, ?_, ?_, fun v hv => ?_, fun C q _ => absurd q (hO C)⟩
  · apply Array.ext
    · rw [hsz, List.size_toArray]
    · intro j h1 h2
      have e := H j h1
      rw [Array.getElem?_eq_getElem h1] at e
      have hj : j < vs.length := by omega
      rw [Option.some.inj e]
      simp [hj]
  · rw [← hl]; have := Int32.toInt_lt z; simp only [Int32.toNatClampNeg]; omega
  · obtain ⟨j, hj⟩ := List.mem_iff_getElem?.mp hv
    have hlt := (List.getElem?_eq_some_iff.mp hj).1
    have := G j (by omega)
    rw [List.getD_eq_getElem?_getD, hj] at this
    exact this
theorem arv_of_arl {h : Heap} {a : Addr} {ty : FieldType} {z : Int32} {vs : List Value} (d : Value) (F : ArL Z h a ty vs) (hz : ¬ z < 0) (hl : z.toNatClampNeg = vs.length) : ∃ cA, Arv Z h a cA ty z vs d := by
  obtain ⟨cl, A, hs, hb, hf, -⟩ := F
  have hsz : cl.slots.size = vs.length := by rw [hs, List.size_toArray]
  refine ⟨cl.cls, cl, A, rfl, hsz.trans hl.symm, hz, fun j hj => ?_, fun j hj => ?_⟩
  · rw [hs]
    have hj' : j < vs.length := by omega
    simp [hj']
  · have hj' : j < vs.length := by omega
    rw [List.getD_eq_getElem?_getD, List.getElem?_eq_getElem hj']
    exact hf _ (List.getElem_mem hj')
theorem booksv_of_lit {W : State} {own text : String} {idx : Nat} {a : Addr} (w : (Cond.stringLink own idx text).before a0 W = true) (L : Lit W own idx a) : ∃ u, Booksv W.vm own idx u a := by
  have q : W.resolvedAt? own idx = some (.string a) := L
  cases hc : W.vm.findClass own with
  | none => simp [State.resolvedAt?, hc] at q
  | some cc =>
    obtain ⟨k, cf, i, u, e1, e2, e3, e4, -, -, -⟩ := Cond.stringLink_spec hc w
    refine ⟨u, cc, k, cf, i, hc, e1, e2, e3, e4, Or.inl ?_⟩
    simp [State.resolvedAt?, hc, e1] at q
    cases hr : k.resolved[idx]? with
    | none => rw [hr] at q; cases q
    | some o => rw [hr] at q; cases o with
      | none => cases q
      | some r => simpa using q
theorem Now.ldc (N : Now nar EL Z own name bytes maxL ret p l e R s m args below meth c P vm T k n O RO FZ) {idx nn : Nat} {text : String} {vs : List Value} {z : Int32} (hd : decode bytes pc = .ok (.ldc idx, 2)) (w : (Cond.stringLink own idx text).before a0 Z = true) (wS : ∀ a ∈ Bundle.stringAtoms, a.before a0 Z = true) (hEL : EW Z a0 EL) (hm : (own, idx) ∈ EL) (hN : nar = false)
    (hsl : slotK Z vK ≠ slotK Z cK) (ht : (∀ c ∈ text.toList, c.toNat < 256) ∧ text.toList.map (fun c => Value.int (Jvm.Lit.byteI c.toNat.toUInt16)) = vs) (hz : ¬ z < 0) (hzl : z.toNatClampNeg = vs.length) (hn : 4 * text.toList.length ≤ nn) (hbig : nn ≤ 536870912) (hc : k + 2 ≤ R.cells) (hs : n + (nn + 4) ≤ R.slots)
    (g : ∀ a b vm T, Now nar EL Z own name bytes maxL ret p l e R s m args below meth c P vm T (k + 2) (n + (nn + 4)) O RO (FZ ++ [(a, sO b), (b, aO .byte vs)]) → Goes p e below Post (T.setTop (mkF m (pc + 2) Ls (.ref a :: st)))) : Goes p e below Post (T.setTop (mkF m pc Ls st)) := by
  obtain ⟨Cx, locs, X, h1, h2, h3, h4, H, K, CR, hw, L⟩ := id N
  obtain ⟨hx, hby, hr⟩ := id Cx
  obtain ⟨a, T', h', k1, b, cA, X', e', E, hS, hk1, hZ', hf', EA, FC, FV, AV, la, lb, CR', LI, -, st'⟩ := ldcCH (s := s.setVm vm) (vm0 := vm) X hx h2 h3 w wS rfl ((State.WarmedH.refl (s.setVm vm)).since T.heap.size) (Nat.le_refl _) hEL hm H.2.1 ht hz hzl (g := mkF m pc Ls st) rfl (hb hby hd) hn hbig hc hs
  subst e'
  have hW : (Wst Z vm T.heap).Warmed39 T'.vm := hS.1
  obtain ⟨u, hb'⟩ := booksv_of_lit (W := (s.setVm vm).setVm T'.vm) (a0 := a0) (mvS (s := s.setVm vm) hZ' w) LI
  have LL' : LitI Z EL T'.vm T'.heap (a, b, vs) := ⟨⟨EA, fun f hf => by
    rcases List.mem_cons.mp hf with rfl | hf
    · exact FV
    · rw [List.mem_singleton.mp hf]; exact FC, by simp [hsl]⟩, arl_of_arv AV hzl (fun C q => by cases q), _, hm, u, hb'⟩
  have hW' : (Wst Z vm T'.heap).Warmed39 T'.vm := hS.1
  have H1 : HI Z EL T'.vm T'.heap s.heap.size O RO FZ := by
    obtain ⟨i1, i2, i3, i4, i5, i6⟩ := H
    exact ⟨⟨Nat.le_trans i1.1 E.1, fun x c q => E.2 x c (i1.2 x c q)⟩, CR'.1, fun q hq => ⟨(i3 q hq).1.ext E, (i3 q hq).2.1, CR'.safe (i3 q hq).1.lt (i3 q hq).2.2⟩, i4, fun q hq => (i5 q hq).step fun x hx hA => ⟨same_ext E hx, hA⟩, fun q hq => (i6 q hq).step fun x hx hA => ⟨same_ext E hx, hA.1, hA.2.imp id fun L => (L.step fun y hy _ => same_ext E hy).later h2 hW' hEL⟩⟩
  exact (g a b T'.vm T' ⟨Cx, locs, X', h1.trans ⟨hS.1, hS.2.mono hk1⟩ E.1, hZ', hf', h4, H1.lit hZ'.alike LL', K.ext E, CR.trans CR', fun q => (by rw [hN] at q; cases q), L⟩).pre st'
theorem Now.leave (N : Now nar EL Z own name bytes maxL ret p l e R s m args below meth c P vm T k n O RO FZ) {PR : HL} {Q : Option Value → HL → HL → Prop} {cells slots : Nat} {v : Option Value} {FN : HL} (hv : ret = none → v = none) (hro : ∀ q ∈ PR, q ∈ RO) (hlt : ∀ q ∈ FN, q ∈ FZ) (hk : k ≤ cells) (hn : n ≤ slots) (hQ : Q v O FN) :
    ∃ fs, (∀ (f : JFrame) (acts : List Action), f.method = m → f.locked = none → f.entered = [] → (doReturn e (T.setTop f) acts v).1 = T.setFrames fs) ∧ (T.setFrames fs).status = .running ∧ Ended (T.setFrames fs) below (.returned v) ∧ Out nar EL Z P PR Q cells slots s (.returned v) (T.setFrames fs) := by
  obtain ⟨⟨hx, hby, hml, hret, hlk, hnm, a0, hEL⟩, locs, X, h1, h2, h3, h4, H, K, CR, hw, L⟩ := N
  obtain ⟨fs, g1, g2, g3, g4⟩ := (X.mono hk hn).leaveW h1 (Nat.le_refl _) (v := v) (fun q => hv (hret ▸ q)) hlk
  have A := CHv.at X h2 hEL H.2.1
  have H' := (H.later h2 (show (Wst Z vm T.heap).Warmed39 T.vm from X.warmed.wide) hEL A).forget hro hlt
  exact ⟨fs, g1, g2, g3, v, locs, O, FN, rfl, hQ, h4, H', K, L, CR.trans A, fun q => State.WarmedH.trans (t := s.setVm vm) (hw q) X.warmed, g4⟩
theorem Now.retV (N : Now nar EL Z own name bytes maxL ret p l e R s m args below meth c P vm T k n O RO FZ) {PR : HL} {Q : Option Value → HL → HL → Prop} {cells slots : Nat} (FN : HL) (hro : ∀ q ∈ PR, q ∈ RO) (hlt : ∀ q ∈ FN, q ∈ FZ) (hk : k ≤ cells) (hn : n ≤ slots) (hd : decode bytes pc = .ok (.return_, 1)) (hret : ret = none) (hQ : Q none O FN) : Goes p e below (Out nar EL Z P PR Q cells slots s) (T.setTop (mkF m pc Ls [])) := by
  obtain ⟨fs, g1, g2, g3, g4⟩ := N.leave (PR := PR) (v := none) (fun _ => rfl) hro hlt hk hn hQ
  obtain ⟨⟨hx, hby, hml, hret', hlk, hnm, hr⟩, locs, X, -⟩ := N
  exact ⟨_, _, X.returnOut hx (hret'.trans hret) (hb hby hd) g1, g2, g3, g4⟩
theorem Now.ireturn (N : Now nar EL Z own name bytes maxL ret p l e R s m args below meth c P vm T k n O RO FZ) {PR : HL} {Q : Option Value → HL → HL → Prop} {cells slots : Nat} (FN : HL) (hro : ∀ q ∈ PR, q ∈ RO) (hlt : ∀ q ∈ FN, q ∈ FZ) (hk : k ≤ cells) (hn : n ≤ slots) {t : FieldType} {x : Int32} (hd : decode bytes pc = .ok (.ireturn, 1)) (hret : ret = some t) (ht : t = .int ∨ t = .boolean ∨ t = .byte ∨ t = .char ∨ t = .short) (hnar : narrow t (.int x) = .int x) (hQ : Q (some (.int x)) O FN) : Goes p e below (Out nar EL Z P PR Q cells slots s) (T.setTop (mkF m pc Ls (.int x :: st))) := by
  obtain ⟨fs, g1, g2, g3, g4⟩ := N.leave (PR := PR) (v := some (.int x)) (fun q => by rw [hret] at q; cases q) hro hlt hk hn hQ
  obtain ⟨⟨hx, hby, hml, hret', hlk, hnm, -⟩, locs, X, -⟩ := N
  exact ⟨_, _, retOut X hx (hret'.trans hret) hnar (Or.inl ⟨rfl, ht, x, rfl⟩) (hb hby hd) g1, g2, g3, g4⟩
theorem Now.lreturn (N : Now nar EL Z own name bytes maxL ret p l e R s m args below meth c P vm T k n O RO FZ) {PR : HL} {Q : Option Value → HL → HL → Prop} {cells slots : Nat} (FN : HL) (hro : ∀ q ∈ PR, q ∈ RO) (hlt : ∀ q ∈ FN, q ∈ FZ) (hk : k ≤ cells) (hn : n ≤ slots) {t : FieldType} {x : Int64} (hd : decode bytes pc = .ok (.lreturn, 1)) (hret : ret = some t) (ht : t = .long) (hnar : narrow t (.long x) = .long x) (hQ : Q (some (.long x)) O FN) : Goes p e below (Out nar EL Z P PR Q cells slots s) (T.setTop (mkF m pc Ls (.long x :: st))) := by
  obtain ⟨fs, g1, g2, g3, g4⟩ := N.leave (PR := PR) (v := some (.long x)) (fun q => by rw [hret] at q; cases q) hro hlt hk hn hQ
  obtain ⟨⟨hx, hby, hml, hret', hlk, hnm, -⟩, locs, X, -⟩ := N
  exact ⟨_, _, retOut X hx (hret'.trans hret) hnar (Or.inr (Or.inl ⟨rfl, ht, x, rfl⟩)) (hb hby hd) g1, g2, g3, g4⟩
theorem Now.areturn (N : Now nar EL Z own name bytes maxL ret p l e R s m args below meth c P vm T k n O RO FZ) {PR : HL} {Q : Option Value → HL → HL → Prop} {cells slots : Nat} (FN : HL) (hro : ∀ q ∈ PR, q ∈ RO) (hlt : ∀ q ∈ FN, q ∈ FZ) (hk : k ≤ cells) (hn : n ≤ slots) {t : FieldType} {x : Value} (hd : decode bytes pc = .ok (.areturn, 1)) (hret : ret = some t) (ht : t.isReference = true) (hr : x.isRef = true) (hnar : narrow t (x) = x) (hQ : Q (some (x)) O FN) : Goes p e below (Out nar EL Z P PR Q cells slots s) (T.setTop (mkF m pc Ls (x :: st))) := by
  obtain ⟨fs, g1, g2, g3, g4⟩ := N.leave (PR := PR) (v := some (x)) (fun q => by rw [hret] at q; cases q) hro hlt hk hn hQ
  obtain ⟨⟨hx, hby, hml, hret', hlk, hnm, -⟩, locs, X, -⟩ := N
  exact ⟨_, _, retOut X hx (hret'.trans hret) hnar (Or.inr (Or.inr (Or.inr (Or.inr ⟨rfl, ht, hr⟩)))) (hb hby hd) g1, g2, g3, g4⟩
end Steps
/-- a contract is a walk -/
theorem Con.intro {ws : List Cond} {nar : Bool} {EL : List (String × Nat)} {l : Launch} {Z : State} {y : MethodName} {bytes : ByteArray} {maxL : Nat} {ret : Option FieldType} {rm : Room} {as' : List Value} {P PR : HL} {Q : Option Value → HL → HL → Prop} {own name : String} (hpn : plainFor y = true) (ho : y.cls = own) (hnm' : y.name = name) (hEW : ∃ a0, EW Z a0 EL) (Ls : Array Slot) (hLs : Jvm.Sym.laidSlots as' ++ List.replicate (maxL - (Jvm.Sym.laidSlots as').length) .unset = Ls.toList)
    (body : ∀ p e s m below meth c T, Now nar EL Z own name bytes maxL ret p l e rm s m as'.toArray below meth c P s.vm T 0 0 P PR [] → Goes p e below (Out nar EL Z P PR Q rm.cells rm.slots s) (T.setTop (mkF m 0 Ls []))) : ConW nar EL l Z ws y bytes maxL ret rm as' P PR Q := by
  subst ho hnm'
  refine MetFree.of_bodySF hpn hisR ?_
  intro p e s m args below meth c s₁ Bd hml hP _
  obtain ⟨rfl, hZ, H⟩ := hP
  have X0 : Stand p l e rm s m as'.toArray below meth c s₁ [] 0 0 := Stand.of_body Bd
  have e0 : s₁.heap = s.heap := by rw [Bd.state]; rfl
  have N : Now nar EL Z y.cls y.name bytes maxL ret p l e rm s m as'.toArray below meth c P s.vm s₁ 0 0 P PR [] :=
    ⟨⟨Bd.exec, Bd.bytes, hml, Bd.returns, Bd.notSynchronized, (name_of_methodNamed Bd.named Bd.method).1, hEW⟩, [], X0, (State.WarmedH.refl s).since _, hZ, findClass_of_methodNamed Bd.named, Fr.nil _, by rw [e0]; exact H, by rw [e0]; exact Keep.refl _ _, by rw [e0]; exact CHr.refl H.2.1, fun _ => State.WarmedH.refl s, by rw [← List.length_map (f := (·.1)), List.take_length], fun q hq => by rw [List.drop_length] at hq; exact nomatch hq⟩
  obtain ⟨s₂, o, h1, h2, h3, h4⟩ := body p e s m below meth c s₁ N
  exact ⟨s₂, o, (XT.entry (args := as'.toArray) hLs).trans h1, h2, h3, h4⟩
end Jvm.Own

namespace Jvm.Own
open Jvm Jvm.ClassFile Sem Op Lib Bundle Jvm.Free Jvm.Stand Jvm.LawKit Jvm.RoadKit
open Jvm.Free.XT (ushr ushrL cmpL)
/-! The framework, part 3: calls by contract. -/
section Calls
variable {nar : Bool} {EL : List (String × Nat)} {Z : State} {a0 : Array Value} {own name : String} {bytes : ByteArray} {maxL : Nat} {ret : Option FieldType} {p : Program} {l : Launch} {e : Env} {R : Room} {s : State} {m : MethodId} {args : Array Value} {below : List Frame} {meth : Method} {c : Code} {P O RO FZ : HL}
variable {vm : Vm} {T : State} {k n : Nat} {Post : Outcome → State → Prop} {pc : Nat} {Ls : Array Slot} {st : List Value}
variable {y z : MethodName} {cb : ByteArray} {cl : Nat} {cr : Option FieldType} {rm : Room} {as' : List Value} {CP CR : HL} {Q : Option Value → HL → HL → Prop} {ip ir : List Nat} {idx : Nat}
/-- what a call leaves, as Back's Post -/
def Left (nar : Bool) (EL : List (String × Nat)) (Z : State) (s : State) (vm : Vm) (T : State) (rm : Room) (CP CR : HL) (Q : Option Value → HL → HL → Prop) (A : Free.Pt) (v : Option Value) (B : Free.Pt) : Prop :=
  ∃ (L : List Loc) (O' FN : HL), Q v O' FN ∧ Fr Z.heap.size L ∧ HI Z EL B.U.vm B.U.heap T.heap.size O' CR FN ∧ Keep T.heap B.U.heap (CP.map (·.1)) ∧ Lays CP T.heap O' ∧ CHr Z EL vm T.heap B.U.vm B.U.heap ∧ (nar = true → (s.setVm vm).WarmedH B.U.vm) ∧ B.locs = A.locs ++ L ∧ B.cells = A.cells + rm.cells ∧ B.slots = A.slots + rm.slots
theorem Con.back (C : Con nar EL l Z y cb cl cr rm as' CP CR Q) (N : Now nar EL Z own name bytes maxL ret p l e R s m args below meth c P vm T k n O RO FZ) (wc : (Cond.code y cb cl cr).before a0 Z = true) (wz : (Cond.initialized y.cls).before a0 Z = true) (hP : pick O ip = CP) (hPR : pick (O ++ (RO ++ FZ)) ir = CR) (hn : ip.Nodup) (hd : ∀ j ∈ ir, j ∉ ip) {W len : Nat} (hf : rm.frames + 1 ≤ R.frames) (hl : W + (cl + 11) + rm.locals ≤ R.locals) :
    BackS l R p e below (s.setVm vm) args y len W (fun A a => a = as'.toArray ∧ A.U.heap = T.heap ∧ A.cells + rm.cells ≤ R.cells ∧ A.slots + rm.slots ≤ R.slots) (fun A _ v B => Left nar EL Z s vm T rm CP CR Q A v B) := by
  obtain ⟨⟨hx, hby, hml, hret, hlk, hnm, a1, hEL⟩, locs, X, h1, h2, h3, h4, H, r⟩ := N
  have H0 := H.call (n1 := T.heap.size) hP hPR hn hd
  refine BackS.of_freeW (bytes := cb) (maxL := cl) (ret := cr) (E := fun _ U o U' L k n => k = rm.cells ∧ n = rm.slots ∧ ∃ (v : Option Value) (O' FN : HL), o = .returned v ∧ Q v O' FN ∧ Fr Z.heap.size L ∧ HI Z EL U'.vm U'.heap U.heap.size O' CR FN ∧ Keep U.heap U'.heap (CP.map (·.1)) ∧ Lays CP U.heap O' ∧ CHr Z EL U.vm U.heap U'.vm U'.heap ∧ (nar = true → U.WarmedH U'.vm)) C hf hl
    (fun m meth c A a Y hp => ?_) (fun m meth c A a g mk Y hp => ?_) (fun _ _ _ _ _ _ _ _ _ => trivial) (fun _ _ _ _ q => ?_) (fun m meth c A a g mk v t L k n Y hp _ _ q => ?_)
  · have hU : Z.Warmed39 A.U.vm := wtrans (s := s.setVm vm) h2 Y.warmed
    exact ⟨by show (Cond.and _ .tt).before a A.U = true; rw [Cond.before_and, mv hU wc]; rfl, mv hU wc, mv hU wz, hp.2.2.1, hp.2.2.2⟩
  · have hU : Z.Warmed39 A.U.vm := wtrans (s := s.setVm vm) h2 Y.warmed
    refine ⟨hp.1, hU, ?_⟩
    show HI Z EL A.U.vm A.U.heap A.U.heap.size CP CR []
    rw [hp.2.1]
    exact H0.later h2 (show (Wst Z vm T.heap).Warmed39 A.U.vm from Y.warmed.wide) hEL (CHv.at Y h2 hEL H.2.1)
  · obtain ⟨v, L, O', FN, q1, q2, q3, q4, q5, q6, q7, q8, q9⟩ := q
    exact ⟨L, _, _, q9, rfl, rfl, v, O', FN, q1, q2, q3, q4, q5, q6, q7, q8⟩
  · obtain ⟨e1, e2, v', O', FN, q1, q2, q3, q4, q5, q6, q7, q8⟩ := q
    cases q1; subst e1 e2
    have q4' : HI Z EL t.vm t.heap A.U.heap.size O' CR FN := q4
    have q5' : Keep A.U.heap t.heap (CP.map (·.1)) := q5
    have q6' : Lays CP A.U.heap O' := q6
    have q7' : CHr Z EL A.U.vm A.U.heap t.vm t.heap := q7
    rw [hp.2.1] at q4' q5' q6' q7'
    exact ⟨L, O', FN, q2, q3, q4', q5', q6', (CHv.at Y h2 hEL H.2.1).trans q7', fun q => State.WarmedH.trans (t := A.U) Y.warmed (q8 q), rfl, rfl, rfl⟩
theorem Lays.merge {h0 : Heap} {h1 : Heap} {O' : HL} (L : Lays P h0 O) (hle : h0.size ≤ h1.size) (hP : pick O ip = CP) (hl : ∀ i ∈ ip, i < O.length) (L' : Lays CP h1 O') : Lays P h0 (merge O ip O') := by
  subst hP
  have plen : (pick O ip).length = ip.length := by
    clear L'
    induction ip with
    | nil => rfl
    | cons i r ih =>
      unfold pick
      rw [List.getElem?_eq_getElem (hl i (List.mem_cons_self ..))]
      exact congrArg (· + 1) (ih fun j hj => hl j (List.mem_cons_of_mem _ hj))
  obtain ⟨L1, L2⟩ := L'
  rw [plen] at L1 L2
  have Lf : (O'.take ip.length).map (·.1) = (pick O ip).map (·.1) := by rw [List.map_take]; exact L1
  have fst := put_fst hl Lf
  have len : (put O ip (O'.take ip.length)).length = O.length := by have := congrArg List.length fst; simpa using this
  have hPO := L.len
  unfold Own.merge
  refine ⟨?_, fun q hq => ?_⟩
  · rw [List.map_append, List.take_append_of_le_length (by rw [List.length_map, len]; exact hPO), fst]; exact L.1
  · rw [List.drop_append_of_le_length (by rw [len]; exact hPO)] at hq
    rcases List.mem_append.mp hq with hq | hq
    · have : q.1 ∈ ((put O ip (O'.take ip.length)).drop P.length).map (·.1) := List.mem_map.mpr ⟨q, hq, rfl⟩
      rw [List.map_drop, fst, ← List.map_drop] at this
      obtain ⟨p', q1, q2⟩ := List.mem_map.mp this
      rw [← q2]; exact L.2 p' q1
    · exact Nat.le_trans hle (L2 q hq)
/-- the walk behind a call -/
theorem Now.after (N : Now nar EL Z own name bytes maxL ret p l e R s m args below meth c P vm T k n O RO FZ) {locs' : List Loc} {B : Free.Pt} {v : Option Value} {vm₁ : Vm} (hP : pick O ip = CP) (hn : ip.Nodup) (hl : ∀ i ∈ ip, i < O.length) (hlocs : ∀ locs, Stand p l e R (s.setVm vm) m args below meth c T locs k n → True)
    (X' : Stand p l e R ((s.setVm vm).setVm B.U.vm) m args below meth c B.U B.locs B.cells B.slots) (hS : (s.setVm vm).Since B.U.vm B.U.heap.size) (hg : T.heap.size ≤ B.U.heap.size) (hfr : Fr Z.heap.size locs') (q : Left nar EL Z s vm T rm CP CR Q ⟨T.setVm vm₁, locs', k, n⟩ v B) :
    ∃ O' FN, Q v O' FN ∧ Now nar EL Z own name bytes maxL ret p l e R s m args below meth c P B.U.vm B.U (k + rm.cells) (n + rm.slots) (merge O ip O') RO (FZ ++ FN) := by
  obtain ⟨⟨hx, hby, hml, hret, hlk, hnm, a1, hEL⟩, locs, X, h1, h2, h3, h4, H, K, CRr, hw, L⟩ := N
  obtain ⟨Lc, O', FN, q1, q2, q3, q4, q5, q6, q7, l1, l2, l3⟩ := q
  have hW : (Wst Z vm T.heap).Warmed39 B.U.vm := hS.1
  have hZ' : Z.Warmed39 B.U.vm := State.Warmed39.trans (t := s.setVm vm) h2 hS.1
  rw [l2, l3] at X'
  refine ⟨O', FN, q1, ⟨hx, hby, hml, hret, hlk, hnm, a1, hEL⟩, B.locs, X', h1.trans hS hg, hZ', ?_, ?_, H.back h2 hZ' hW hEL K.1 hP hn hl q4 q6 q3 q5, ?_, CRr.trans q6, fun q => State.WarmedH.trans (t := s.setVm vm) (hw q) (q7 q), L.merge K.1 hP hl q5⟩
  · rw [hS.1.alike.findClass]; exact h3
  · rw [l1]; exact hfr.app q2
  · refine K.trans q4 fun x hx => ?_
    obtain ⟨pp, hp, rfl⟩ := List.mem_map.mp hx
    rw [← hP] at hp
    obtain ⟨i, -, hi⟩ := mem_pick hp
    exact in_P L hi
theorem Now.callS (N : Now nar EL Z own name bytes maxL ret p l e R s m args below meth c P vm T k n O RO FZ) (C : Con nar EL l Z y cb cl cr rm as' CP CR Q) {ps : List FieldType} {rt : Option FieldType} (ip ir : List Nat) (hd : decode bytes pc = .ok (.invokestatic idx, 3)) (w1 : (Cond.methodLink own idx y).before a0 Z = true) (w2 : (Cond.static y).before a0 Z = true) (wz : (Cond.initialized y.cls).before a0 Z = true) (wc : (Cond.code y cb cl cr).before a0 Z = true)
    (hy : y.cls ≠ "java/lang/invoke/MethodHandle" ∧ y.cls ≠ "java/lang/invoke/VarHandle") (hpd : parseMethodDescriptor y.desc = some ⟨ps, rt⟩) (hps : as'.length = ps.length) {stk : List Value} (hst : stk = as'.reverse ++ st) (hP : pick O ip = CP) (hPR : pick (O ++ (RO ++ FZ)) ir = CR) (hn : ip.Nodup) (hdj : ∀ j ∈ ir, j ∉ ip) (hil : ∀ i ∈ ip, i < O.length) (hsz : Ls.size = maxL) (hf : rm.frames + 1 ≤ R.frames) (hl : (st.map fun v => v.category).sum + (cl + 11) + rm.locals ≤ R.locals) (hc : k + rm.cells ≤ R.cells) (hs : n + rm.slots ≤ R.slots)
    (g : ∀ v O' FN vm T, Q v O' FN → Now nar EL Z own name bytes maxL ret p l e R s m args below meth c P vm T (k + rm.cells) (n + rm.slots) (merge O ip O') RO (FZ ++ FN) → Goes p e below Post (T.setTop (mkF m (pc + 3) Ls (v.toList ++ st)))) : Goes p e below Post (T.setTop (mkF m pc Ls stk)) := by
  obtain ⟨⟨hx, hby, hml, hr⟩, locs, X, h1, h2, h3, h4, H, r⟩ := id N
  obtain ⟨v, vm₁, B, hw₁, X', hS, hg, hq, st'⟩ := callSS X hx h3 (mvT (s := s.setVm vm) h2 w1) (mvT (s := s.setVm vm) h2 w2) (mvT (s := s.setVm vm) h2 wz) (mvT (s := s.setVm vm) h2 wc) hy (C.back N wc wz hP hPR hn hdj hf hl) (g := mkF m pc Ls stk) rfl (hsz.trans hml.symm) (argsL := as') (rest := st) (lenOf hpd hps) hst (by show 2 * 0 + _ ≤ _; omega) (hb hby hd) (fun _ _ => ⟨rfl, rfl, hc, hs⟩)
  obtain ⟨O', FN, hQ, N'⟩ := N.after hP hn hil (fun _ _ => trivial) X' hS hg h4 hq
  exact (g v O' FN _ _ hQ N').pre fun t q => st'.trans q
theorem Now.callI (N : Now nar EL Z own name bytes maxL ret p l e R s m args below meth c P vm T k n O RO FZ) {a : Addr} (C : Con nar EL l Z y cb cl none rm (.ref a :: as') CP CR Q) {ps : List FieldType} {rt : Option FieldType} (ip ir : List Nat) (hd : decode bytes pc = .ok (.invokespecial idx, 3)) (hy1 : y.name = "<init>") (w1 : (Cond.methodLink own idx y).before a0 Z = true) (w2 : (Cond.instanceMethod y).before a0 Z = true) (wz : (Cond.initialized y.cls).before a0 Z = true) (wc : (Cond.code y cb cl none).before a0 Z = true)
    (hy : y.cls ≠ "java/lang/invoke/MethodHandle" ∧ y.cls ≠ "java/lang/invoke/VarHandle") (hpd : parseMethodDescriptor y.desc = some ⟨ps, rt⟩) (hps : as'.length = ps.length) {stk : List Value} (hst : stk = as'.reverse ++ .ref a :: st) (hP : pick O ip = CP) (hPR : pick (O ++ (RO ++ FZ)) ir = CR) (hn : ip.Nodup) (hdj : ∀ j ∈ ir, j ∉ ip) (hil : ∀ i ∈ ip, i < O.length) (hsz : Ls.size = maxL) (hf : rm.frames + 1 ≤ R.frames) (hl : (st.map fun v => v.category).sum + (cl + 11) + rm.locals ≤ R.locals) (hc : k + rm.cells ≤ R.cells) (hs : n + rm.slots ≤ R.slots)
    (g : ∀ v O' FN vm T, Q v O' FN → Now nar EL Z own name bytes maxL ret p l e R s m args below meth c P vm T (k + rm.cells) (n + rm.slots) (merge O ip O') RO (FZ ++ FN) → Goes p e below Post (T.setTop (mkF m (pc + 3) Ls (v.toList ++ st)))) : Goes p e below Post (T.setTop (mkF m pc Ls stk)) := by
  obtain ⟨⟨hx, hby, hml, hr⟩, locs, X, h1, h2, h3, h4, H, r⟩ := id N
  obtain ⟨v, vm₁, B, hw₁, X', hS, hg, hq, st'⟩ := X.specialBackS hx hy1 h3 (mvT (s := s.setVm vm) h2 w1) (mvT (s := s.setVm vm) h2 w2) (mvT (s := s.setVm vm) h2 wc) hy (C.back N wc wz hP hPR hn hdj hf hl) (g := mkF m pc Ls stk) rfl (hsz.trans hml.symm) (Steps.refl _) (a := a) (argsL := as') (rest := st) (lenOf hpd hps) hst (by show 2 * 0 + _ ≤ _; omega) (hb hby hd) (fun _ _ => ⟨rfl, rfl, hc, hs⟩)
  obtain ⟨O', FN, hQ, N'⟩ := N.after hP hn hil (fun _ _ => trivial) X' hS hg h4 hq
  exact (g v O' FN _ _ hQ N').pre fun t q => st'.trans q
theorem Now.callV (N : Now nar EL Z own name bytes maxL ret p l e R s m args below meth c P vm T k n O RO FZ) {a : Addr} {K : String} {fs : List (Key × Value)} (C : Con nar EL l Z y cb cl cr rm (.ref a :: as') CP CR Q) {ps : List FieldType} {rt : Option FieldType} (i : Nat) (ip ir : List Nat) (hd : decode bytes pc = .ok (.invokevirtual idx, 3)) (w1 : (Cond.methodLink own idx y).before a0 Z = true) (w2 : (Cond.declares y).before a0 Z = true) (w3 : (Cond.selects K y y).before a0 Z = true) (w4 : (Cond.instanceMethod y).before a0 Z = true) (wz : (Cond.initialized y.cls).before a0 Z = true) (wc : (Cond.code y cb cl cr).before a0 Z = true) 
    (hi : (O ++ (RO ++ FZ))[i]? = some (a, .inl (K, fs))) (hy : y.cls ≠ "java/lang/invoke/MethodHandle" ∧ y.cls ≠ "java/lang/invoke/VarHandle") (hpd : parseMethodDescriptor y.desc = some ⟨ps, rt⟩) (hps : as'.length = ps.length) {stk : List Value} (hst : stk = as'.reverse ++ .ref a :: st) (hP : pick O ip = CP) (hPR : pick (O ++ (RO ++ FZ)) ir = CR) (hn : ip.Nodup) (hdj : ∀ j ∈ ir, j ∉ ip) (hil : ∀ i ∈ ip, i < O.length) (hsz : Ls.size = maxL) (hf : rm.frames + 1 ≤ R.frames) (hl : (st.map fun v => v.category).sum + (cl + 11) + rm.locals ≤ R.locals) (hc : k + rm.cells ≤ R.cells) (hs : n + rm.slots ≤ R.slots)
    (g : ∀ v O' FN vm T, Q v O' FN → Now nar EL Z own name bytes maxL ret p l e R s m args below meth c P vm T (k + rm.cells) (n + rm.slots) (merge O ip O') RO (FZ ++ FN) → Goes p e below Post (T.setTop (mkF m (pc + 3) Ls (v.toList ++ st)))) : Goes p e below Post (T.setTop (mkF m pc Ls stk)) := by
  obtain ⟨⟨hx, hby, hml, hr⟩, locs, X, h1, h2, h3, h4, H, r⟩ := id N
  obtain ⟨cB, kB, i1, i2, i3⟩ := isOf (s := s.setVm vm) (T := T) h2 rfl (H.atO hi).1
  obtain ⟨v, vm₁, B, hw₁, X', hS, hg, hq, st'⟩ := X.virtualBackS hx h3 (mvT (s := s.setVm vm) h2 w1) (mvT (s := s.setVm vm) h2 w2) (notFace_of_selects (args := #[]) (mvT (s := s.setVm vm) h2 w3)) (mvT (s := s.setVm vm) h2 w3) (mvT (s := s.setVm vm) h2 w4) hy (C.back N wc wz hP hPR hn hdj hf hl) i1 i3 (g := mkF m pc Ls stk) rfl (hsz.trans hml.symm) (Steps.refl _) (argsL := as') (rest := st) (lenOf hpd hps) hst (by show 2 * 0 + _ ≤ _; omega) (hb hby hd) (fun _ _ => ⟨rfl, rfl, hc, hs⟩)
  obtain ⟨O', FN, hQ, N'⟩ := N.after hP hn hil (fun _ _ => trivial) X' hS hg h4 hq
  exact (g v O' FN _ _ hQ N').pre fun t q => st'.trans q
theorem Now.callW (N : Now nar EL Z own name bytes maxL ret p l e R s m args below meth c P vm T k n O RO FZ) {a : Addr} {K : String} {fs : List (Key × Value)} (C : Con nar EL l Z z cb cl cr rm (.ref a :: as') CP CR Q) {ps : List FieldType} {rt : Option FieldType} (i : Nat) (ip ir : List Nat) (hd : decode bytes pc = .ok (.invokevirtual idx, 3)) (w1 : (Cond.methodLink own idx y).before a0 Z = true) (w2 : (Cond.declares y).before a0 Z = true) (w3 : (Cond.selects K y z).before a0 Z = true) (w4 : (Cond.instanceMethod z).before a0 Z = true) (wz : (Cond.initialized z.cls).before a0 Z = true) (wc : (Cond.code z cb cl cr).before a0 Z = true) {S : String} (ws : (Cond.superclass y.cls S).before a0 Z = true)
    (hi : (O ++ (RO ++ FZ))[i]? = some (a, .inl (K, fs))) (hy : y.cls ≠ "java/lang/invoke/MethodHandle" ∧ y.cls ≠ "java/lang/invoke/VarHandle") (hpd : parseMethodDescriptor y.desc = some ⟨ps, rt⟩) (hps : as'.length = ps.length) {stk : List Value} (hst : stk = as'.reverse ++ .ref a :: st) (hP : pick O ip = CP) (hPR : pick (O ++ (RO ++ FZ)) ir = CR) (hn : ip.Nodup) (hdj : ∀ j ∈ ir, j ∉ ip) (hil : ∀ i ∈ ip, i < O.length) (hsz : Ls.size = maxL) (hf : rm.frames + 1 ≤ R.frames) (hl : (st.map fun v => v.category).sum + (cl + 11) + rm.locals ≤ R.locals) (hc : k + rm.cells ≤ R.cells) (hs : n + rm.slots ≤ R.slots)
    (g : ∀ v O' FN vm T, Q v O' FN → Now nar EL Z own name bytes maxL ret p l e R s m args below meth c P vm T (k + rm.cells) (n + rm.slots) (merge O ip O') RO (FZ ++ FN) → Goes p e below Post (T.setTop (mkF m (pc + 3) Ls (v.toList ++ st)))) : Goes p e below Post (T.setTop (mkF m pc Ls stk)) := by
  obtain ⟨⟨hx, hby, hml, hr⟩, locs, X, h1, h2, h3, h4, H, r⟩ := id N
  obtain ⟨cB, kB, i1, i2, i3⟩ := isOf (s := s.setVm vm) (T := T) h2 rfl (H.atO hi).1
  obtain ⟨v, vm₁, B, hw₁, X', hS, hg, hq, st'⟩ := X.virtualBackS hx h3 (mvT (s := s.setVm vm) h2 w1) (mvT (s := s.setVm vm) h2 w2) (nf_super (args := #[]) (mvT (s := s.setVm vm) h2 ws)) (mvT (s := s.setVm vm) h2 w3) (mvT (s := s.setVm vm) h2 w4) hy (C.back N wc wz hP hPR hn hdj hf hl) i1 i3 (g := mkF m pc Ls stk) rfl (hsz.trans hml.symm) (Steps.refl _) (argsL := as') (rest := st) (lenOf hpd hps) hst (by show 2 * 0 + _ ≤ _; omega) (hb hby hd) (fun _ _ => ⟨rfl, rfl, hc, hs⟩)
  obtain ⟨O', FN, hQ, N'⟩ := N.after hP hn hil (fun _ _ => trivial) X' hS hg h4 hq
  exact (g v O' FN _ _ hQ N').pre fun t q => st'.trans q
theorem Now.callO (N : Now nar EL Z own name bytes maxL ret p l e R s m args below meth c P vm T k n O RO FZ) {a : Addr} {K : String} {fs : List (Key × Value)} (C : Con nar EL l Z z cb cl cr rm (.ref a :: as') CP CR Q) {ps : List FieldType} {rt : Option FieldType} (i : Nat) (ip ir : List Nat) (hd : decode bytes pc = .ok (.invokevirtual idx, 3)) (w1 : (Cond.methodLink own idx y).before a0 Z = true) (w2 : (Cond.declares y).before a0 Z = true) (w3 : (Cond.selects K y z).before a0 Z = true) (w4 : (Cond.instanceMethod z).before a0 Z = true) (wz : (Cond.initialized z.cls).before a0 Z = true) (wc : (Cond.code z cb cl cr).before a0 Z = true) (ws : (Cond.noSuperclass y.cls).before a0 Z = true)
    (hi : (O ++ (RO ++ FZ))[i]? = some (a, .inl (K, fs))) (hy : y.cls ≠ "java/lang/invoke/MethodHandle" ∧ y.cls ≠ "java/lang/invoke/VarHandle") (hpd : parseMethodDescriptor y.desc = some ⟨ps, rt⟩) (hps : as'.length = ps.length) {stk : List Value} (hst : stk = as'.reverse ++ .ref a :: st) (hP : pick O ip = CP) (hPR : pick (O ++ (RO ++ FZ)) ir = CR) (hn : ip.Nodup) (hdj : ∀ j ∈ ir, j ∉ ip) (hil : ∀ i ∈ ip, i < O.length) (hsz : Ls.size = maxL) (hf : rm.frames + 1 ≤ R.frames) (hl : (st.map fun v => v.category).sum + (cl + 11) + rm.locals ≤ R.locals) (hc : k + rm.cells ≤ R.cells) (hs : n + rm.slots ≤ R.slots)
    (g : ∀ v O' FN vm T, Q v O' FN → Now nar EL Z own name bytes maxL ret p l e R s m args below meth c P vm T (k + rm.cells) (n + rm.slots) (merge O ip O') RO (FZ ++ FN) → Goes p e below Post (T.setTop (mkF m (pc + 3) Ls (v.toList ++ st)))) : Goes p e below Post (T.setTop (mkF m pc Ls stk)) := by
  obtain ⟨⟨hx, hby, hml, hr⟩, locs, X, h1, h2, h3, h4, H, r⟩ := id N
  obtain ⟨cB, kB, i1, i2, i3⟩ := isOf (s := s.setVm vm) (T := T) h2 rfl (H.atO hi).1
  obtain ⟨v, vm₁, B, hw₁, X', hS, hg, hq, st'⟩ := X.virtualBackS hx h3 (mvT (s := s.setVm vm) h2 w1) (mvT (s := s.setVm vm) h2 w2) (nf_top (args := #[]) (mvT (s := s.setVm vm) h2 ws)) (mvT (s := s.setVm vm) h2 w3) (mvT (s := s.setVm vm) h2 w4) hy (C.back N wc wz hP hPR hn hdj hf hl) i1 i3 (g := mkF m pc Ls stk) rfl (hsz.trans hml.symm) (Steps.refl _) (argsL := as') (rest := st) (lenOf hpd hps) hst (by show 2 * 0 + _ ≤ _; omega) (hb hby hd) (fun _ _ => ⟨rfl, rfl, hc, hs⟩)
  obtain ⟨O', FN, hQ, N'⟩ := N.after hP hn hil (fun _ _ => trivial) X' hS hg h4 hq
  exact (g v O' FN _ _ hQ N').pre fun t q => st'.trans q
theorem Now.callP (N : Now nar EL Z own name bytes maxL ret p l e R s m args below meth c P vm T k n O RO FZ) {a : Addr} {K : String} {fs : List (Key × Value)} (C : Con nar EL l Z y cb cl cr rm (.ref a :: as') CP CR Q) {ps : List FieldType} {rt : Option FieldType} (i : Nat) (ip ir : List Nat) (hd : decode bytes pc = .ok (.invokevirtual idx, 3)) (w1 : (Cond.methodLink own idx y).before a0 Z = true) (w2 : (Cond.instanceMethod y).before a0 Z = true) (w3 : (Cond.selects y.cls y y).before a0 Z = true) (w4 : (Cond.privateMethod y).before a0 Z = true) (wz : (Cond.initialized y.cls).before a0 Z = true) (wc : (Cond.code y cb cl cr).before a0 Z = true)
    (hi : (O ++ (RO ++ FZ))[i]? = some (a, .inl (K, fs))) (hy : y.cls ≠ "java/lang/invoke/MethodHandle" ∧ y.cls ≠ "java/lang/invoke/VarHandle") (hpd : parseMethodDescriptor y.desc = some ⟨ps, rt⟩) (hps : as'.length = ps.length) {stk : List Value} (hst : stk = as'.reverse ++ .ref a :: st) (hP : pick O ip = CP) (hPR : pick (O ++ (RO ++ FZ)) ir = CR) (hn : ip.Nodup) (hdj : ∀ j ∈ ir, j ∉ ip) (hil : ∀ i ∈ ip, i < O.length) (hsz : Ls.size = maxL) (hf : rm.frames + 1 ≤ R.frames) (hl : (st.map fun v => v.category).sum + (cl + 11) + rm.locals ≤ R.locals) (hc : k + rm.cells ≤ R.cells) (hs : n + rm.slots ≤ R.slots)
    (g : ∀ v O' FN vm T, Q v O' FN → Now nar EL Z own name bytes maxL ret p l e R s m args below meth c P vm T (k + rm.cells) (n + rm.slots) (merge O ip O') RO (FZ ++ FN) → Goes p e below Post (T.setTop (mkF m (pc + 3) Ls (v.toList ++ st)))) : Goes p e below Post (T.setTop (mkF m pc Ls stk)) := by
  obtain ⟨⟨hx, hby, hml, hr⟩, locs, X, h1, h2, h3, h4, H, r⟩ := id N
  obtain ⟨cc, hcc, hns⟩ := (H.atO hi).1.cell
  obtain ⟨v, vm₁, B, hw₁, X', hS, hg, hq, st'⟩ := X.privateBackS hx h3 (mvT (s := s.setVm vm) h2 w1) (mvT (s := s.setVm vm) h2 w2) (mvT (s := s.setVm vm) h2 w3) (Cond.privateMethod_at (mvP (s := s.setVm vm) h2 w4 (args := #[]))) (mvT (s := s.setVm vm) h2 wc) hy (C.back N wc wz hP hPR hn hdj hf hl) (g := mkF m pc Ls stk) rfl (hsz.trans hml.symm) (Steps.refl _) (a := a) hcc hns (argsL := as') (rest := st) (lenOf hpd hps) hst (by show 2 * 0 + _ ≤ _; omega) (hb hby hd) (fun _ _ => ⟨rfl, rfl, hc, hs⟩)
  obtain ⟨O', FN, hQ, N'⟩ := N.after hP hn hil (fun _ _ => trivial) X' hS hg h4 hq
  exact (g v O' FN _ _ hQ N').pre fun t q => st'.trans q
theorem decl_of (wi : (Cond.instanceMethod y).before a0 Z = true) (wc : (Cond.code y cb cl cr).before a0 Z = true) : (Cond.declares y).before a0 Z = true := by
  obtain ⟨mk, mt, hn, hm, hst, -⟩ := Cond.instanceMethod_spec wi
  obtain ⟨m2, cM, q1, -, -, -, -, -, -, hsig⟩ := Cond.code_spec hn wc
  cases hm.symm.trans q1
  simp [Cond.before, Cond.holds, Cond.value, hn, hm, hst, hsig]
theorem notFace_by {U : State} {a1 : Array Value} {C : String} (hc : y.cls = z.cls) (ws : (Cond.selects C z z).before a1 U = true) (wd : (Cond.declares z).before a1 U = true) : NotFace U y := fun r0 h0 => by
  obtain ⟨m2, meth2, hn2, -⟩ := Cond.declares_spec wd
  obtain ⟨kr, e1, e2⟩ := notFace_of_selects ws m2 hn2
  have f1 := findClass_of_methodNamed h0
  have f2 := findClass_of_methodNamed hn2
  rw [hc] at f1
  exact ⟨kr, by rw [Option.some.inj (f1.symm.trans f2)]; exact e1, e2⟩
theorem same_of (hy : y.cls ≠ "java/lang/invoke/MethodHandle" ∧ y.cls ≠ "java/lang/invoke/VarHandle") (wd : (Cond.declares y).before a0 Z = true) (nf : NotFace Z y) : (Cond.sameMethod y.cls y.cls y.name y.desc).before a0 Z = true := by
  obtain ⟨mk, mt, hn, -⟩ := Cond.declares_spec wd
  obtain ⟨kr, e1, e2⟩ := nf mk hn
  have f := findClass_of_methodNamed hn
  have g := State.methodFound?_of_named hn hy
  have hn' : Z.methodNamed? ⟨y.cls, y.name, y.desc⟩ = some mk := hn
  simp [Cond.before, Cond.holds, Cond.value, f, g, hn', e1, e2]
theorem Now.callX (N : Now nar EL Z own name bytes maxL ret p l e R s m args below meth c P vm T k n O RO FZ) {a : Addr} {K : String} {fs : List (Key × Value)} (C : Con nar EL l Z z cb cl cr rm (.ref a :: as') CP CR Q) {ps : List FieldType} {rt : Option FieldType} (i : Nat) (ip ir : List Nat) (hd : decode bytes pc = .ok (.invokevirtual idx, 3)) (w1 : (Cond.methodLink own idx y).before a0 Z = true) (w2 : (Cond.declares y).before a0 Z = true) (w3 : (Cond.selects K y z).before a0 Z = true) (w4 : (Cond.instanceMethod z).before a0 Z = true) (wz : (Cond.initialized z.cls).before a0 Z = true) (wc : (Cond.code z cb cl cr).before a0 Z = true) {u : MethodName} {D : String} (hu : y.cls = u.cls) (ws : (Cond.selects D u u).before a0 Z = true) (wd : (Cond.declares u).before a0 Z = true)
    (hi : (O ++ (RO ++ FZ))[i]? = some (a, .inl (K, fs))) (hy : y.cls ≠ "java/lang/invoke/MethodHandle" ∧ y.cls ≠ "java/lang/invoke/VarHandle") (hpd : parseMethodDescriptor y.desc = some ⟨ps, rt⟩) (hps : as'.length = ps.length) {stk : List Value} (hst : stk = as'.reverse ++ .ref a :: st) (hP : pick O ip = CP) (hPR : pick (O ++ (RO ++ FZ)) ir = CR) (hn : ip.Nodup) (hdj : ∀ j ∈ ir, j ∉ ip) (hil : ∀ i ∈ ip, i < O.length) (hsz : Ls.size = maxL) (hf : rm.frames + 1 ≤ R.frames) (hl : (st.map fun v => v.category).sum + (cl + 11) + rm.locals ≤ R.locals) (hc : k + rm.cells ≤ R.cells) (hs : n + rm.slots ≤ R.slots)
    (g : ∀ v O' FN vm T, Q v O' FN → Now nar EL Z own name bytes maxL ret p l e R s m args below meth c P vm T (k + rm.cells) (n + rm.slots) (merge O ip O') RO (FZ ++ FN) → Goes p e below Post (T.setTop (mkF m (pc + 3) Ls (v.toList ++ st)))) : Goes p e below Post (T.setTop (mkF m pc Ls stk)) := by
  obtain ⟨⟨hx, hby, hml, hr⟩, locs, X, h1, h2, h3, h4, H, r⟩ := id N
  obtain ⟨cB, kB, i1, i2, i3⟩ := isOf (s := s.setVm vm) (T := T) h2 rfl (H.atO hi).1
  obtain ⟨v, vm₁, B, hw₁, X', hS, hg, hq, st'⟩ := X.virtualBackS hx h3 (mvT (s := s.setVm vm) h2 w1) (mvT (s := s.setVm vm) h2 w2) (notFace_by (a1 := #[]) hu (mvT (s := s.setVm vm) h2 ws) (mvT (s := s.setVm vm) h2 wd)) (mvT (s := s.setVm vm) h2 w3) (mvT (s := s.setVm vm) h2 w4) hy (C.back N wc wz hP hPR hn hdj hf hl) i1 i3 (g := mkF m pc Ls stk) rfl (hsz.trans hml.symm) (Steps.refl _) (argsL := as') (rest := st) (lenOf hpd hps) hst (by show 2 * 0 + _ ≤ _; omega) (hb hby hd) (fun _ _ => ⟨rfl, rfl, hc, hs⟩)
  obtain ⟨O', FN, hQ, N'⟩ := N.after hP hn hil (fun _ _ => trivial) X' hS hg h4 hq
  exact (g v O' FN _ _ hQ N').pre fun t q => st'.trans q
theorem Now.callU (N : Now nar EL Z own name bytes maxL ret p l e R s m args below meth c P vm T k n O RO FZ) {a : Addr} {K S : String} {fs : List (Key × Value)} (C : Con nar EL l Z y cb cl cr rm (.ref a :: as') CP CR Q) {ps : List FieldType} {rt : Option FieldType} {u : MethodName} {D : String} (i : Nat) (ip ir : List Nat) (hd : decode bytes pc = .ok (.invokespecial idx, 3)) (w1 : (Cond.methodLink own idx y).before a0 Z = true) (w2 : (Cond.declares y).before a0 Z = true) (w3 : (Cond.instanceMethod y).before a0 Z = true) (w4 : (Cond.superclass own y.cls).before a0 Z = true) (hu : y.cls = u.cls) (ws : (Cond.selects D u u).before a0 Z = true) (wd : (Cond.declares u).before a0 Z = true) (wk : (Cond.castable K S).before a0 Z = true) (hni : y.name ≠ "<init>") (wz : (Cond.initialized y.cls).before a0 Z = true) (wc : (Cond.code y cb cl cr).before a0 Z = true)
    (hi : (O ++ (RO ++ FZ))[i]? = some (a, .inl (K, fs))) (hy : y.cls ≠ "java/lang/invoke/MethodHandle" ∧ y.cls ≠ "java/lang/invoke/VarHandle") (hpd : parseMethodDescriptor y.desc = some ⟨ps, rt⟩) (hps : as'.length = ps.length) {stk : List Value} (hst : stk = as'.reverse ++ .ref a :: st) (hP : pick O ip = CP) (hPR : pick (O ++ (RO ++ FZ)) ir = CR) (hn : ip.Nodup) (hdj : ∀ j ∈ ir, j ∉ ip) (hil : ∀ i ∈ ip, i < O.length) (hsz : Ls.size = maxL) (hf : rm.frames + 1 ≤ R.frames) (hl : (st.map fun v => v.category).sum + (cl + 11) + rm.locals ≤ R.locals) (hc : k + rm.cells ≤ R.cells) (hs : n + rm.slots ≤ R.slots)
    (g : ∀ v O' FN vm T, Q v O' FN → Now nar EL Z own name bytes maxL ret p l e R s m args below meth c P vm T (k + rm.cells) (n + rm.slots) (merge O ip O') RO (FZ ++ FN) → Goes p e below Post (T.setTop (mkF m (pc + 3) Ls (v.toList ++ st)))) : Goes p e below Post (T.setTop (mkF m pc Ls stk)) := by
  obtain ⟨⟨hx, hby, hml, hr⟩, locs, X, h1, h2, h3, h4, H, r⟩ := id N
  obtain ⟨v, vm₁, B, hw₁, X', hS, hg, hq, st'⟩ := superBackS X hx (s := s.setVm vm) h2 h3 w1 (same_of hy w2 (notFace_by hu ws wd)) w3 w4 hni (C.back N wc wz hP hPR hn hdj hf hl) rfl (Ins.of_exa (H.atO hi).1 wk) (g := mkF m pc Ls stk) rfl (hsz.trans hml.symm) wc (argsL := as') (rest := st) (lenOf hpd hps) hst (by show 2 * 0 + _ ≤ _; omega) (hb hby hd) (fun _ _ => ⟨rfl, rfl, hc, hs⟩)
  obtain ⟨O', FN, hQ, N'⟩ := N.after hP hn hil (fun _ _ => trivial) X' hS hg h4 hq
  exact (g v O' FN _ _ hQ N').pre fun t q => st'.trans q
end Calls
end Jvm.Own

namespace Jvm.Own
open Jvm Jvm.ClassFile Sem Op Lib Bundle Jvm.Free Jvm.Stand Jvm.LawKit Jvm.RoadKit
open Jvm.Free.XT (ushr ushrL cmpL)
/-! The framework, part 4: layouts, small numbers. -/
theorem lay_of {Z : State} {a0 : Array Value} {C : String} : ∀ {fs : List (Key × Value)}, (∀ f ∈ fs, Laid Z a0 C f.1.1 f.1.2.1 f.1.2.2 ∧ ∃ ty, parseFieldDescriptor f.1.2.2 = some ty ∧ f.2 = defaultValue ty) → (fs.map fun f => f.1.2.1).Nodup →
    (∀ f ∈ fs, Laid Z a0 C f.1.1 f.1.2.1 f.1.2.2 ∧ ∃ ty, parseFieldDescriptor f.1.2.2 = some ty ∧ f.2 = defaultValue ty) ∧ (fs.map fun f => slotK Z f.1).Nodup
  | [], H, _ => ⟨H, List.nodup_nil⟩
  | f :: r, H, hn => by
    obtain ⟨n1, n2⟩ := List.nodup_cons.mp hn
    have ih := lay_of (fs := r) (fun g hg => H g (List.mem_cons_of_mem _ hg)) n2
    refine ⟨H, List.nodup_cons.mpr ⟨fun q => ?_, ih.2⟩⟩
    obtain ⟨g, hg, e⟩ := List.mem_map.mp q
    obtain ⟨l1, t1, p1, -⟩ := H f (List.mem_cons_self ..)
    obtain ⟨l2, t2, p2, -⟩ := H g (List.mem_cons_of_mem _ hg)
    exact slot_ne l2 l1 (fun z => n1 (List.mem_map.mpr ⟨g, hg, z⟩)) p2 p1 e
theorem n_toInt {a : Nat} (h : a < 2 ^ 31) : a.toInt32.toInt = a := len_toInt h
theorem n_lt {a b : Nat} (ha : a < 2 ^ 31) (hb : b < 2 ^ 31) : a.toInt32 < b.toInt32 ↔ a < b := by
  rw [Int32.lt_iff_toInt_lt, n_toInt ha, n_toInt hb]; omega
theorem n_nat {a : Nat} (h : a < 2 ^ 31) : a.toInt32.toNatClampNeg = a := by
  simp only [Int32.toNatClampNeg, n_toInt h]; omega
theorem n_nneg {a : Nat} (h : a < 2 ^ 31) : ¬ a.toInt32 < 0 := by
  rw [Int32.lt_iff_toInt_lt, n_toInt h]; show ¬ (a : Int) < 0; omega
theorem n_eq {a b : Nat} (ha : a < 2 ^ 31) (hb : b < 2 ^ 31) : a.toInt32 = b.toInt32 ↔ a = b := by
  rw [← Int32.toInt_inj, n_toInt ha, n_toInt hb]; omega
theorem n_succ (a : Nat) : a.toInt32 + 1 = (a + 1).toInt32 := by
  show Int32.ofNat a + Int32.ofNat 1 = Int32.ofNat (a + 1)
  exact (Int32.ofNat_add a 1).symm
theorem lat_nneg {x : Int32} (h : Lat x) : ¬ x < 0 := by rw [Int32.lt_iff_toInt_lt]; show ¬ x.toInt < 0; have := h.1; omega
theorem lat_le {x : Int32} (h : Lat x) : ¬ (255 : Int32) < x := by rw [Int32.lt_iff_toInt_lt]; show ¬ 255 < x.toInt; have := h.2; omega
theorem lat_and (x : Int32) : Lat (x &&& 255) := by
  have h : (x &&& 255).toBitVec.toNat < 256 := by
    simp only [Int32.toBitVec_and, BitVec.toNat_and]
    exact Nat.lt_succ_of_le Nat.and_le_right
  have e : (x &&& 255).toInt = ((x &&& 255).toBitVec.toNat : Int) := by
    show (x &&& 255).toBitVec.toInt = _
    rw [BitVec.toInt_eq_toNat_cond, if_pos (by omega)]
  unfold Lat
  omega
theorem i2c_lat {x : Int32} (h : Lat x) : x.toUInt32.toUInt16.toUInt32.toInt32 = x := by
  apply Int32.toBitVec_inj.mp
  apply BitVec.eq_of_toNat_eq
  have h1 := h.1; have h2 := h.2
  have hx : x.toBitVec.toNat < 256 := by
    have e : x.toInt = x.toBitVec.toInt := rfl
    rw [e, BitVec.toInt_eq_toNat_cond] at h1 h2
    have := x.toBitVec.isLt
    split at h1 <;> omega
  have e : x.toUInt32.toUInt16.toUInt32.toInt32.toBitVec.toNat = x.toUInt32.toUInt16.toUInt32.toNat := rfl
  rw [e, UInt16.toNat_toUInt32, UInt32.toNat_toUInt16]
  show x.toBitVec.toNat % 2 ^ 16 = _
  omega
theorem nar_lat {x : Int32} (h : Lat x) : nar .char x = x := i2c_lat h
theorem narrow_lat {x : Int32} (h : Lat x) : narrow .char (.int x) = .int x := congrArg Value.int (i2c_lat h)
theorem by8_inj {x y : Int32} (hx : Lat x) (hy : Lat y) (h : by8 x = by8 y) : x = y := by
  have h1 : x.toInt8 = y.toInt8 := by
    have := congrArg Int32.toInt8 h
    simpa [by8] using this
  have h2 := congrArg Int8.toInt h1
  rw [Int32.toInt_toInt8, Int32.toInt_toInt8] at h2
  apply Int32.toInt_inj.mp
  have := hx.1; have := hx.2; have := hy.1; have := hy.2
  simp only [Int.bmod_def] at h2
  split at h2 <;> split at h2 <;> omega
end Jvm.Own

namespace Jvm.Own
open Jvm Jvm.ClassFile Sem Op Lib Bundle Jvm.Free Jvm.Stand Jvm.LawKit Jvm.RoadKit
open Jvm.Free.XT (ushr ushrL cmpL)
/-! The framework, part 5: System.arraycopy between arrays of one kind, not of references. -/
section Copy
variable {nar : Bool} {EL : List (String × Nat)} {Z : State} {a0 : Array Value} {own name : String} {bytes : ByteArray} {maxL : Nat} {ret : Option FieldType} {p : Program} {l : Launch} {e : Env} {R : Room} {s : State} {m : MethodId} {args : Array Value} {below : List Frame} {meth : Method} {c : Code} {P O RO O' FZ : HL}
variable {vm : Vm} {T : State} {k n : Nat} {Post : Outcome → State → Prop} {pc : Nat} {Ls : Array Slot} {st : List Value} {h h' : Heap} {n0 i : Nat} {a : Addr} {o o' : Ob}
/-- the i-th alone is turned -/
theorem HI.kp (H : HI Z EL vm h n0 O RO FZ) (hal : Z.vm.Alike vm) (hi : O[i]? = some (a, o)) (K : Keep h h' [a]) (F : Is Z h' a o') : HI Z EL vm h' n0 (O.set i (a, o')) RO FZ := by
  obtain ⟨h1, h2, h3, h4, h5, h6⟩ := H
  have hm := List.mem_of_getElem? hi
  have S := (h3 _ hm).2.2
  have G := (h3 _ hm).2.1
  have Sl : ∀ x ∈ [a], Safe Z EL vm h x := fun x hx => by rw [List.mem_singleton.mp hx]; exact S
  have fst : (O.set i (a, o')).map (·.1) = O.map (·.1) := by rw [List.map_set]; exact set_same (x := a) (at_fst hi)
  have ap : ∀ x, Apart O x → Apart (O.set i (a, o')) x := fun x hA p hp => by
    have : p.1 ∈ (O.set i (a, o')).map (·.1) := List.mem_map.mpr ⟨p, hp, rfl⟩
    rw [fst] at this
    obtain ⟨p', q1, q2⟩ := List.mem_map.mp this
    rw [← q2]; exact hA p' q1
  have st : ∀ x, x < h.size → x ≠ a → h'[x]? = h[x]? := fun x hx hn => same_keep K hx fun z => hn (List.mem_singleton.mp z)
  have lx : ∀ y, LitX Z EL vm h y → LitX Z EL vm h' y := fun y L => L.step fun y hy L => st y hy fun e => L.ne hal h2 S e.symm
  refine ⟨⟨Nat.le_trans h1.1 K.1, fun x c q => K.2.1 x c (h1.2 x c q) fun z => ?_⟩, h2.keep K Sl, fun p hp => ?_, by rw [fst]; exact h4, fun q hq => (h5 q hq).step fun x hx hA => ⟨st x hx fun e => hA _ hm e.symm, ap x hA⟩, fun q hq => (h6 q hq).step fun x hx hA => ⟨st x hx fun e => hA.1 _ hm e.symm, ap x hA.1, hA.2.imp id (lx x)⟩⟩
  · have e := List.mem_singleton.mp z
    have l1 := (Array.getElem?_eq_some_iff.mp q).1
    rw [e] at l1
    exact Nat.lt_irrefl _ (Nat.lt_of_lt_of_le l1 G)
  · obtain ⟨j, hj⟩ := List.mem_iff_getElem?.mp hp
    by_cases e : i = j
    · subst e
      rw [List.getElem?_set_self (List.getElem?_eq_some_iff.mp hi).1] at hj
      cases hj
      exact ⟨F, G, Safe.keep K Sl h2 S⟩
    · rw [List.getElem?_set_ne e] at hj
      have hpO := List.mem_of_getElem? hj
      have hne : p.1 ≠ a := fun q => by
        have a1 := at_fst hi
        have a2 := at_fst hj
        rw [q] at a2
        exact e (nodup_at h4 a1 a2)
      exact ⟨(h3 p hpO).1.keep K (fun z => hne (List.mem_singleton.mp z)), (h3 p hpO).2.1, Safe.keep K Sl h2 (h3 p hpO).2.2⟩
theorem range_getD {vs : List Value} {p n : Nat} {d : Value} (h : p + n ≤ vs.length) : (vs.drop p).take n = (List.range n).map fun i => vs.getD (p + i) d := by
  apply List.ext_getElem
  · simp; omega
  · intro i h1 h2
    have : p + i < vs.length := by simp at h1; omega
    simp [this]
theorem ArL.len {ty : FieldType} {vs : List Value} (F : ArL Z h a ty vs) : vs.length < 2 ^ 31 := by obtain ⟨c, A, q1, q2, q3⟩ := F; exact q2
theorem Now.arraycopy (N : Now nar EL Z own name bytes maxL ret p l e R s m args below meth c P vm T k n O RO FZ) {idx : Nat} {a b : Addr} {ty : FieldType} {vs vd : List Value} {zs zd zn : Int32} {ud : List Value} (ia ib ps pd nn : Nat) (hd : decode bytes pc = .ok (.invokestatic idx, 3)) (w1 : (Cond.methodLink own idx Jvm.Stand.acN).before a0 Z = true) (w2 : (Cond.native Jvm.Stand.acN).before a0 Z = true) (w3 : (Cond.static Jvm.Stand.acN).before a0 Z = true) (w4 : (Cond.initialized "java/lang/System").before a0 Z = true)
    (hia : (O ++ (RO ++ FZ))[ia]? = some (a, aO ty vs)) (hib : O[ib]? = some (b, aO ty vd)) (hk : refKind ty = false) (hC : ∀ C, ty ≠ .object C) (e1 : zs.toNatClampNeg = ps) (h1 : ¬ zs < 0) (e2 : zd.toNatClampNeg = pd) (h2 : ¬ zd < 0) (e3 : zn.toNatClampNeg = nn) (h3 : ¬ zn < 0) (hs : ps + nn ≤ vs.length) (hdl : pd + nn ≤ vd.length) (ho : vd.take pd ++ (vs.drop ps).take nn ++ vd.drop (pd + nn) = ud) (hO : O.set ib (b, aO ty ud) = O') (hsz : Ls.size = maxL) (hf : 1 ≤ R.frames) (hl : (st.map fun v => v.category).sum + (nativeFrameWords "java/lang/System" "arraycopy" 5 + 11) ≤ R.locals)
    (g : ∀ T, Now nar EL Z own name bytes maxL ret p l e R s m args below meth c P vm T k n O' RO FZ → Goes p e below Post (T.setTop (mkF m (pc + 3) Ls st))) : Goes p e below Post (T.setTop (mkF m pc Ls (.int zn :: .int zd :: .ref b :: .int zs :: .ref a :: st))) := by
  subst ho hO e1 e2 e3
  obtain ⟨⟨hx, hby, hml, hr⟩, locs, X, k1, k2, k3, k4, H, K, CR, hw, L⟩ := id N
  have hb' := H.2.2.1 _ (List.mem_of_getElem? hib)
  have Ia : ArL Z T.heap a ty vs := H.atA hia
  have Ib : ArL Z T.heap b ty vd := hb'.1
  obtain ⟨cA, AV⟩ := arv_of_arl .null (z := vs.length.toInt32) Ia (n_nneg Ia.len) (n_nat Ia.len)
  obtain ⟨cB, BV⟩ := arv_of_arl .null (z := vd.length.toInt32) Ib (n_nneg Ib.len) (n_nat Ib.len)
  obtain ⟨T', hh, L', X', e', F', K', BV', st'⟩ := cpA X hx (s := s.setVm vm) k2 k3 w1 w2 w3 w4 rfl AV BV (Or.inl ⟨rfl, hk⟩) h1 h2 h3 (by rw [n_nat Ia.len]; exact hs) (by rw [n_nat Ib.len]; exact hdl) (range_getD hs) hdl k4 hb'.2.1 (g := mkF m pc Ls (.int zn :: .int zd :: .ref b :: .int zs :: .ref a :: st)) rfl (hsz.trans hml.symm) rfl (hb hby hd) hf (W := (st.map fun v => v.category).sum) (by show 2 * 0 + _ ≤ _; omega) hl
  subst e'
  have hlen : (vd.take zd.toNatClampNeg ++ (vs.drop zs.toNatClampNeg).take zn.toNatClampNeg ++ vd.drop (zd.toNatClampNeg + zn.toNatClampNeg)).length = vd.length := by simp; omega
  have FB : Is Z T'.heap b (aO ty (vd.take zd.toNatClampNeg ++ (vs.drop zs.toNatClampNeg).take zn.toNatClampNeg ++ vd.drop (zd.toNatClampNeg + zn.toNatClampNeg))) := arl_of_arv BV' (by rw [n_nat Ib.len, hlen]) hC
  refine (g T' ⟨⟨hx, hby, hml, hr⟩, L', X', ⟨k1.1, k1.2.mono K'.1⟩, k2, k3, F', H.kp k2.alike hib K' FB, K.trans K' (fun x hx => by rw [List.mem_singleton.mp hx]; exact in_P L hib), CR.trans (CHr.keep K' (fun x hx => by rw [List.mem_singleton.mp hx]; exact hb'.2.2) H.2.1), hw, L.set hib⟩).pre st'
end Copy
end Jvm.Own

namespace Jvm.Pilot.@@N@@
open Jvm Jvm.ClassFile Sem Op Lib Jvm.Free Jvm.Stand Jvm.LawKit Jvm.RoadKit Bundle Jvm.Own Jvm.Pilot.@@N@@.Jvm.D
open Jvm.Free.XT (ushr ushrL cmpL)
abbrev HW (Z : State) (a0 : Array Value) : Prop := ∀ d ∈ tables_1, d.before a0 Z = true
abbrev NR : Bool := false
abbrev ELs : List (String × Nat) := [("com/example/shoalwork/shoalwork/task/TaskSpec", 7), ("com/example/shoalwork/shoalwork/task/TaskSpec", 15), ("com/example/shoalwork/shoalwork/task/TaskSpec", 68), ("java/lang/String", 7)]
theorem w0 {Z : State} {a0 : Array Value} (hw : HW Z a0) : (Jvm.Cond.methodLink "com/example/shoalwork/shoalwork/task/TaskSpecToStringPinLaw" (12 : Nat) ({ cls := "com/example/shoalwork/shoalwork/task/TaskSpecToStringPinLaw", name := "kindChar", desc := "(I)C" } : Jvm.MethodName)).before a0 Z = true := hw _ (List.mem_of_getElem? (i := 0) rfl)
theorem w1 {Z : State} {a0 : Array Value} (hw : HW Z a0) : (Jvm.Cond.static ({ cls := "com/example/shoalwork/shoalwork/task/TaskSpecToStringPinLaw", name := "kindChar", desc := "(I)C" } : Jvm.MethodName)).before a0 Z = true := hw _ (List.mem_of_getElem? (i := 1) rfl)
theorem w2 {Z : State} {a0 : Array Value} (hw : HW Z a0) : (Jvm.Cond.initialized "com/example/shoalwork/shoalwork/task/TaskSpecToStringPinLaw").before a0 Z = true := hw _ (List.mem_of_getElem? (i := 2) rfl)
theorem w3 {Z : State} {a0 : Array Value} (hw : HW Z a0) : (Jvm.Cond.code ({ cls := "com/example/shoalwork/shoalwork/task/TaskSpecToStringPinLaw", name := "kindChar", desc := "(I)C" } : Jvm.MethodName) method_2_code (2 : Nat) (Option.some Jvm.ClassFile.FieldType.char)).before a0 Z = true := hw _ (List.mem_of_getElem? (i := 3) rfl)
theorem w4 {Z : State} {a0 : Array Value} (hw : HW Z a0) : (Jvm.Cond.methodLink "com/example/shoalwork/shoalwork/task/TaskSpecToStringPinLaw" (18 : Nat) ({ cls := "com/example/shoalwork/shoalwork/task/TaskSpecToStringPinLaw", name := "make", desc := "(ICC)Ljava/lang/String;" } : Jvm.MethodName)).before a0 Z = true := hw _ (List.mem_of_getElem? (i := 4) rfl)
theorem w5 {Z : State} {a0 : Array Value} (hw : HW Z a0) : (Jvm.Cond.static ({ cls := "com/example/shoalwork/shoalwork/task/TaskSpecToStringPinLaw", name := "make", desc := "(ICC)Ljava/lang/String;" } : Jvm.MethodName)).before a0 Z = true := hw _ (List.mem_of_getElem? (i := 5) rfl)
theorem w6 {Z : State} {a0 : Array Value} (hw : HW Z a0) : (Jvm.Cond.code ({ cls := "com/example/shoalwork/shoalwork/task/TaskSpecToStringPinLaw", name := "make", desc := "(ICC)Ljava/lang/String;" } : Jvm.MethodName) method_3_code (4 : Nat) (Option.some (Jvm.ClassFile.FieldType.object "java/lang/String"))).before a0 Z = true := hw _ (List.mem_of_getElem? (i := 6) rfl)
theorem w7 {Z : State} {a0 : Array Value} (hw : HW Z a0) : (Jvm.Cond.arrayClass Jvm.ClassFile.FieldType.char).before a0 Z = true := hw _ (List.mem_of_getElem? (i := 7) rfl)
theorem w8 {Z : State} {a0 : Array Value} (hw : HW Z a0) : (Jvm.Cond.classLink "com/example/shoalwork/shoalwork/task/TaskSpecToStringPinLaw" (7 : Nat) "java/lang/String").before a0 Z = true := hw _ (List.mem_of_getElem? (i := 8) rfl)
theorem w9 {Z : State} {a0 : Array Value} (hw : HW Z a0) : (Jvm.Cond.instantiable "java/lang/String" (4 : Nat)).before a0 Z = true := hw _ (List.mem_of_getElem? (i := 9) rfl)
theorem w10 {Z : State} {a0 : Array Value} (hw : HW Z a0) : (Jvm.Cond.initialized "java/lang/String").before a0 Z = true := hw _ (List.mem_of_getElem? (i := 10) rfl)
theorem w11 {Z : State} {a0 : Array Value} (hw : HW Z a0) : (Jvm.Cond.methodLink "com/example/shoalwork/shoalwork/task/TaskSpecToStringPinLaw" (9 : Nat) ({ cls := "java/lang/String", name := "<init>", desc := "([C)V" } : Jvm.MethodName)).before a0 Z = true := hw _ (List.mem_of_getElem? (i := 11) rfl)
theorem w12 {Z : State} {a0 : Array Value} (hw : HW Z a0) : (Jvm.Cond.instanceMethod ({ cls := "java/lang/String", name := "<init>", desc := "([C)V" } : Jvm.MethodName)).before a0 Z = true := hw _ (List.mem_of_getElem? (i := 12) rfl)
theorem w13 {Z : State} {a0 : Array Value} (hw : HW Z a0) : (Jvm.Cond.code ({ cls := "java/lang/String", name := "<init>", desc := "([C)V" } : Jvm.MethodName) jdk_42_method_3_code (2 : Nat) (Option.none : Option Jvm.ClassFile.FieldType)).before a0 Z = true := hw _ (List.mem_of_getElem? (i := 13) rfl)
theorem w14 {Z : State} {a0 : Array Value} (hw : HW Z a0) : (Jvm.Cond.methodLink "java/lang/String" (27 : Nat) ({ cls := "java/lang/String", name := "<init>", desc := "([CIILjava/lang/Void;)V" } : Jvm.MethodName)).before a0 Z = true := hw _ (List.mem_of_getElem? (i := 14) rfl)
theorem w15 {Z : State} {a0 : Array Value} (hw : HW Z a0) : (Jvm.Cond.instanceMethod ({ cls := "java/lang/String", name := "<init>", desc := "([CIILjava/lang/Void;)V" } : Jvm.MethodName)).before a0 Z = true := hw _ (List.mem_of_getElem? (i := 15) rfl)
theorem w17 {Z : State} {a0 : Array Value} (hw : HW Z a0) : (Jvm.Cond.code ({ cls := "java/lang/String", name := "<init>", desc := "([CIILjava/lang/Void;)V" } : Jvm.MethodName) jdk_42_method_149_code (6 : Nat) (Option.none : Option Jvm.ClassFile.FieldType)).before a0 Z = true := hw _ (List.mem_of_getElem? (i := 17) rfl)
theorem w18 {Z : State} {a0 : Array Value} (hw : HW Z a0) : (Jvm.Cond.methodLink "java/lang/String" (1 : Nat) ({ cls := "java/lang/Object", name := "<init>", desc := "()V" } : Jvm.MethodName)).before a0 Z = true := hw _ (List.mem_of_getElem? (i := 18) rfl)
theorem w19 {Z : State} {a0 : Array Value} (hw : HW Z a0) : (Jvm.Cond.instanceMethod ({ cls := "java/lang/Object", name := "<init>", desc := "()V" } : Jvm.MethodName)).before a0 Z = true := hw _ (List.mem_of_getElem? (i := 19) rfl)
theorem w20 {Z : State} {a0 : Array Value} (hw : HW Z a0) : (Jvm.Cond.code ({ cls := "java/lang/Object", name := "<init>", desc := "()V" } : Jvm.MethodName) object_method_1_code (1 : Nat) (Option.none : Option Jvm.ClassFile.FieldType)).before a0 Z = true := hw _ (List.mem_of_getElem? (i := 20) rfl)
theorem w21 {Z : State} {a0 : Array Value} (hw : HW Z a0) : (Jvm.Cond.fieldLink "java/lang/String" (38 : Nat) "java/lang/String" "COMPACT_STRINGS" "Z").before a0 Z = true := hw _ (List.mem_of_getElem? (i := 21) rfl)
theorem w22 {Z : State} {a0 : Array Value} (hw : HW Z a0) : (Jvm.Cond.methodLink "java/lang/String" (177 : Nat) ({ cls := "java/lang/StringUTF16", name := "compress", desc := "([CII)[B" } : Jvm.MethodName)).before a0 Z = true := hw _ (List.mem_of_getElem? (i := 22) rfl)
theorem w23 {Z : State} {a0 : Array Value} (hw : HW Z a0) : (Jvm.Cond.static ({ cls := "java/lang/StringUTF16", name := "compress", desc := "([CII)[B" } : Jvm.MethodName)).before a0 Z = true := hw _ (List.mem_of_getElem? (i := 23) rfl)
theorem w24 {Z : State} {a0 : Array Value} (hw : HW Z a0) : (Jvm.Cond.initialized "java/lang/StringUTF16").before a0 Z = true := hw _ (List.mem_of_getElem? (i := 24) rfl)
theorem w25 {Z : State} {a0 : Array Value} (hw : HW Z a0) : (Jvm.Cond.code ({ cls := "java/lang/StringUTF16", name := "compress", desc := "([CII)[B" } : Jvm.MethodName) jdk_52_method_16_code (6 : Nat) (Option.some (Jvm.ClassFile.FieldType.array Jvm.ClassFile.FieldType.byte))).before a0 Z = true := hw _ (List.mem_of_getElem? (i := 25) rfl)
theorem w26 {Z : State} {a0 : Array Value} (hw : HW Z a0) : (Jvm.Cond.arrayClass Jvm.ClassFile.FieldType.byte).before a0 Z = true := hw _ (List.mem_of_getElem? (i := 26) rfl)
theorem w27 {Z : State} {a0 : Array Value} (hw : HW Z a0) : (Jvm.Cond.methodLink "java/lang/StringUTF16" (115 : Nat) ({ cls := "java/lang/StringUTF16", name := "compress", desc := "([CI[BII)I" } : Jvm.MethodName)).before a0 Z = true := hw _ (List.mem_of_getElem? (i := 27) rfl)
theorem w28 {Z : State} {a0 : Array Value} (hw : HW Z a0) : (Jvm.Cond.static ({ cls := "java/lang/StringUTF16", name := "compress", desc := "([CI[BII)I" } : Jvm.MethodName)).before a0 Z = true := hw _ (List.mem_of_getElem? (i := 28) rfl)
theorem w29 {Z : State} {a0 : Array Value} (hw : HW Z a0) : (Jvm.Cond.code ({ cls := "java/lang/StringUTF16", name := "compress", desc := "([CI[BII)I" } : Jvm.MethodName) jdk_52_method_21_code (7 : Nat) (Option.some Jvm.ClassFile.FieldType.int)).before a0 Z = true := hw _ (List.mem_of_getElem? (i := 29) rfl)
theorem w30 {Z : State} {a0 : Array Value} (hw : HW Z a0) : (Jvm.Cond.methodLink "java/lang/String" (47 : Nat) ({ cls := "java/lang/StringUTF16", name := "coderFromArrayLen", desc := "([BI)B" } : Jvm.MethodName)).before a0 Z = true := hw _ (List.mem_of_getElem? (i := 30) rfl)
theorem w31 {Z : State} {a0 : Array Value} (hw : HW Z a0) : (Jvm.Cond.static ({ cls := "java/lang/StringUTF16", name := "coderFromArrayLen", desc := "([BI)B" } : Jvm.MethodName)).before a0 Z = true := hw _ (List.mem_of_getElem? (i := 31) rfl)
theorem w32 {Z : State} {a0 : Array Value} (hw : HW Z a0) : (Jvm.Cond.code ({ cls := "java/lang/StringUTF16", name := "coderFromArrayLen", desc := "([BI)B" } : Jvm.MethodName) jdk_52_method_15_code (2 : Nat) (Option.some Jvm.ClassFile.FieldType.byte)).before a0 Z = true := hw _ (List.mem_of_getElem? (i := 32) rfl)
theorem w33 {Z : State} {a0 : Array Value} (hw : HW Z a0) : (Jvm.Cond.fieldLink "java/lang/String" (15 : Nat) "java/lang/String" "coder" "B").before a0 Z = true := hw _ (List.mem_of_getElem? (i := 33) rfl)
theorem w34 {Z : State} {a0 : Array Value} (hw : HW Z a0) : (Jvm.Cond.laysFinal "java/lang/String" "java/lang/String" "coder" "B").before a0 Z = true := hw _ (List.mem_of_getElem? (i := 34) rfl)
theorem w35 {Z : State} {a0 : Array Value} (hw : HW Z a0) : (Jvm.Cond.fieldLink "java/lang/String" (9 : Nat) "java/lang/String" "value" "[B").before a0 Z = true := hw _ (List.mem_of_getElem? (i := 35) rfl)
theorem w36 {Z : State} {a0 : Array Value} (hw : HW Z a0) : (Jvm.Cond.laysFinal "java/lang/String" "java/lang/String" "value" "[B").before a0 Z = true := hw _ (List.mem_of_getElem? (i := 36) rfl)
theorem w37 {Z : State} {a0 : Array Value} (hw : HW Z a0) : (Jvm.Cond.classLink "com/example/shoalwork/shoalwork/task/TaskSpecToStringPinLaw" (22 : Nat) "com/example/shoalwork/shoalwork/task/TaskSpec").before a0 Z = true := hw _ (List.mem_of_getElem? (i := 37) rfl)
theorem w38 {Z : State} {a0 : Array Value} (hw : HW Z a0) : (Jvm.Cond.instantiable "com/example/shoalwork/shoalwork/task/TaskSpec" (2 : Nat)).before a0 Z = true := hw _ (List.mem_of_getElem? (i := 38) rfl)
theorem w39 {Z : State} {a0 : Array Value} (hw : HW Z a0) : (Jvm.Cond.initialized "com/example/shoalwork/shoalwork/task/TaskSpec").before a0 Z = true := hw _ (List.mem_of_getElem? (i := 39) rfl)
theorem w40 {Z : State} {a0 : Array Value} (hw : HW Z a0) : (Jvm.Cond.methodLink "com/example/shoalwork/shoalwork/task/TaskSpecToStringPinLaw" (24 : Nat) ({ cls := "com/example/shoalwork/shoalwork/task/TaskSpec", name := "<init>", desc := "(Ljava/lang/String;Ljava/lang/String;)V" } : Jvm.MethodName)).before a0 Z = true := hw _ (List.mem_of_getElem? (i := 40) rfl)
theorem w41 {Z : State} {a0 : Array Value} (hw : HW Z a0) : (Jvm.Cond.instanceMethod ({ cls := "com/example/shoalwork/shoalwork/task/TaskSpec", name := "<init>", desc := "(Ljava/lang/String;Ljava/lang/String;)V" } : Jvm.MethodName)).before a0 Z = true := hw _ (List.mem_of_getElem? (i := 41) rfl)
theorem w42 {Z : State} {a0 : Array Value} (hw : HW Z a0) : (Jvm.Cond.code ({ cls := "com/example/shoalwork/shoalwork/task/TaskSpec", name := "<init>", desc := "(Ljava/lang/String;Ljava/lang/String;)V" } : Jvm.MethodName) prog_31_method_1_code (3 : Nat) (Option.none : Option Jvm.ClassFile.FieldType)).before a0 Z = true := hw _ (List.mem_of_getElem? (i := 42) rfl)
theorem w43 {Z : State} {a0 : Array Value} (hw : HW Z a0) : (Jvm.Cond.methodLink "com/example/shoalwork/shoalwork/task/TaskSpec" (1 : Nat) ({ cls := "java/lang/Record", name := "<init>", desc := "()V" } : Jvm.MethodName)).before a0 Z = true := hw _ (List.mem_of_getElem? (i := 43) rfl)
theorem w44 {Z : State} {a0 : Array Value} (hw : HW Z a0) : (Jvm.Cond.instanceMethod ({ cls := "java/lang/Record", name := "<init>", desc := "()V" } : Jvm.MethodName)).before a0 Z = true := hw _ (List.mem_of_getElem? (i := 44) rfl)
theorem w46 {Z : State} {a0 : Array Value} (hw : HW Z a0) : (Jvm.Cond.initialized "java/lang/Record").before a0 Z = true := hw _ (List.mem_of_getElem? (i := 46) rfl)
theorem w47 {Z : State} {a0 : Array Value} (hw : HW Z a0) : (Jvm.Cond.code ({ cls := "java/lang/Record", name := "<init>", desc := "()V" } : Jvm.MethodName) jdk_30_method_1_code (1 : Nat) (Option.none : Option Jvm.ClassFile.FieldType)).before a0 Z = true := hw _ (List.mem_of_getElem? (i := 47) rfl)
theorem w48 {Z : State} {a0 : Array Value} (hw : HW Z a0) : (Jvm.Cond.methodLink "java/lang/Record" (1 : Nat) ({ cls := "java/lang/Object", name := "<init>", desc := "()V" } : Jvm.MethodName)).before a0 Z = true := hw _ (List.mem_of_getElem? (i := 48) rfl)
theorem w49 {Z : State} {a0 : Array Value} (hw : HW Z a0) : (Jvm.Cond.stringLink "com/example/shoalwork/shoalwork/task/TaskSpec" (7 : Nat) "kind").before a0 Z = true := hw _ (List.mem_of_getElem? (i := 49) rfl)
theorem w50 {Z : State} {a0 : Array Value} (hw : HW Z a0) : (Jvm.Cond.soleField "java/lang/String" "value").before a0 Z = true := hw _ (List.mem_of_getElem? (i := 50) rfl)
theorem w51 {Z : State} {a0 : Array Value} (hw : HW Z a0) : (Jvm.Cond.soleField "java/lang/String" "coder").before a0 Z = true := hw _ (List.mem_of_getElem? (i := 51) rfl)
theorem w52 {Z : State} {a0 : Array Value} (hw : HW Z a0) : (Jvm.Cond.methodLink "com/example/shoalwork/shoalwork/task/TaskSpec" (9 : Nat) ({ cls := "java/util/Objects", name := "requireNonNull", desc := "(Ljava/lang/Object;Ljava/lang/String;)Ljava/lang/Object;" } : Jvm.MethodName)).before a0 Z = true := hw _ (List.mem_of_getElem? (i := 52) rfl)
theorem w53 {Z : State} {a0 : Array Value} (hw : HW Z a0) : (Jvm.Cond.static ({ cls := "java/util/Objects", name := "requireNonNull", desc := "(Ljava/lang/Object;Ljava/lang/String;)Ljava/lang/Object;" } : Jvm.MethodName)).before a0 Z = true := hw _ (List.mem_of_getElem? (i := 53) rfl)
theorem w54 {Z : State} {a0 : Array Value} (hw : HW Z a0) : (Jvm.Cond.initialized "java/util/Objects").before a0 Z = true := hw _ (List.mem_of_getElem? (i := 54) rfl)
theorem w55 {Z : State} {a0 : Array Value} (hw : HW Z a0) : (Jvm.Cond.code ({ cls := "java/util/Objects", name := "requireNonNull", desc := "(Ljava/lang/Object;Ljava/lang/String;)Ljava/lang/Object;" } : Jvm.MethodName) jdk_31_method_11_code (2 : Nat) (Option.some (Jvm.ClassFile.FieldType.object "java/lang/Object"))).before a0 Z = true := hw _ (List.mem_of_getElem? (i := 55) rfl)
theorem w56 {Z : State} {a0 : Array Value} (hw : HW Z a0) : (Jvm.Cond.stringLink "com/example/shoalwork/shoalwork/task/TaskSpec" (15 : Nat) "argument").before a0 Z = true := hw _ (List.mem_of_getElem? (i := 56) rfl)
theorem w57 {Z : State} {a0 : Array Value} (hw : HW Z a0) : (Jvm.Cond.methodLink "com/example/shoalwork/shoalwork/task/TaskSpec" (17 : Nat) ({ cls := "java/lang/String", name := "isEmpty", desc := "()Z" } : Jvm.MethodName)).before a0 Z = true := hw _ (List.mem_of_getElem? (i := 57) rfl)
theorem w58 {Z : State} {a0 : Array Value} (hw : HW Z a0) : (Jvm.Cond.declares ({ cls := "java/lang/String", name := "isEmpty", desc := "()Z" } : Jvm.MethodName)).before a0 Z = true := hw _ (List.mem_of_getElem? (i := 58) rfl)
theorem w59 {Z : State} {a0 : Array Value} (hw : HW Z a0) : (Jvm.Cond.instanceMethod ({ cls := "java/lang/String", name := "isEmpty", desc := "()Z" } : Jvm.MethodName)).before a0 Z = true := hw _ (List.mem_of_getElem? (i := 59) rfl)
theorem w60 {Z : State} {a0 : Array Value} (hw : HW Z a0) : (Jvm.Cond.selects "java/lang/String" ({ cls := "java/lang/String", name := "isEmpty", desc := "()Z" } : Jvm.MethodName) ({ cls := "java/lang/String", name := "isEmpty", desc := "()Z" } : Jvm.MethodName)).before a0 Z = true := hw _ (List.mem_of_getElem? (i := 60) rfl)
theorem w61 {Z : State} {a0 : Array Value} (hw : HW Z a0) : (Jvm.Cond.code ({ cls := "java/lang/String", name := "isEmpty", desc := "()Z" } : Jvm.MethodName) jdk_42_method_55_code (1 : Nat) (Option.some Jvm.ClassFile.FieldType.boolean)).before a0 Z = true := hw _ (List.mem_of_getElem? (i := 61) rfl)
theorem w62 {Z : State} {a0 : Array Value} (hw : HW Z a0) : (Jvm.Cond.methodLink "com/example/shoalwork/shoalwork/task/TaskSpec" (23 : Nat) ({ cls := "java/lang/String", name := "indexOf", desc := "(I)I" } : Jvm.MethodName)).before a0 Z = true := hw _ (List.mem_of_getElem? (i := 62) rfl)
theorem w63 {Z : State} {a0 : Array Value} (hw : HW Z a0) : (Jvm.Cond.declares ({ cls := "java/lang/String", name := "indexOf", desc := "(I)I" } : Jvm.MethodName)).before a0 Z = true := hw _ (List.mem_of_getElem? (i := 63) rfl)
theorem w64 {Z : State} {a0 : Array Value} (hw : HW Z a0) : (Jvm.Cond.instanceMethod ({ cls := "java/lang/String", name := "indexOf", desc := "(I)I" } : Jvm.MethodName)).before a0 Z = true := hw _ (List.mem_of_getElem? (i := 64) rfl)
theorem w65 {Z : State} {a0 : Array Value} (hw : HW Z a0) : (Jvm.Cond.selects "java/lang/String" ({ cls := "java/lang/String", name := "indexOf", desc := "(I)I" } : Jvm.MethodName) ({ cls := "java/lang/String", name := "indexOf", desc := "(I)I" } : Jvm.MethodName)).before a0 Z = true := hw _ (List.mem_of_getElem? (i := 65) rfl)
theorem w66 {Z : State} {a0 : Array Value} (hw : HW Z a0) : (Jvm.Cond.code ({ cls := "java/lang/String", name := "indexOf", desc := "(I)I" } : Jvm.MethodName) jdk_42_method_79_code (2 : Nat) (Option.some Jvm.ClassFile.FieldType.int)).before a0 Z = true := hw _ (List.mem_of_getElem? (i := 66) rfl)
theorem w67 {Z : State} {a0 : Array Value} (hw : HW Z a0) : (Jvm.Cond.methodLink "java/lang/String" (633 : Nat) ({ cls := "java/lang/String", name := "indexOf", desc := "(II)I" } : Jvm.MethodName)).before a0 Z = true := hw _ (List.mem_of_getElem? (i := 67) rfl)
theorem w68 {Z : State} {a0 : Array Value} (hw : HW Z a0) : (Jvm.Cond.declares ({ cls := "java/lang/String", name := "indexOf", desc := "(II)I" } : Jvm.MethodName)).before a0 Z = true := hw _ (List.mem_of_getElem? (i := 68) rfl)
theorem w69 {Z : State} {a0 : Array Value} (hw : HW Z a0) : (Jvm.Cond.instanceMethod ({ cls := "java/lang/String", name := "indexOf", desc := "(II)I" } : Jvm.MethodName)).before a0 Z = true := hw _ (List.mem_of_getElem? (i := 69) rfl)
theorem w70 {Z : State} {a0 : Array Value} (hw : HW Z a0) : (Jvm.Cond.selects "java/lang/String" ({ cls := "java/lang/String", name := "indexOf", desc := "(II)I" } : Jvm.MethodName) ({ cls := "java/lang/String", name := "indexOf", desc := "(II)I" } : Jvm.MethodName)).before a0 Z = true := hw _ (List.mem_of_getElem? (i := 70) rfl)
theorem w71 {Z : State} {a0 : Array Value} (hw : HW Z a0) : (Jvm.Cond.code ({ cls := "java/lang/String", name := "indexOf", desc := "(II)I" } : Jvm.MethodName) jdk_42_method_80_code (3 : Nat) (Option.some Jvm.ClassFile.FieldType.int)).before a0 Z = true := hw _ (List.mem_of_getElem? (i := 71) rfl)
theorem w72 {Z : State} {a0 : Array Value} (hw : HW Z a0) : (Jvm.Cond.methodLink "java/lang/String" (492 : Nat) ({ cls := "java/lang/String", name := "isLatin1", desc := "()Z" } : Jvm.MethodName)).before a0 Z = true := hw _ (List.mem_of_getElem? (i := 72) rfl)
theorem w73 {Z : State} {a0 : Array Value} (hw : HW Z a0) : (Jvm.Cond.declares ({ cls := "java/lang/String", name := "isLatin1", desc := "()Z" } : Jvm.MethodName)).before a0 Z = true := hw _ (List.mem_of_getElem? (i := 73) rfl)
theorem w74 {Z : State} {a0 : Array Value} (hw : HW Z a0) : (Jvm.Cond.instanceMethod ({ cls := "java/lang/String", name := "isLatin1", desc := "()Z" } : Jvm.MethodName)).before a0 Z = true := hw _ (List.mem_of_getElem? (i := 74) rfl)
theorem w75 {Z : State} {a0 : Array Value} (hw : HW Z a0) : (Jvm.Cond.selects "java/lang/String" ({ cls := "java/lang/String", name := "isLatin1", desc := "()Z" } : Jvm.MethodName) ({ cls := "java/lang/String", name := "isLatin1", desc := "()Z" } : Jvm.MethodName)).before a0 Z = true := hw _ (List.mem_of_getElem? (i := 75) rfl)
theorem w76 {Z : State} {a0 : Array Value} (hw : HW Z a0) : (Jvm.Cond.code ({ cls := "java/lang/String", name := "isLatin1", desc := "()Z" } : Jvm.MethodName) jdk_42_method_154_code (1 : Nat) (Option.some Jvm.ClassFile.FieldType.boolean)).before a0 Z = true := hw _ (List.mem_of_getElem? (i := 76) rfl)
theorem w77 {Z : State} {a0 : Array Value} (hw : HW Z a0) : (Jvm.Cond.methodLink "java/lang/String" (505 : Nat) ({ cls := "java/lang/String", name := "length", desc := "()I" } : Jvm.MethodName)).before a0 Z = true := hw _ (List.mem_of_getElem? (i := 77) rfl)
theorem w78 {Z : State} {a0 : Array Value} (hw : HW Z a0) : (Jvm.Cond.declares ({ cls := "java/lang/String", name := "length", desc := "()I" } : Jvm.MethodName)).before a0 Z = true := hw _ (List.mem_of_getElem? (i := 78) rfl)
theorem w79 {Z : State} {a0 : Array Value} (hw : HW Z a0) : (Jvm.Cond.instanceMethod ({ cls := "java/lang/String", name := "length", desc := "()I" } : Jvm.MethodName)).before a0 Z = true := hw _ (List.mem_of_getElem? (i := 79) rfl)
theorem w80 {Z : State} {a0 : Array Value} (hw : HW Z a0) : (Jvm.Cond.selects "java/lang/String" ({ cls := "java/lang/String", name := "length", desc := "()I" } : Jvm.MethodName) ({ cls := "java/lang/String", name := "length", desc := "()I" } : Jvm.MethodName)).before a0 Z = true := hw _ (List.mem_of_getElem? (i := 80) rfl)
theorem w81 {Z : State} {a0 : Array Value} (hw : HW Z a0) : (Jvm.Cond.code ({ cls := "java/lang/String", name := "length", desc := "()I" } : Jvm.MethodName) jdk_42_method_54_code (1 : Nat) (Option.some Jvm.ClassFile.FieldType.int)).before a0 Z = true := hw _ (List.mem_of_getElem? (i := 81) rfl)
theorem w82 {Z : State} {a0 : Array Value} (hw : HW Z a0) : (Jvm.Cond.methodLink "java/lang/String" (335 : Nat) ({ cls := "java/lang/String", name := "coder", desc := "()B" } : Jvm.MethodName)).before a0 Z = true := hw _ (List.mem_of_getElem? (i := 82) rfl)
theorem w83 {Z : State} {a0 : Array Value} (hw : HW Z a0) : (Jvm.Cond.declares ({ cls := "java/lang/String", name := "coder", desc := "()B" } : Jvm.MethodName)).before a0 Z = true := hw _ (List.mem_of_getElem? (i := 83) rfl)
theorem w84 {Z : State} {a0 : Array Value} (hw : HW Z a0) : (Jvm.Cond.instanceMethod ({ cls := "java/lang/String", name := "coder", desc := "()B" } : Jvm.MethodName)).before a0 Z = true := hw _ (List.mem_of_getElem? (i := 84) rfl)
theorem w85 {Z : State} {a0 : Array Value} (hw : HW Z a0) : (Jvm.Cond.selects "java/lang/String" ({ cls := "java/lang/String", name := "coder", desc := "()B" } : Jvm.MethodName) ({ cls := "java/lang/String", name := "coder", desc := "()B" } : Jvm.MethodName)).before a0 Z = true := hw _ (List.mem_of_getElem? (i := 85) rfl)
theorem w86 {Z : State} {a0 : Array Value} (hw : HW Z a0) : (Jvm.Cond.code ({ cls := "java/lang/String", name := "coder", desc := "()B" } : Jvm.MethodName) jdk_42_method_152_code (1 : Nat) (Option.some Jvm.ClassFile.FieldType.byte)).before a0 Z = true := hw _ (List.mem_of_getElem? (i := 86) rfl)
theorem w87 {Z : State} {a0 : Array Value} (hw : HW Z a0) : (Jvm.Cond.methodLink "java/lang/String" (637 : Nat) ({ cls := "java/lang/StringLatin1", name := "indexOf", desc := "([BIII)I" } : Jvm.MethodName)).before a0 Z = true := hw _ (List.mem_of_getElem? (i := 87) rfl)
theorem w88 {Z : State} {a0 : Array Value} (hw : HW Z a0) : (Jvm.Cond.static ({ cls := "java/lang/StringLatin1", name := "indexOf", desc := "([BIII)I" } : Jvm.MethodName)).before a0 Z = true := hw _ (List.mem_of_getElem? (i := 88) rfl)
theorem w89 {Z : State} {a0 : Array Value} (hw : HW Z a0) : (Jvm.Cond.initialized "java/lang/StringLatin1").before a0 Z = true := hw _ (List.mem_of_getElem? (i := 89) rfl)
theorem w90 {Z : State} {a0 : Array Value} (hw : HW Z a0) : (Jvm.Cond.code ({ cls := "java/lang/StringLatin1", name := "indexOf", desc := "([BIII)I" } : Jvm.MethodName) jdk_43_method_22_code (4 : Nat) (Option.some Jvm.ClassFile.FieldType.int)).before a0 Z = true := hw _ (List.mem_of_getElem? (i := 90) rfl)
theorem w91 {Z : State} {a0 : Array Value} (hw : HW Z a0) : (Jvm.Cond.methodLink "java/lang/StringLatin1" (88 : Nat) ({ cls := "java/lang/StringLatin1", name := "canEncode", desc := "(I)Z" } : Jvm.MethodName)).before a0 Z = true := hw _ (List.mem_of_getElem? (i := 91) rfl)
theorem w92 {Z : State} {a0 : Array Value} (hw : HW Z a0) : (Jvm.Cond.static ({ cls := "java/lang/StringLatin1", name := "canEncode", desc := "(I)Z" } : Jvm.MethodName)).before a0 Z = true := hw _ (List.mem_of_getElem? (i := 92) rfl)
theorem w93 {Z : State} {a0 : Array Value} (hw : HW Z a0) : (Jvm.Cond.code ({ cls := "java/lang/StringLatin1", name := "canEncode", desc := "(I)Z" } : Jvm.MethodName) jdk_43_method_4_code (1 : Nat) (Option.some Jvm.ClassFile.FieldType.boolean)).before a0 Z = true := hw _ (List.mem_of_getElem? (i := 93) rfl)
theorem w94 {Z : State} {a0 : Array Value} (hw : HW Z a0) : (Jvm.Cond.methodLink "java/lang/StringLatin1" (92 : Nat) ({ cls := "java/lang/Math", name := "max", desc := "(II)I" } : Jvm.MethodName)).before a0 Z = true := hw _ (List.mem_of_getElem? (i := 94) rfl)
theorem w95 {Z : State} {a0 : Array Value} (hw : HW Z a0) : (Jvm.Cond.static ({ cls := "java/lang/Math", name := "max", desc := "(II)I" } : Jvm.MethodName)).before a0 Z = true := hw _ (List.mem_of_getElem? (i := 95) rfl)
theorem w96 {Z : State} {a0 : Array Value} (hw : HW Z a0) : (Jvm.Cond.initialized "java/lang/Math").before a0 Z = true := hw _ (List.mem_of_getElem? (i := 96) rfl)
theorem w97 {Z : State} {a0 : Array Value} (hw : HW Z a0) : (Jvm.Cond.code ({ cls := "java/lang/Math", name := "max", desc := "(II)I" } : Jvm.MethodName) jdk_29_method_65_code (2 : Nat) (Option.some Jvm.ClassFile.FieldType.int)).before a0 Z = true := hw _ (List.mem_of_getElem? (i := 97) rfl)
theorem w98 {Z : State} {a0 : Array Value} (hw : HW Z a0) : (Jvm.Cond.methodLink "java/lang/StringLatin1" (38 : Nat) ({ cls := "java/lang/Math", name := "min", desc := "(II)I" } : Jvm.MethodName)).before a0 Z = true := hw _ (List.mem_of_getElem? (i := 98) rfl)
theorem w99 {Z : State} {a0 : Array Value} (hw : HW Z a0) : (Jvm.Cond.static ({ cls := "java/lang/Math", name := "min", desc := "(II)I" } : Jvm.MethodName)).before a0 Z = true := hw _ (List.mem_of_getElem? (i := 99) rfl)
theorem w100 {Z : State} {a0 : Array Value} (hw : HW Z a0) : (Jvm.Cond.code ({ cls := "java/lang/Math", name := "min", desc := "(II)I" } : Jvm.MethodName) jdk_29_method_69_code (2 : Nat) (Option.some Jvm.ClassFile.FieldType.int)).before a0 Z = true := hw _ (List.mem_of_getElem? (i := 100) rfl)
theorem w101 {Z : State} {a0 : Array Value} (hw : HW Z a0) : (Jvm.Cond.methodLink "java/lang/StringLatin1" (95 : Nat) ({ cls := "java/lang/StringLatin1", name := "indexOfChar", desc := "([BIII)I" } : Jvm.MethodName)).before a0 Z = true := hw _ (List.mem_of_getElem? (i := 101) rfl)
theorem w102 {Z : State} {a0 : Array Value} (hw : HW Z a0) : (Jvm.Cond.static ({ cls := "java/lang/StringLatin1", name := "indexOfChar", desc := "([BIII)I" } : Jvm.MethodName)).before a0 Z = true := hw _ (List.mem_of_getElem? (i := 102) rfl)
theorem w103 {Z : State} {a0 : Array Value} (hw : HW Z a0) : (Jvm.Cond.code ({ cls := "java/lang/StringLatin1", name := "indexOfChar", desc := "([BIII)I" } : Jvm.MethodName) jdk_43_method_23_code (6 : Nat) (Option.some Jvm.ClassFile.FieldType.int)).before a0 Z = true := hw _ (List.mem_of_getElem? (i := 103) rfl)
theorem w104 {Z : State} {a0 : Array Value} (hw : HW Z a0) : (Jvm.Cond.fieldLink "com/example/shoalwork/shoalwork/task/TaskSpec" (47 : Nat) "com/example/shoalwork/shoalwork/task/TaskSpec" "kind" "Ljava/lang/String;").before a0 Z = true := hw _ (List.mem_of_getElem? (i := 104) rfl)
theorem w105 {Z : State} {a0 : Array Value} (hw : HW Z a0) : (Jvm.Cond.laysFinal "com/example/shoalwork/shoalwork/task/TaskSpec" "com/example/shoalwork/shoalwork/task/TaskSpec" "kind" "Ljava/lang/String;").before a0 Z = true := hw _ (List.mem_of_getElem? (i := 105) rfl)
theorem w106 {Z : State} {a0 : Array Value} (hw : HW Z a0) : (Jvm.Cond.fieldLink "com/example/shoalwork/shoalwork/task/TaskSpec" (52 : Nat) "com/example/shoalwork/shoalwork/task/TaskSpec" "argument" "Ljava/lang/String;").before a0 Z = true := hw _ (List.mem_of_getElem? (i := 106) rfl)
theorem w107 {Z : State} {a0 : Array Value} (hw : HW Z a0) : (Jvm.Cond.laysFinal "com/example/shoalwork/shoalwork/task/TaskSpec" "com/example/shoalwork/shoalwork/task/TaskSpec" "argument" "Ljava/lang/String;").before a0 Z = true := hw _ (List.mem_of_getElem? (i := 107) rfl)
theorem w108 {Z : State} {a0 : Array Value} (hw : HW Z a0) : (Jvm.Cond.methodLink "com/example/shoalwork/shoalwork/task/TaskSpecToStringPinLaw" (27 : Nat) ({ cls := "com/example/shoalwork/shoalwork/task/TaskSpec", name := "toString", desc := "()Ljava/lang/String;" } : Jvm.MethodName)).before a0 Z = true := hw _ (List.mem_of_getElem? (i := 108) rfl)
theorem w109 {Z : State} {a0 : Array Value} (hw : HW Z a0) : (Jvm.Cond.declares ({ cls := "com/example/shoalwork/shoalwork/task/TaskSpec", name := "toString", desc := "()Ljava/lang/String;" } : Jvm.MethodName)).before a0 Z = true := hw _ (List.mem_of_getElem? (i := 109) rfl)
theorem w110 {Z : State} {a0 : Array Value} (hw : HW Z a0) : (Jvm.Cond.instanceMethod ({ cls := "com/example/shoalwork/shoalwork/task/TaskSpec", name := "toString", desc := "()Ljava/lang/String;" } : Jvm.MethodName)).before a0 Z = true := hw _ (List.mem_of_getElem? (i := 110) rfl)
theorem w111 {Z : State} {a0 : Array Value} (hw : HW Z a0) : (Jvm.Cond.selects "com/example/shoalwork/shoalwork/task/TaskSpec" ({ cls := "com/example/shoalwork/shoalwork/task/TaskSpec", name := "toString", desc := "()Ljava/lang/String;" } : Jvm.MethodName) ({ cls := "com/example/shoalwork/shoalwork/task/TaskSpec", name := "toString", desc := "()Ljava/lang/String;" } : Jvm.MethodName)).before a0 Z = true := hw _ (List.mem_of_getElem? (i := 111) rfl)
theorem w112 {Z : State} {a0 : Array Value} (hw : HW Z a0) : (Jvm.Cond.code ({ cls := "com/example/shoalwork/shoalwork/task/TaskSpec", name := "toString", desc := "()Ljava/lang/String;" } : Jvm.MethodName) prog_31_method_3_code (1 : Nat) (Option.some (Jvm.ClassFile.FieldType.object "java/lang/String"))).before a0 Z = true := hw _ (List.mem_of_getElem? (i := 112) rfl)
theorem w113 {Z : State} {a0 : Array Value} (hw : HW Z a0) : (Jvm.Cond.classLink "com/example/shoalwork/shoalwork/task/TaskSpec" (29 : Nat) "java/lang/StringBuilder").before a0 Z = true := hw _ (List.mem_of_getElem? (i := 113) rfl)
theorem w114 {Z : State} {a0 : Array Value} (hw : HW Z a0) : (Jvm.Cond.instantiable "java/lang/StringBuilder" (4 : Nat)).before a0 Z = true := hw _ (List.mem_of_getElem? (i := 114) rfl)
theorem w115 {Z : State} {a0 : Array Value} (hw : HW Z a0) : (Jvm.Cond.initialized "java/lang/StringBuilder").before a0 Z = true := hw _ (List.mem_of_getElem? (i := 115) rfl)
theorem w116 {Z : State} {a0 : Array Value} (hw : HW Z a0) : (Jvm.Cond.methodLink "com/example/shoalwork/shoalwork/task/TaskSpec" (31 : Nat) ({ cls := "java/lang/StringBuilder", name := "<init>", desc := "()V" } : Jvm.MethodName)).before a0 Z = true := hw _ (List.mem_of_getElem? (i := 116) rfl)
theorem w117 {Z : State} {a0 : Array Value} (hw : HW Z a0) : (Jvm.Cond.instanceMethod ({ cls := "java/lang/StringBuilder", name := "<init>", desc := "()V" } : Jvm.MethodName)).before a0 Z = true := hw _ (List.mem_of_getElem? (i := 117) rfl)
theorem w118 {Z : State} {a0 : Array Value} (hw : HW Z a0) : (Jvm.Cond.code ({ cls := "java/lang/StringBuilder", name := "<init>", desc := "()V" } : Jvm.MethodName) jdk_67_method_1_code (1 : Nat) (Option.none : Option Jvm.ClassFile.FieldType)).before a0 Z = true := hw _ (List.mem_of_getElem? (i := 118) rfl)
theorem w119 {Z : State} {a0 : Array Value} (hw : HW Z a0) : (Jvm.Cond.methodLink "java/lang/StringBuilder" (1 : Nat) ({ cls := "java/lang/AbstractStringBuilder", name := "<init>", desc := "(I)V" } : Jvm.MethodName)).before a0 Z = true := hw _ (List.mem_of_getElem? (i := 119) rfl)
theorem w120 {Z : State} {a0 : Array Value} (hw : HW Z a0) : (Jvm.Cond.instanceMethod ({ cls := "java/lang/AbstractStringBuilder", name := "<init>", desc := "(I)V" } : Jvm.MethodName)).before a0 Z = true := hw _ (List.mem_of_getElem? (i := 120) rfl)
theorem w122 {Z : State} {a0 : Array Value} (hw : HW Z a0) : (Jvm.Cond.castable "java/lang/StringBuilder" "java/lang/AbstractStringBuilder").before a0 Z = true := hw _ (List.mem_of_getElem? (i := 122) rfl)
theorem w123 {Z : State} {a0 : Array Value} (hw : HW Z a0) : (Jvm.Cond.initialized "java/lang/AbstractStringBuilder").before a0 Z = true := hw _ (List.mem_of_getElem? (i := 123) rfl)
theorem w124 {Z : State} {a0 : Array Value} (hw : HW Z a0) : (Jvm.Cond.code ({ cls := "java/lang/AbstractStringBuilder", name := "<init>", desc := "(I)V" } : Jvm.MethodName) jdk_68_method_2_code (2 : Nat) (Option.none : Option Jvm.ClassFile.FieldType)).before a0 Z = true := hw _ (List.mem_of_getElem? (i := 124) rfl)
theorem w125 {Z : State} {a0 : Array Value} (hw : HW Z a0) : (Jvm.Cond.methodLink "java/lang/AbstractStringBuilder" (3 : Nat) ({ cls := "java/lang/Object", name := "<init>", desc := "()V" } : Jvm.MethodName)).before a0 Z = true := hw _ (List.mem_of_getElem? (i := 125) rfl)
theorem w126 {Z : State} {a0 : Array Value} (hw : HW Z a0) : (Jvm.Cond.fieldLink "java/lang/AbstractStringBuilder" (18 : Nat) "java/lang/String" "COMPACT_STRINGS" "Z").before a0 Z = true := hw _ (List.mem_of_getElem? (i := 126) rfl)
theorem w127 {Z : State} {a0 : Array Value} (hw : HW Z a0) : (Jvm.Cond.fieldLink "java/lang/AbstractStringBuilder" (15 : Nat) "java/lang/AbstractStringBuilder" "value" "[B").before a0 Z = true := hw _ (List.mem_of_getElem? (i := 127) rfl)
theorem w128 {Z : State} {a0 : Array Value} (hw : HW Z a0) : (Jvm.Cond.lays "java/lang/StringBuilder" "java/lang/AbstractStringBuilder" "value" "[B").before a0 Z = true := hw _ (List.mem_of_getElem? (i := 128) rfl)
theorem w129 {Z : State} {a0 : Array Value} (hw : HW Z a0) : (Jvm.Cond.fieldLink "java/lang/AbstractStringBuilder" (22 : Nat) "java/lang/AbstractStringBuilder" "coder" "B").before a0 Z = true := hw _ (List.mem_of_getElem? (i := 129) rfl)
theorem w130 {Z : State} {a0 : Array Value} (hw : HW Z a0) : (Jvm.Cond.lays "java/lang/StringBuilder" "java/lang/AbstractStringBuilder" "coder" "B").before a0 Z = true := hw _ (List.mem_of_getElem? (i := 130) rfl)
theorem w131 {Z : State} {a0 : Array Value} (hw : HW Z a0) : (Jvm.Cond.methodLink "com/example/shoalwork/shoalwork/task/TaskSpec" (34 : Nat) ({ cls := "java/lang/StringBuilder", name := "append", desc := "(Ljava/lang/String;)Ljava/lang/StringBuilder;" } : Jvm.MethodName)).before a0 Z = true := hw _ (List.mem_of_getElem? (i := 131) rfl)
theorem w132 {Z : State} {a0 : Array Value} (hw : HW Z a0) : (Jvm.Cond.declares ({ cls := "java/lang/StringBuilder", name := "append", desc := "(Ljava/lang/String;)Ljava/lang/StringBuilder;" } : Jvm.MethodName)).before a0 Z = true := hw _ (List.mem_of_getElem? (i := 132) rfl)
theorem w133 {Z : State} {a0 : Array Value} (hw : HW Z a0) : (Jvm.Cond.instanceMethod ({ cls := "java/lang/StringBuilder", name := "append", desc := "(Ljava/lang/String;)Ljava/lang/StringBuilder;" } : Jvm.MethodName)).before a0 Z = true := hw _ (List.mem_of_getElem? (i := 133) rfl)
theorem w134 {Z : State} {a0 : Array Value} (hw : HW Z a0) : (Jvm.Cond.selects "java/lang/StringBuilder" ({ cls := "java/lang/StringBuilder", name := "append", desc := "(Ljava/lang/String;)Ljava/lang/StringBuilder;" } : Jvm.MethodName) ({ cls := "java/lang/StringBuilder", name := "append", desc := "(Ljava/lang/String;)Ljava/lang/StringBuilder;" } : Jvm.MethodName)).before a0 Z = true := hw _ (List.mem_of_getElem? (i := 134) rfl)
theorem w135 {Z : State} {a0 : Array Value} (hw : HW Z a0) : (Jvm.Cond.code ({ cls := "java/lang/StringBuilder", name := "append", desc := "(Ljava/lang/String;)Ljava/lang/StringBuilder;" } : Jvm.MethodName) jdk_67_method_7_code (2 : Nat) (Option.some (Jvm.ClassFile.FieldType.object "java/lang/StringBuilder"))).before a0 Z = true := hw _ (List.mem_of_getElem? (i := 135) rfl)
theorem w136 {Z : State} {a0 : Array Value} (hw : HW Z a0) : (Jvm.Cond.methodLink "java/lang/StringBuilder" (29 : Nat) ({ cls := "java/lang/AbstractStringBuilder", name := "append", desc := "(Ljava/lang/String;)Ljava/lang/AbstractStringBuilder;" } : Jvm.MethodName)).before a0 Z = true := hw _ (List.mem_of_getElem? (i := 136) rfl)
theorem w137 {Z : State} {a0 : Array Value} (hw : HW Z a0) : (Jvm.Cond.instanceMethod ({ cls := "java/lang/AbstractStringBuilder", name := "append", desc := "(Ljava/lang/String;)Ljava/lang/AbstractStringBuilder;" } : Jvm.MethodName)).before a0 Z = true := hw _ (List.mem_of_getElem? (i := 137) rfl)
theorem w138 {Z : State} {a0 : Array Value} (hw : HW Z a0) : (Jvm.Cond.superclass "java/lang/StringBuilder" "java/lang/AbstractStringBuilder").before a0 Z = true := hw _ (List.mem_of_getElem? (i := 138) rfl)
theorem w139 {Z : State} {a0 : Array Value} (hw : HW Z a0) : (Jvm.Cond.declares ({ cls := "java/lang/AbstractStringBuilder", name := "append", desc := "(Ljava/lang/String;)Ljava/lang/AbstractStringBuilder;" } : Jvm.MethodName)).before a0 Z = true := hw _ (List.mem_of_getElem? (i := 139) rfl)
theorem w140 {Z : State} {a0 : Array Value} (hw : HW Z a0) : (Jvm.Cond.code ({ cls := "java/lang/AbstractStringBuilder", name := "append", desc := "(Ljava/lang/String;)Ljava/lang/AbstractStringBuilder;" } : Jvm.MethodName) jdk_68_method_22_code (3 : Nat) (Option.some (Jvm.ClassFile.FieldType.object "java/lang/AbstractStringBuilder"))).before a0 Z = true := hw _ (List.mem_of_getElem? (i := 140) rfl)
theorem w141 {Z : State} {a0 : Array Value} (hw : HW Z a0) : (Jvm.Cond.methodLink "java/lang/AbstractStringBuilder" (32 : Nat) ({ cls := "java/lang/String", name := "length", desc := "()I" } : Jvm.MethodName)).before a0 Z = true := hw _ (List.mem_of_getElem? (i := 141) rfl)
theorem w142 {Z : State} {a0 : Array Value} (hw : HW Z a0) : (Jvm.Cond.fieldLink "java/lang/AbstractStringBuilder" (79 : Nat) "java/lang/AbstractStringBuilder" "count" "I").before a0 Z = true := hw _ (List.mem_of_getElem? (i := 142) rfl)
theorem w143 {Z : State} {a0 : Array Value} (hw : HW Z a0) : (Jvm.Cond.lays "java/lang/StringBuilder" "java/lang/AbstractStringBuilder" "count" "I").before a0 Z = true := hw _ (List.mem_of_getElem? (i := 143) rfl)
theorem w144 {Z : State} {a0 : Array Value} (hw : HW Z a0) : (Jvm.Cond.methodLink "java/lang/AbstractStringBuilder" (100 : Nat) ({ cls := "java/lang/AbstractStringBuilder", name := "ensureCapacityInternal", desc := "(I)V" } : Jvm.MethodName)).before a0 Z = true := hw _ (List.mem_of_getElem? (i := 144) rfl)
theorem w145 {Z : State} {a0 : Array Value} (hw : HW Z a0) : (Jvm.Cond.instanceMethod ({ cls := "java/lang/AbstractStringBuilder", name := "ensureCapacityInternal", desc := "(I)V" } : Jvm.MethodName)).before a0 Z = true := hw _ (List.mem_of_getElem? (i := 145) rfl)
theorem w147 {Z : State} {a0 : Array Value} (hw : HW Z a0) : (Jvm.Cond.selects "java/lang/StringBuilder" ({ cls := "java/lang/AbstractStringBuilder", name := "ensureCapacityInternal", desc := "(I)V" } : Jvm.MethodName) ({ cls := "java/lang/AbstractStringBuilder", name := "ensureCapacityInternal", desc := "(I)V" } : Jvm.MethodName)).before a0 Z = true := hw _ (List.mem_of_getElem? (i := 147) rfl)
theorem w148 {Z : State} {a0 : Array Value} (hw : HW Z a0) : (Jvm.Cond.code ({ cls := "java/lang/AbstractStringBuilder", name := "ensureCapacityInternal", desc := "(I)V" } : Jvm.MethodName) jdk_68_method_9_code (3 : Nat) (Option.none : Option Jvm.ClassFile.FieldType)).before a0 Z = true := hw _ (List.mem_of_getElem? (i := 148) rfl)
theorem w149 {Z : State} {a0 : Array Value} (hw : HW Z a0) : (Jvm.Cond.methodLink "java/lang/AbstractStringBuilder" (208 : Nat) ({ cls := "java/lang/AbstractStringBuilder", name := "putStringAt", desc := "(ILjava/lang/String;)V" } : Jvm.MethodName)).before a0 Z = true := hw _ (List.mem_of_getElem? (i := 149) rfl)
theorem w150 {Z : State} {a0 : Array Value} (hw : HW Z a0) : (Jvm.Cond.instanceMethod ({ cls := "java/lang/AbstractStringBuilder", name := "putStringAt", desc := "(ILjava/lang/String;)V" } : Jvm.MethodName)).before a0 Z = true := hw _ (List.mem_of_getElem? (i := 150) rfl)
theorem w152 {Z : State} {a0 : Array Value} (hw : HW Z a0) : (Jvm.Cond.selects "java/lang/StringBuilder" ({ cls := "java/lang/AbstractStringBuilder", name := "putStringAt", desc := "(ILjava/lang/String;)V" } : Jvm.MethodName) ({ cls := "java/lang/AbstractStringBuilder", name := "putStringAt", desc := "(ILjava/lang/String;)V" } : Jvm.MethodName)).before a0 Z = true := hw _ (List.mem_of_getElem? (i := 152) rfl)
theorem w153 {Z : State} {a0 : Array Value} (hw : HW Z a0) : (Jvm.Cond.code ({ cls := "java/lang/AbstractStringBuilder", name := "putStringAt", desc := "(ILjava/lang/String;)V" } : Jvm.MethodName) jdk_68_method_73_code (3 : Nat) (Option.none : Option Jvm.ClassFile.FieldType)).before a0 Z = true := hw _ (List.mem_of_getElem? (i := 153) rfl)
theorem w154 {Z : State} {a0 : Array Value} (hw : HW Z a0) : (Jvm.Cond.methodLink "java/lang/AbstractStringBuilder" (397 : Nat) ({ cls := "java/lang/AbstractStringBuilder", name := "inflateIfNeededFor", desc := "(Ljava/lang/String;)V" } : Jvm.MethodName)).before a0 Z = true := hw _ (List.mem_of_getElem? (i := 154) rfl)
theorem w155 {Z : State} {a0 : Array Value} (hw : HW Z a0) : (Jvm.Cond.instanceMethod ({ cls := "java/lang/AbstractStringBuilder", name := "inflateIfNeededFor", desc := "(Ljava/lang/String;)V" } : Jvm.MethodName)).before a0 Z = true := hw _ (List.mem_of_getElem? (i := 155) rfl)
theorem w157 {Z : State} {a0 : Array Value} (hw : HW Z a0) : (Jvm.Cond.selects "java/lang/StringBuilder" ({ cls := "java/lang/AbstractStringBuilder", name := "inflateIfNeededFor", desc := "(Ljava/lang/String;)V" } : Jvm.MethodName) ({ cls := "java/lang/AbstractStringBuilder", name := "inflateIfNeededFor", desc := "(Ljava/lang/String;)V" } : Jvm.MethodName)).before a0 Z = true := hw _ (List.mem_of_getElem? (i := 157) rfl)
theorem w158 {Z : State} {a0 : Array Value} (hw : HW Z a0) : (Jvm.Cond.code ({ cls := "java/lang/AbstractStringBuilder", name := "inflateIfNeededFor", desc := "(Ljava/lang/String;)V" } : Jvm.MethodName) jdk_68_method_71_code (2 : Nat) (Option.none : Option Jvm.ClassFile.FieldType)).before a0 Z = true := hw _ (List.mem_of_getElem? (i := 158) rfl)
theorem w159 {Z : State} {a0 : Array Value} (hw : HW Z a0) : (Jvm.Cond.methodLink "java/lang/AbstractStringBuilder" (40 : Nat) ({ cls := "java/lang/String", name := "coder", desc := "()B" } : Jvm.MethodName)).before a0 Z = true := hw _ (List.mem_of_getElem? (i := 159) rfl)
theorem w160 {Z : State} {a0 : Array Value} (hw : HW Z a0) : (Jvm.Cond.methodLink "java/lang/AbstractStringBuilder" (399 : Nat) ({ cls := "java/lang/String", name := "getBytes", desc := "([BIB)V" } : Jvm.MethodName)).before a0 Z = true := hw _ (List.mem_of_getElem? (i := 160) rfl)
theorem w161 {Z : State} {a0 : Array Value} (hw : HW Z a0) : (Jvm.Cond.declares ({ cls := "java/lang/String", name := "getBytes", desc := "([BIB)V" } : Jvm.MethodName)).before a0 Z = true := hw _ (List.mem_of_getElem? (i := 161) rfl)
theorem w162 {Z : State} {a0 : Array Value} (hw : HW Z a0) : (Jvm.Cond.instanceMethod ({ cls := "java/lang/String", name := "getBytes", desc := "([BIB)V" } : Jvm.MethodName)).before a0 Z = true := hw _ (List.mem_of_getElem? (i := 162) rfl)
theorem w163 {Z : State} {a0 : Array Value} (hw : HW Z a0) : (Jvm.Cond.selects "java/lang/String" ({ cls := "java/lang/String", name := "getBytes", desc := "([BIB)V" } : Jvm.MethodName) ({ cls := "java/lang/String", name := "getBytes", desc := "([BIB)V" } : Jvm.MethodName)).before a0 Z = true := hw _ (List.mem_of_getElem? (i := 163) rfl)
theorem w164 {Z : State} {a0 : Array Value} (hw : HW Z a0) : (Jvm.Cond.code ({ cls := "java/lang/String", name := "getBytes", desc := "([BIB)V" } : Jvm.MethodName) jdk_42_method_147_code (4 : Nat) (Option.none : Option Jvm.ClassFile.FieldType)).before a0 Z = true := hw _ (List.mem_of_getElem? (i := 164) rfl)
theorem w165 {Z : State} {a0 : Array Value} (hw : HW Z a0) : (Jvm.Cond.methodLink "java/lang/String" (212 : Nat) ({ cls := "java/lang/System", name := "arraycopy", desc := "(Ljava/lang/Object;ILjava/lang/Object;II)V" } : Jvm.MethodName)).before a0 Z = true := hw _ (List.mem_of_getElem? (i := 165) rfl)
theorem w166 {Z : State} {a0 : Array Value} (hw : HW Z a0) : (Jvm.Cond.static ({ cls := "java/lang/System", name := "arraycopy", desc := "(Ljava/lang/Object;ILjava/lang/Object;II)V" } : Jvm.MethodName)).before a0 Z = true := hw _ (List.mem_of_getElem? (i := 166) rfl)
theorem w167 {Z : State} {a0 : Array Value} (hw : HW Z a0) : (Jvm.Cond.initialized "java/lang/System").before a0 Z = true := hw _ (List.mem_of_getElem? (i := 167) rfl)
theorem w168 {Z : State} {a0 : Array Value} (hw : HW Z a0) : (Jvm.Cond.native ({ cls := "java/lang/System", name := "arraycopy", desc := "(Ljava/lang/Object;ILjava/lang/Object;II)V" } : Jvm.MethodName)).before a0 Z = true := hw _ (List.mem_of_getElem? (i := 168) rfl)
theorem w169 {Z : State} {a0 : Array Value} (hw : HW Z a0) : (Jvm.Cond.stringLink "com/example/shoalwork/shoalwork/task/TaskSpec" (68 : Nat) ":").before a0 Z = true := hw _ (List.mem_of_getElem? (i := 169) rfl)
theorem w170 {Z : State} {a0 : Array Value} (hw : HW Z a0) : (Jvm.Cond.methodLink "com/example/shoalwork/shoalwork/task/TaskSpec" (40 : Nat) ({ cls := "java/lang/StringBuilder", name := "toString", desc := "()Ljava/lang/String;" } : Jvm.MethodName)).before a0 Z = true := hw _ (List.mem_of_getElem? (i := 170) rfl)
theorem w171 {Z : State} {a0 : Array Value} (hw : HW Z a0) : (Jvm.Cond.declares ({ cls := "java/lang/StringBuilder", name := "toString", desc := "()Ljava/lang/String;" } : Jvm.MethodName)).before a0 Z = true := hw _ (List.mem_of_getElem? (i := 171) rfl)
theorem w172 {Z : State} {a0 : Array Value} (hw : HW Z a0) : (Jvm.Cond.instanceMethod ({ cls := "java/lang/StringBuilder", name := "toString", desc := "()Ljava/lang/String;" } : Jvm.MethodName)).before a0 Z = true := hw _ (List.mem_of_getElem? (i := 172) rfl)
theorem w173 {Z : State} {a0 : Array Value} (hw : HW Z a0) : (Jvm.Cond.selects "java/lang/StringBuilder" ({ cls := "java/lang/StringBuilder", name := "toString", desc := "()Ljava/lang/String;" } : Jvm.MethodName) ({ cls := "java/lang/StringBuilder", name := "toString", desc := "()Ljava/lang/String;" } : Jvm.MethodName)).before a0 Z = true := hw _ (List.mem_of_getElem? (i := 173) rfl)
theorem w174 {Z : State} {a0 : Array Value} (hw : HW Z a0) : (Jvm.Cond.code ({ cls := "java/lang/StringBuilder", name := "toString", desc := "()Ljava/lang/String;" } : Jvm.MethodName) jdk_67_method_42_code (1 : Nat) (Option.some (Jvm.ClassFile.FieldType.object "java/lang/String"))).before a0 Z = true := hw _ (List.mem_of_getElem? (i := 174) rfl)
theorem w175 {Z : State} {a0 : Array Value} (hw : HW Z a0) : (Jvm.Cond.classLink "java/lang/StringBuilder" (18 : Nat) "java/lang/String").before a0 Z = true := hw _ (List.mem_of_getElem? (i := 175) rfl)
theorem w176 {Z : State} {a0 : Array Value} (hw : HW Z a0) : (Jvm.Cond.methodLink "java/lang/StringBuilder" (137 : Nat) ({ cls := "java/lang/String", name := "<init>", desc := "(Ljava/lang/StringBuilder;)V" } : Jvm.MethodName)).before a0 Z = true := hw _ (List.mem_of_getElem? (i := 176) rfl)
theorem w177 {Z : State} {a0 : Array Value} (hw : HW Z a0) : (Jvm.Cond.instanceMethod ({ cls := "java/lang/String", name := "<init>", desc := "(Ljava/lang/StringBuilder;)V" } : Jvm.MethodName)).before a0 Z = true := hw _ (List.mem_of_getElem? (i := 177) rfl)
theorem w178 {Z : State} {a0 : Array Value} (hw : HW Z a0) : (Jvm.Cond.code ({ cls := "java/lang/String", name := "<init>", desc := "(Ljava/lang/StringBuilder;)V" } : Jvm.MethodName) jdk_42_method_53_code (2 : Nat) (Option.none : Option Jvm.ClassFile.FieldType)).before a0 Z = true := hw _ (List.mem_of_getElem? (i := 178) rfl)
theorem w179 {Z : State} {a0 : Array Value} (hw : HW Z a0) : (Jvm.Cond.methodLink "java/lang/String" (489 : Nat) ({ cls := "java/lang/String", name := "<init>", desc := "(Ljava/lang/AbstractStringBuilder;Ljava/lang/Void;)V" } : Jvm.MethodName)).before a0 Z = true := hw _ (List.mem_of_getElem? (i := 179) rfl)
theorem w180 {Z : State} {a0 : Array Value} (hw : HW Z a0) : (Jvm.Cond.instanceMethod ({ cls := "java/lang/String", name := "<init>", desc := "(Ljava/lang/AbstractStringBuilder;Ljava/lang/Void;)V" } : Jvm.MethodName)).before a0 Z = true := hw _ (List.mem_of_getElem? (i := 180) rfl)
theorem w181 {Z : State} {a0 : Array Value} (hw : HW Z a0) : (Jvm.Cond.code ({ cls := "java/lang/String", name := "<init>", desc := "(Ljava/lang/AbstractStringBuilder;Ljava/lang/Void;)V" } : Jvm.MethodName) jdk_42_method_150_code (5 : Nat) (Option.none : Option Jvm.ClassFile.FieldType)).before a0 Z = true := hw _ (List.mem_of_getElem? (i := 181) rfl)
theorem w182 {Z : State} {a0 : Array Value} (hw : HW Z a0) : (Jvm.Cond.methodLink "java/lang/String" (552 : Nat) ({ cls := "java/lang/AbstractStringBuilder", name := "getValue", desc := "()[B" } : Jvm.MethodName)).before a0 Z = true := hw _ (List.mem_of_getElem? (i := 182) rfl)
theorem w183 {Z : State} {a0 : Array Value} (hw : HW Z a0) : (Jvm.Cond.declares ({ cls := "java/lang/AbstractStringBuilder", name := "getValue", desc := "()[B" } : Jvm.MethodName)).before a0 Z = true := hw _ (List.mem_of_getElem? (i := 183) rfl)
theorem w184 {Z : State} {a0 : Array Value} (hw : HW Z a0) : (Jvm.Cond.instanceMethod ({ cls := "java/lang/AbstractStringBuilder", name := "getValue", desc := "()[B" } : Jvm.MethodName)).before a0 Z = true := hw _ (List.mem_of_getElem? (i := 184) rfl)
theorem w185 {Z : State} {a0 : Array Value} (hw : HW Z a0) : (Jvm.Cond.selects "java/lang/StringBuilder" ({ cls := "java/lang/AbstractStringBuilder", name := "getValue", desc := "()[B" } : Jvm.MethodName) ({ cls := "java/lang/AbstractStringBuilder", name := "getValue", desc := "()[B" } : Jvm.MethodName)).before a0 Z = true := hw _ (List.mem_of_getElem? (i := 185) rfl)
theorem w186 {Z : State} {a0 : Array Value} (hw : HW Z a0) : (Jvm.Cond.code ({ cls := "java/lang/AbstractStringBuilder", name := "getValue", desc := "()[B" } : Jvm.MethodName) jdk_68_method_64_code (1 : Nat) (Option.some (Jvm.ClassFile.FieldType.array Jvm.ClassFile.FieldType.byte))).before a0 Z = true := hw _ (List.mem_of_getElem? (i := 186) rfl)
theorem w187 {Z : State} {a0 : Array Value} (hw : HW Z a0) : (Jvm.Cond.methodLink "java/lang/String" (549 : Nat) ({ cls := "java/lang/AbstractStringBuilder", name := "length", desc := "()I" } : Jvm.MethodName)).before a0 Z = true := hw _ (List.mem_of_getElem? (i := 187) rfl)
theorem w188 {Z : State} {a0 : Array Value} (hw : HW Z a0) : (Jvm.Cond.declares ({ cls := "java/lang/AbstractStringBuilder", name := "length", desc := "()I" } : Jvm.MethodName)).before a0 Z = true := hw _ (List.mem_of_getElem? (i := 188) rfl)
theorem w189 {Z : State} {a0 : Array Value} (hw : HW Z a0) : (Jvm.Cond.instanceMethod ({ cls := "java/lang/AbstractStringBuilder", name := "length", desc := "()I" } : Jvm.MethodName)).before a0 Z = true := hw _ (List.mem_of_getElem? (i := 189) rfl)
theorem w190 {Z : State} {a0 : Array Value} (hw : HW Z a0) : (Jvm.Cond.selects "java/lang/StringBuilder" ({ cls := "java/lang/AbstractStringBuilder", name := "length", desc := "()I" } : Jvm.MethodName) ({ cls := "java/lang/StringBuilder", name := "length", desc := "()I" } : Jvm.MethodName)).before a0 Z = true := hw _ (List.mem_of_getElem? (i := 190) rfl)
theorem w191 {Z : State} {a0 : Array Value} (hw : HW Z a0) : (Jvm.Cond.instanceMethod ({ cls := "java/lang/StringBuilder", name := "length", desc := "()I" } : Jvm.MethodName)).before a0 Z = true := hw _ (List.mem_of_getElem? (i := 191) rfl)
theorem w192 {Z : State} {a0 : Array Value} (hw : HW Z a0) : (Jvm.Cond.code ({ cls := "java/lang/StringBuilder", name := "length", desc := "()I" } : Jvm.MethodName) jdk_67_method_93_code (1 : Nat) (Option.some Jvm.ClassFile.FieldType.int)).before a0 Z = true := hw _ (List.mem_of_getElem? (i := 192) rfl)
theorem w193 {Z : State} {a0 : Array Value} (hw : HW Z a0) : (Jvm.Cond.methodLink "java/lang/StringBuilder" (343 : Nat) ({ cls := "java/lang/AbstractStringBuilder", name := "length", desc := "()I" } : Jvm.MethodName)).before a0 Z = true := hw _ (List.mem_of_getElem? (i := 193) rfl)
theorem w194 {Z : State} {a0 : Array Value} (hw : HW Z a0) : (Jvm.Cond.code ({ cls := "java/lang/AbstractStringBuilder", name := "length", desc := "()I" } : Jvm.MethodName) jdk_68_method_6_code (1 : Nat) (Option.some Jvm.ClassFile.FieldType.int)).before a0 Z = true := hw _ (List.mem_of_getElem? (i := 194) rfl)
theorem w195 {Z : State} {a0 : Array Value} (hw : HW Z a0) : (Jvm.Cond.methodLink "java/lang/String" (1047 : Nat) ({ cls := "java/lang/AbstractStringBuilder", name := "isLatin1", desc := "()Z" } : Jvm.MethodName)).before a0 Z = true := hw _ (List.mem_of_getElem? (i := 195) rfl)
theorem w196 {Z : State} {a0 : Array Value} (hw : HW Z a0) : (Jvm.Cond.declares ({ cls := "java/lang/AbstractStringBuilder", name := "isLatin1", desc := "()Z" } : Jvm.MethodName)).before a0 Z = true := hw _ (List.mem_of_getElem? (i := 196) rfl)
theorem w197 {Z : State} {a0 : Array Value} (hw : HW Z a0) : (Jvm.Cond.instanceMethod ({ cls := "java/lang/AbstractStringBuilder", name := "isLatin1", desc := "()Z" } : Jvm.MethodName)).before a0 Z = true := hw _ (List.mem_of_getElem? (i := 197) rfl)
theorem w198 {Z : State} {a0 : Array Value} (hw : HW Z a0) : (Jvm.Cond.selects "java/lang/StringBuilder" ({ cls := "java/lang/AbstractStringBuilder", name := "isLatin1", desc := "()Z" } : Jvm.MethodName) ({ cls := "java/lang/AbstractStringBuilder", name := "isLatin1", desc := "()Z" } : Jvm.MethodName)).before a0 Z = true := hw _ (List.mem_of_getElem? (i := 198) rfl)
theorem w199 {Z : State} {a0 : Array Value} (hw : HW Z a0) : (Jvm.Cond.code ({ cls := "java/lang/AbstractStringBuilder", name := "isLatin1", desc := "()Z" } : Jvm.MethodName) jdk_68_method_68_code (1 : Nat) (Option.some Jvm.ClassFile.FieldType.boolean)).before a0 Z = true := hw _ (List.mem_of_getElem? (i := 199) rfl)
theorem w200 {Z : State} {a0 : Array Value} (hw : HW Z a0) : (Jvm.Cond.methodLink "java/lang/String" (54 : Nat) ({ cls := "java/util/Arrays", name := "copyOfRange", desc := "([BII)[B" } : Jvm.MethodName)).before a0 Z = true := hw _ (List.mem_of_getElem? (i := 200) rfl)
theorem w201 {Z : State} {a0 : Array Value} (hw : HW Z a0) : (Jvm.Cond.static ({ cls := "java/util/Arrays", name := "copyOfRange", desc := "([BII)[B" } : Jvm.MethodName)).before a0 Z = true := hw _ (List.mem_of_getElem? (i := 201) rfl)
theorem w202 {Z : State} {a0 : Array Value} (hw : HW Z a0) : (Jvm.Cond.initialized "java/util/Arrays").before a0 Z = true := hw _ (List.mem_of_getElem? (i := 202) rfl)
theorem w203 {Z : State} {a0 : Array Value} (hw : HW Z a0) : (Jvm.Cond.code ({ cls := "java/util/Arrays", name := "copyOfRange", desc := "([BII)[B" } : Jvm.MethodName) jdk_65_method_132_code (3 : Nat) (Option.some (Jvm.ClassFile.FieldType.array Jvm.ClassFile.FieldType.byte))).before a0 Z = true := hw _ (List.mem_of_getElem? (i := 203) rfl)
theorem w204 {Z : State} {a0 : Array Value} (hw : HW Z a0) : (Jvm.Cond.methodLink "java/util/Arrays" (339 : Nat) ({ cls := "java/util/Arrays", name := "copyOfRangeByte", desc := "([BII)[B" } : Jvm.MethodName)).before a0 Z = true := hw _ (List.mem_of_getElem? (i := 204) rfl)
theorem w205 {Z : State} {a0 : Array Value} (hw : HW Z a0) : (Jvm.Cond.static ({ cls := "java/util/Arrays", name := "copyOfRangeByte", desc := "([BII)[B" } : Jvm.MethodName)).before a0 Z = true := hw _ (List.mem_of_getElem? (i := 205) rfl)
theorem w206 {Z : State} {a0 : Array Value} (hw : HW Z a0) : (Jvm.Cond.code ({ cls := "java/util/Arrays", name := "copyOfRangeByte", desc := "([BII)[B" } : Jvm.MethodName) jdk_65_method_133_code (5 : Nat) (Option.some (Jvm.ClassFile.FieldType.array Jvm.ClassFile.FieldType.byte))).before a0 Z = true := hw _ (List.mem_of_getElem? (i := 206) rfl)
theorem w207 {Z : State} {a0 : Array Value} (hw : HW Z a0) : (Jvm.Cond.methodLink "java/util/Arrays" (343 : Nat) ({ cls := "java/util/Arrays", name := "checkLength", desc := "(II)V" } : Jvm.MethodName)).before a0 Z = true := hw _ (List.mem_of_getElem? (i := 207) rfl)
theorem w208 {Z : State} {a0 : Array Value} (hw : HW Z a0) : (Jvm.Cond.static ({ cls := "java/util/Arrays", name := "checkLength", desc := "(II)V" } : Jvm.MethodName)).before a0 Z = true := hw _ (List.mem_of_getElem? (i := 208) rfl)
theorem w209 {Z : State} {a0 : Array Value} (hw : HW Z a0) : (Jvm.Cond.code ({ cls := "java/util/Arrays", name := "checkLength", desc := "(II)V" } : Jvm.MethodName) jdk_65_method_131_code (2 : Nat) (Option.none : Option Jvm.ClassFile.FieldType)).before a0 Z = true := hw _ (List.mem_of_getElem? (i := 209) rfl)
theorem w210 {Z : State} {a0 : Array Value} (hw : HW Z a0) : (Jvm.Cond.methodLink "java/util/Arrays" (304 : Nat) ({ cls := "java/lang/Math", name := "min", desc := "(II)I" } : Jvm.MethodName)).before a0 Z = true := hw _ (List.mem_of_getElem? (i := 210) rfl)
theorem w211 {Z : State} {a0 : Array Value} (hw : HW Z a0) : (Jvm.Cond.methodLink "java/util/Arrays" (150 : Nat) ({ cls := "java/lang/System", name := "arraycopy", desc := "(Ljava/lang/Object;ILjava/lang/Object;II)V" } : Jvm.MethodName)).before a0 Z = true := hw _ (List.mem_of_getElem? (i := 211) rfl)
theorem w212 {Z : State} {a0 : Array Value} (hw : HW Z a0) : (Jvm.Cond.methodLink "com/example/shoalwork/shoalwork/task/TaskSpecToStringPinLaw" (31 : Nat) ({ cls := "java/lang/String", name := "length", desc := "()I" } : Jvm.MethodName)).before a0 Z = true := hw _ (List.mem_of_getElem? (i := 212) rfl)
theorem w213 {Z : State} {a0 : Array Value} (hw : HW Z a0) : (Jvm.Cond.methodLink "com/example/shoalwork/shoalwork/task/TaskSpecToStringPinLaw" (35 : Nat) ({ cls := "java/lang/String", name := "charAt", desc := "(I)C" } : Jvm.MethodName)).before a0 Z = true := hw _ (List.mem_of_getElem? (i := 213) rfl)
theorem w214 {Z : State} {a0 : Array Value} (hw : HW Z a0) : (Jvm.Cond.declares ({ cls := "java/lang/String", name := "charAt", desc := "(I)C" } : Jvm.MethodName)).before a0 Z = true := hw _ (List.mem_of_getElem? (i := 214) rfl)
theorem w215 {Z : State} {a0 : Array Value} (hw : HW Z a0) : (Jvm.Cond.instanceMethod ({ cls := "java/lang/String", name := "charAt", desc := "(I)C" } : Jvm.MethodName)).before a0 Z = true := hw _ (List.mem_of_getElem? (i := 215) rfl)
theorem w216 {Z : State} {a0 : Array Value} (hw : HW Z a0) : (Jvm.Cond.selects "java/lang/String" ({ cls := "java/lang/String", name := "charAt", desc := "(I)C" } : Jvm.MethodName) ({ cls := "java/lang/String", name := "charAt", desc := "(I)C" } : Jvm.MethodName)).before a0 Z = true := hw _ (List.mem_of_getElem? (i := 216) rfl)
theorem w217 {Z : State} {a0 : Array Value} (hw : HW Z a0) : (Jvm.Cond.code ({ cls := "java/lang/String", name := "charAt", desc := "(I)C" } : Jvm.MethodName) jdk_42_method_56_code (2 : Nat) (Option.some Jvm.ClassFile.FieldType.char)).before a0 Z = true := hw _ (List.mem_of_getElem? (i := 217) rfl)
theorem w218 {Z : State} {a0 : Array Value} (hw : HW Z a0) : (Jvm.Cond.methodLink "java/lang/String" (495 : Nat) ({ cls := "java/lang/StringLatin1", name := "charAt", desc := "([BI)C" } : Jvm.MethodName)).before a0 Z = true := hw _ (List.mem_of_getElem? (i := 218) rfl)
theorem w219 {Z : State} {a0 : Array Value} (hw : HW Z a0) : (Jvm.Cond.static ({ cls := "java/lang/StringLatin1", name := "charAt", desc := "([BI)C" } : Jvm.MethodName)).before a0 Z = true := hw _ (List.mem_of_getElem? (i := 219) rfl)
theorem w220 {Z : State} {a0 : Array Value} (hw : HW Z a0) : (Jvm.Cond.code ({ cls := "java/lang/StringLatin1", name := "charAt", desc := "([BI)C" } : Jvm.MethodName) jdk_43_method_2_code (2 : Nat) (Option.some Jvm.ClassFile.FieldType.char)).before a0 Z = true := hw _ (List.mem_of_getElem? (i := 220) rfl)
theorem w221 {Z : State} {a0 : Array Value} (hw : HW Z a0) : (Jvm.Cond.methodLink "java/lang/StringLatin1" (9 : Nat) ({ cls := "java/lang/String", name := "checkIndex", desc := "(II)V" } : Jvm.MethodName)).before a0 Z = true := hw _ (List.mem_of_getElem? (i := 221) rfl)
theorem w222 {Z : State} {a0 : Array Value} (hw : HW Z a0) : (Jvm.Cond.static ({ cls := "java/lang/String", name := "checkIndex", desc := "(II)V" } : Jvm.MethodName)).before a0 Z = true := hw _ (List.mem_of_getElem? (i := 222) rfl)
theorem w223 {Z : State} {a0 : Array Value} (hw : HW Z a0) : (Jvm.Cond.code ({ cls := "java/lang/String", name := "checkIndex", desc := "(II)V" } : Jvm.MethodName) jdk_42_method_155_code (2 : Nat) (Option.none : Option Jvm.ClassFile.FieldType)).before a0 Z = true := hw _ (List.mem_of_getElem? (i := 223) rfl)
theorem w224 {Z : State} {a0 : Array Value} (hw : HW Z a0) : (Jvm.Cond.fieldLink "java/lang/String" (1053 : Nat) "jdk/internal/util/Preconditions" "SIOOBE_FORMATTER" "Ljava/util/function/BiFunction;").before a0 Z = true := hw _ (List.mem_of_getElem? (i := 224) rfl)
theorem w225 {Z : State} {a0 : Array Value} (hw : HW Z a0) : (Jvm.Cond.initialized "jdk/internal/util/Preconditions").before a0 Z = true := hw _ (List.mem_of_getElem? (i := 225) rfl)
theorem w226 {Z : State} {a0 : Array Value} (hw : HW Z a0) : (Jvm.Cond.methodLink "java/lang/String" (1059 : Nat) ({ cls := "jdk/internal/util/Preconditions", name := "checkIndex", desc := "(IILjava/util/function/BiFunction;)I" } : Jvm.MethodName)).before a0 Z = true := hw _ (List.mem_of_getElem? (i := 226) rfl)
theorem w227 {Z : State} {a0 : Array Value} (hw : HW Z a0) : (Jvm.Cond.static ({ cls := "jdk/internal/util/Preconditions", name := "checkIndex", desc := "(IILjava/util/function/BiFunction;)I" } : Jvm.MethodName)).before a0 Z = true := hw _ (List.mem_of_getElem? (i := 227) rfl)
theorem w228 {Z : State} {a0 : Array Value} (hw : HW Z a0) : (Jvm.Cond.code ({ cls := "jdk/internal/util/Preconditions", name := "checkIndex", desc := "(IILjava/util/function/BiFunction;)I" } : Jvm.MethodName) jdk_41_method_11_code (3 : Nat) (Option.some Jvm.ClassFile.FieldType.int)).before a0 Z = true := hw _ (List.mem_of_getElem? (i := 228) rfl)
theorem w229 {Z : State} {a0 : Array Value} (hw : HW Z a0) : (Jvm.Cond.stringLink "java/lang/String" (7 : Nat) "").before a0 Z = true := hw _ (List.mem_of_getElem? (i := 229) rfl)
theorem d0_0 : decode jdk_52_method_21_code 0 = .ok (.iconst 0, 1) := by decide +kernel
theorem d0_1 : decode jdk_52_method_21_code 1 = .ok (.istore 5, 2) := by decide +kernel
theorem d0_3 : decode jdk_52_method_21_code 3 = .ok (.iload 5, 2) := by decide +kernel
theorem d0_5 : decode jdk_52_method_21_code 5 = .ok (.iload 4, 2) := by decide +kernel
theorem d0_7 : decode jdk_52_method_21_code 7 = .ok (.if_icmp .ge 37, 3) := by decide +kernel
theorem d0_10 : decode jdk_52_method_21_code 10 = .ok (.aload_n 0, 1) := by decide +kernel
theorem d0_11 : decode jdk_52_method_21_code 11 = .ok (.iload_n 1, 1) := by decide +kernel
theorem d0_12 : decode jdk_52_method_21_code 12 = .ok (.caload, 1) := by decide +kernel
theorem d0_13 : decode jdk_52_method_21_code 13 = .ok (.istore 6, 2) := by decide +kernel
theorem d0_15 : decode jdk_52_method_21_code 15 = .ok (.iload 6, 2) := by decide +kernel
theorem d0_17 : decode jdk_52_method_21_code 17 = .ok (.sipush 255, 3) := by decide +kernel
theorem d0_20 : decode jdk_52_method_21_code 20 = .ok (.if_icmp .le 6, 3) := by decide +kernel
theorem d0_26 : decode jdk_52_method_21_code 26 = .ok (.aload_n 2, 1) := by decide +kernel
theorem d0_27 : decode jdk_52_method_21_code 27 = .ok (.iload_n 3, 1) := by decide +kernel
theorem d0_28 : decode jdk_52_method_21_code 28 = .ok (.iload 6, 2) := by decide +kernel
theorem d0_30 : decode jdk_52_method_21_code 30 = .ok (.i2b, 1) := by decide +kernel
theorem d0_31 : decode jdk_52_method_21_code 31 = .ok (.bastore, 1) := by decide +kernel
theorem d0_32 : decode jdk_52_method_21_code 32 = .ok (.iinc 1 1, 3) := by decide +kernel
theorem d0_35 : decode jdk_52_method_21_code 35 = .ok (.iinc 3 1, 3) := by decide +kernel
theorem d0_38 : decode jdk_52_method_21_code 38 = .ok (.iinc 5 1, 3) := by decide +kernel
theorem d0_41 : decode jdk_52_method_21_code 41 = .ok (.goto (-38), 3) := by decide +kernel
theorem d0_44 : decode jdk_52_method_21_code 44 = .ok (.iload 4, 2) := by decide +kernel
theorem d0_46 : decode jdk_52_method_21_code 46 = .ok (.ireturn, 1) := by decide +kernel
theorem d1_0 : decode jdk_52_method_16_code 0 = .ok (.iload_n 2, 1) := by decide +kernel
theorem d1_1 : decode jdk_52_method_16_code 1 = .ok (.newarray .byte, 2) := by decide +kernel
theorem d1_3 : decode jdk_52_method_16_code 3 = .ok (.astore_n 3, 1) := by decide +kernel
theorem d1_4 : decode jdk_52_method_16_code 4 = .ok (.aload_n 0, 1) := by decide +kernel
theorem d1_5 : decode jdk_52_method_16_code 5 = .ok (.iload_n 1, 1) := by decide +kernel
theorem d1_6 : decode jdk_52_method_16_code 6 = .ok (.aload_n 3, 1) := by decide +kernel
theorem d1_7 : decode jdk_52_method_16_code 7 = .ok (.iconst 0, 1) := by decide +kernel
theorem d1_8 : decode jdk_52_method_16_code 8 = .ok (.iload_n 2, 1) := by decide +kernel
theorem d1_9 : decode jdk_52_method_16_code 9 = .ok (.invokestatic 115, 3) := by decide +kernel
theorem d1_12 : decode jdk_52_method_16_code 12 = .ok (.istore 4, 2) := by decide +kernel
theorem d1_14 : decode jdk_52_method_16_code 14 = .ok (.iload 4, 2) := by decide +kernel
theorem d1_16 : decode jdk_52_method_16_code 16 = .ok (.iload_n 2, 1) := by decide +kernel
theorem d1_17 : decode jdk_52_method_16_code 17 = .ok (.if_icmp .eq 40, 3) := by decide +kernel
theorem d1_57 : decode jdk_52_method_16_code 57 = .ok (.aload_n 3, 1) := by decide +kernel
theorem d1_58 : decode jdk_52_method_16_code 58 = .ok (.areturn, 1) := by decide +kernel
theorem d2_0 : decode jdk_52_method_15_code 0 = .ok (.iload_n 1, 1) := by decide +kernel
theorem d2_1 : decode jdk_52_method_15_code 1 = .ok (.aload_n 0, 1) := by decide +kernel
theorem d2_2 : decode jdk_52_method_15_code 2 = .ok (.arraylength, 1) := by decide +kernel
theorem d2_3 : decode jdk_52_method_15_code 3 = .ok (.isub, 1) := by decide +kernel
theorem d2_4 : decode jdk_52_method_15_code 4 = .ok (.bipush 31, 2) := by decide +kernel
theorem d2_6 : decode jdk_52_method_15_code 6 = .ok (.iushr, 1) := by decide +kernel
theorem d2_7 : decode jdk_52_method_15_code 7 = .ok (.i2b, 1) := by decide +kernel
theorem d2_8 : decode jdk_52_method_15_code 8 = .ok (.ireturn, 1) := by decide +kernel
theorem d3_0 : decode jdk_42_method_149_code 0 = .ok (.aload_n 0, 1) := by decide +kernel
theorem d3_1 : decode jdk_42_method_149_code 1 = .ok (.invokespecial 1, 3) := by decide +kernel
theorem d3_4 : decode jdk_42_method_149_code 4 = .ok (.iload_n 3, 1) := by decide +kernel
theorem d3_5 : decode jdk_42_method_149_code 5 = .ok (.ifCond .ne 22, 3) := by decide +kernel
theorem d3_8 : decode jdk_42_method_149_code 8 = .ok (.aload_n 0, 1) := by decide +kernel
theorem d3_9 : decode jdk_42_method_149_code 9 = .ok (.ldc 7, 2) := by decide +kernel
theorem d3_11 : decode jdk_42_method_149_code 11 = .ok (.getfield 9, 3) := by decide +kernel
theorem d3_14 : decode jdk_42_method_149_code 14 = .ok (.putfield 9, 3) := by decide +kernel
theorem d3_17 : decode jdk_42_method_149_code 17 = .ok (.aload_n 0, 1) := by decide +kernel
theorem d3_18 : decode jdk_42_method_149_code 18 = .ok (.ldc 7, 2) := by decide +kernel
theorem d3_20 : decode jdk_42_method_149_code 20 = .ok (.getfield 15, 3) := by decide +kernel
theorem d3_23 : decode jdk_42_method_149_code 23 = .ok (.putfield 15, 3) := by decide +kernel
theorem d3_26 : decode jdk_42_method_149_code 26 = .ok (.return_, 1) := by decide +kernel
theorem d3_27 : decode jdk_42_method_149_code 27 = .ok (.getstatic 38, 3) := by decide +kernel
theorem d3_30 : decode jdk_42_method_149_code 30 = .ok (.ifCond .eq 28, 3) := by decide +kernel
theorem d3_33 : decode jdk_42_method_149_code 33 = .ok (.aload_n 1, 1) := by decide +kernel
theorem d3_34 : decode jdk_42_method_149_code 34 = .ok (.iload_n 2, 1) := by decide +kernel
theorem d3_35 : decode jdk_42_method_149_code 35 = .ok (.iload_n 3, 1) := by decide +kernel
theorem d3_36 : decode jdk_42_method_149_code 36 = .ok (.invokestatic 177, 3) := by decide +kernel
theorem d3_39 : decode jdk_42_method_149_code 39 = .ok (.astore 5, 2) := by decide +kernel
theorem d3_41 : decode jdk_42_method_149_code 41 = .ok (.aload_n 0, 1) := by decide +kernel
theorem d3_42 : decode jdk_42_method_149_code 42 = .ok (.aload 5, 2) := by decide +kernel
theorem d3_44 : decode jdk_42_method_149_code 44 = .ok (.iload_n 3, 1) := by decide +kernel
theorem d3_45 : decode jdk_42_method_149_code 45 = .ok (.invokestatic 47, 3) := by decide +kernel
theorem d3_48 : decode jdk_42_method_149_code 48 = .ok (.putfield 15, 3) := by decide +kernel
theorem d3_51 : decode jdk_42_method_149_code 51 = .ok (.aload_n 0, 1) := by decide +kernel
theorem d3_52 : decode jdk_42_method_149_code 52 = .ok (.aload 5, 2) := by decide +kernel
theorem d3_54 : decode jdk_42_method_149_code 54 = .ok (.putfield 9, 3) := by decide +kernel
theorem d3_57 : decode jdk_42_method_149_code 57 = .ok (.return_, 1) := by decide +kernel
theorem d4_0 : decode jdk_42_method_3_code 0 = .ok (.aload_n 0, 1) := by decide +kernel
theorem d4_1 : decode jdk_42_method_3_code 1 = .ok (.aload_n 1, 1) := by decide +kernel
theorem d4_2 : decode jdk_42_method_3_code 2 = .ok (.iconst 0, 1) := by decide +kernel
theorem d4_3 : decode jdk_42_method_3_code 3 = .ok (.aload_n 1, 1) := by decide +kernel
theorem d4_4 : decode jdk_42_method_3_code 4 = .ok (.arraylength, 1) := by decide +kernel
theorem d4_5 : decode jdk_42_method_3_code 5 = .ok (.aconst_null, 1) := by decide +kernel
theorem d4_6 : decode jdk_42_method_3_code 6 = .ok (.invokespecial 27, 3) := by decide +kernel
theorem d4_9 : decode jdk_42_method_3_code 9 = .ok (.return_, 1) := by decide +kernel
theorem d5_0 : decode jdk_42_method_152_code 0 = .ok (.getstatic 38, 3) := by decide +kernel
theorem d5_3 : decode jdk_42_method_152_code 3 = .ok (.ifCond .eq 10, 3) := by decide +kernel
theorem d5_6 : decode jdk_42_method_152_code 6 = .ok (.aload_n 0, 1) := by decide +kernel
theorem d5_7 : decode jdk_42_method_152_code 7 = .ok (.getfield 15, 3) := by decide +kernel
theorem d5_10 : decode jdk_42_method_152_code 10 = .ok (.goto 4, 3) := by decide +kernel
theorem d5_14 : decode jdk_42_method_152_code 14 = .ok (.ireturn, 1) := by decide +kernel
theorem d6_0 : decode jdk_42_method_154_code 0 = .ok (.getstatic 38, 3) := by decide +kernel
theorem d6_3 : decode jdk_42_method_154_code 3 = .ok (.ifCond .eq 14, 3) := by decide +kernel
theorem d6_6 : decode jdk_42_method_154_code 6 = .ok (.aload_n 0, 1) := by decide +kernel
theorem d6_7 : decode jdk_42_method_154_code 7 = .ok (.getfield 15, 3) := by decide +kernel
theorem d6_10 : decode jdk_42_method_154_code 10 = .ok (.ifCond .ne 7, 3) := by decide +kernel
theorem d6_13 : decode jdk_42_method_154_code 13 = .ok (.iconst 1, 1) := by decide +kernel
theorem d6_14 : decode jdk_42_method_154_code 14 = .ok (.goto 4, 3) := by decide +kernel
theorem d6_18 : decode jdk_42_method_154_code 18 = .ok (.ireturn, 1) := by decide +kernel
theorem d7_0 : decode jdk_42_method_54_code 0 = .ok (.aload_n 0, 1) := by decide +kernel
theorem d7_1 : decode jdk_42_method_54_code 1 = .ok (.getfield 9, 3) := by decide +kernel
theorem d7_4 : decode jdk_42_method_54_code 4 = .ok (.arraylength, 1) := by decide +kernel
theorem d7_5 : decode jdk_42_method_54_code 5 = .ok (.aload_n 0, 1) := by decide +kernel
theorem d7_6 : decode jdk_42_method_54_code 6 = .ok (.invokevirtual 335, 3) := by decide +kernel
theorem d7_9 : decode jdk_42_method_54_code 9 = .ok (.ishr, 1) := by decide +kernel
theorem d7_10 : decode jdk_42_method_54_code 10 = .ok (.ireturn, 1) := by decide +kernel
theorem d8_0 : decode jdk_43_method_4_code 0 = .ok (.iload_n 0, 1) := by decide +kernel
theorem d8_1 : decode jdk_43_method_4_code 1 = .ok (.ifCond .lt 14, 3) := by decide +kernel
theorem d8_4 : decode jdk_43_method_4_code 4 = .ok (.iload_n 0, 1) := by decide +kernel
theorem d8_5 : decode jdk_43_method_4_code 5 = .ok (.sipush 255, 3) := by decide +kernel
theorem d8_8 : decode jdk_43_method_4_code 8 = .ok (.if_icmp .gt 7, 3) := by decide +kernel
theorem d8_11 : decode jdk_43_method_4_code 11 = .ok (.iconst 1, 1) := by decide +kernel
theorem d8_12 : decode jdk_43_method_4_code 12 = .ok (.goto 4, 3) := by decide +kernel
theorem d8_16 : decode jdk_43_method_4_code 16 = .ok (.ireturn, 1) := by decide +kernel
theorem d9_0 : decode jdk_29_method_65_code 0 = .ok (.iload_n 0, 1) := by decide +kernel
theorem d9_1 : decode jdk_29_method_65_code 1 = .ok (.iload_n 1, 1) := by decide +kernel
theorem d9_2 : decode jdk_29_method_65_code 2 = .ok (.if_icmp .lt 7, 3) := by decide +kernel
theorem d9_5 : decode jdk_29_method_65_code 5 = .ok (.iload_n 0, 1) := by decide +kernel
theorem d9_6 : decode jdk_29_method_65_code 6 = .ok (.goto 4, 3) := by decide +kernel
theorem d9_10 : decode jdk_29_method_65_code 10 = .ok (.ireturn, 1) := by decide +kernel
theorem d10_0 : decode jdk_29_method_69_code 0 = .ok (.iload_n 0, 1) := by decide +kernel
theorem d10_1 : decode jdk_29_method_69_code 1 = .ok (.iload_n 1, 1) := by decide +kernel
theorem d10_2 : decode jdk_29_method_69_code 2 = .ok (.if_icmp .gt 7, 3) := by decide +kernel
theorem d10_5 : decode jdk_29_method_69_code 5 = .ok (.iload_n 0, 1) := by decide +kernel
theorem d10_6 : decode jdk_29_method_69_code 6 = .ok (.goto 4, 3) := by decide +kernel
theorem d10_9 : decode jdk_29_method_69_code 9 = .ok (.iload_n 1, 1) := by decide +kernel
theorem d10_10 : decode jdk_29_method_69_code 10 = .ok (.ireturn, 1) := by decide +kernel
theorem d11_0 : decode jdk_43_method_23_code 0 = .ok (.iload_n 1, 1) := by decide +kernel
theorem d11_1 : decode jdk_43_method_23_code 1 = .ok (.i2b, 1) := by decide +kernel
theorem d11_2 : decode jdk_43_method_23_code 2 = .ok (.istore 4, 2) := by decide +kernel
theorem d11_4 : decode jdk_43_method_23_code 4 = .ok (.iload_n 2, 1) := by decide +kernel
theorem d11_5 : decode jdk_43_method_23_code 5 = .ok (.istore 5, 2) := by decide +kernel
theorem d11_7 : decode jdk_43_method_23_code 7 = .ok (.iload 5, 2) := by decide +kernel
theorem d11_9 : decode jdk_43_method_23_code 9 = .ok (.iload_n 3, 1) := by decide +kernel
theorem d11_10 : decode jdk_43_method_23_code 10 = .ok (.if_icmp .ge 21, 3) := by decide +kernel
theorem d11_13 : decode jdk_43_method_23_code 13 = .ok (.aload_n 0, 1) := by decide +kernel
theorem d11_14 : decode jdk_43_method_23_code 14 = .ok (.iload 5, 2) := by decide +kernel
theorem d11_16 : decode jdk_43_method_23_code 16 = .ok (.baload, 1) := by decide +kernel
theorem d11_17 : decode jdk_43_method_23_code 17 = .ok (.iload 4, 2) := by decide +kernel
theorem d11_19 : decode jdk_43_method_23_code 19 = .ok (.if_icmp .ne 6, 3) := by decide +kernel
theorem d11_22 : decode jdk_43_method_23_code 22 = .ok (.iload 5, 2) := by decide +kernel
theorem d11_24 : decode jdk_43_method_23_code 24 = .ok (.ireturn, 1) := by decide +kernel
theorem d11_25 : decode jdk_43_method_23_code 25 = .ok (.iinc 5 1, 3) := by decide +kernel
theorem d11_28 : decode jdk_43_method_23_code 28 = .ok (.goto (-21), 3) := by decide +kernel
theorem d11_31 : decode jdk_43_method_23_code 31 = .ok (.iconst (-1), 1) := by decide +kernel
theorem d11_32 : decode jdk_43_method_23_code 32 = .ok (.ireturn, 1) := by decide +kernel
theorem d12_0 : decode jdk_43_method_22_code 0 = .ok (.iload_n 1, 1) := by decide +kernel
theorem d12_1 : decode jdk_43_method_22_code 1 = .ok (.invokestatic 88, 3) := by decide +kernel
theorem d12_4 : decode jdk_43_method_22_code 4 = .ok (.ifCond .ne 5, 3) := by decide +kernel
theorem d12_9 : decode jdk_43_method_22_code 9 = .ok (.iload_n 2, 1) := by decide +kernel
theorem d12_10 : decode jdk_43_method_22_code 10 = .ok (.iconst 0, 1) := by decide +kernel
theorem d12_11 : decode jdk_43_method_22_code 11 = .ok (.invokestatic 92, 3) := by decide +kernel
theorem d12_14 : decode jdk_43_method_22_code 14 = .ok (.istore_n 2, 1) := by decide +kernel
theorem d12_15 : decode jdk_43_method_22_code 15 = .ok (.iload_n 3, 1) := by decide +kernel
theorem d12_16 : decode jdk_43_method_22_code 16 = .ok (.aload_n 0, 1) := by decide +kernel
theorem d12_17 : decode jdk_43_method_22_code 17 = .ok (.arraylength, 1) := by decide +kernel
theorem d12_18 : decode jdk_43_method_22_code 18 = .ok (.invokestatic 38, 3) := by decide +kernel
theorem d12_21 : decode jdk_43_method_22_code 21 = .ok (.istore_n 3, 1) := by decide +kernel
theorem d12_22 : decode jdk_43_method_22_code 22 = .ok (.iload_n 2, 1) := by decide +kernel
theorem d12_23 : decode jdk_43_method_22_code 23 = .ok (.iload_n 3, 1) := by decide +kernel
theorem d12_24 : decode jdk_43_method_22_code 24 = .ok (.if_icmp .lt 5, 3) := by decide +kernel
theorem d12_27 : decode jdk_43_method_22_code 27 = .ok (.iconst (-1), 1) := by decide +kernel
theorem d12_28 : decode jdk_43_method_22_code 28 = .ok (.ireturn, 1) := by decide +kernel
theorem d12_29 : decode jdk_43_method_22_code 29 = .ok (.aload_n 0, 1) := by decide +kernel
theorem d12_30 : decode jdk_43_method_22_code 30 = .ok (.iload_n 1, 1) := by decide +kernel
theorem d12_31 : decode jdk_43_method_22_code 31 = .ok (.iload_n 2, 1) := by decide +kernel
theorem d12_32 : decode jdk_43_method_22_code 32 = .ok (.iload_n 3, 1) := by decide +kernel
theorem d12_33 : decode jdk_43_method_22_code 33 = .ok (.invokestatic 95, 3) := by decide +kernel
theorem d12_36 : decode jdk_43_method_22_code 36 = .ok (.ireturn, 1) := by decide +kernel
theorem d13_0 : decode jdk_42_method_80_code 0 = .ok (.aload_n 0, 1) := by decide +kernel
theorem d13_1 : decode jdk_42_method_80_code 1 = .ok (.invokevirtual 492, 3) := by decide +kernel
theorem d13_4 : decode jdk_42_method_80_code 4 = .ok (.ifCond .eq 19, 3) := by decide +kernel
theorem d13_7 : decode jdk_42_method_80_code 7 = .ok (.aload_n 0, 1) := by decide +kernel
theorem d13_8 : decode jdk_42_method_80_code 8 = .ok (.getfield 9, 3) := by decide +kernel
theorem d13_11 : decode jdk_42_method_80_code 11 = .ok (.iload_n 1, 1) := by decide +kernel
theorem d13_12 : decode jdk_42_method_80_code 12 = .ok (.iload_n 2, 1) := by decide +kernel
theorem d13_13 : decode jdk_42_method_80_code 13 = .ok (.aload_n 0, 1) := by decide +kernel
theorem d13_14 : decode jdk_42_method_80_code 14 = .ok (.invokevirtual 505, 3) := by decide +kernel
theorem d13_17 : decode jdk_42_method_80_code 17 = .ok (.invokestatic 637, 3) := by decide +kernel
theorem d13_20 : decode jdk_42_method_80_code 20 = .ok (.goto 16, 3) := by decide +kernel
theorem d13_36 : decode jdk_42_method_80_code 36 = .ok (.ireturn, 1) := by decide +kernel
theorem d14_0 : decode jdk_42_method_79_code 0 = .ok (.aload_n 0, 1) := by decide +kernel
theorem d14_1 : decode jdk_42_method_79_code 1 = .ok (.iload_n 1, 1) := by decide +kernel
theorem d14_2 : decode jdk_42_method_79_code 2 = .ok (.iconst 0, 1) := by decide +kernel
theorem d14_3 : decode jdk_42_method_79_code 3 = .ok (.invokevirtual 633, 3) := by decide +kernel
theorem d14_6 : decode jdk_42_method_79_code 6 = .ok (.ireturn, 1) := by decide +kernel
theorem d15_0 : decode jdk_65_method_131_code 0 = .ok (.iload_n 1, 1) := by decide +kernel
theorem d15_1 : decode jdk_65_method_131_code 1 = .ok (.iload_n 0, 1) := by decide +kernel
theorem d15_2 : decode jdk_65_method_131_code 2 = .ok (.if_icmp .ge 35, 3) := by decide +kernel
theorem d15_37 : decode jdk_65_method_131_code 37 = .ok (.return_, 1) := by decide +kernel
theorem d16_0 : decode jdk_65_method_133_code 0 = .ok (.iload_n 1, 1) := by decide +kernel
theorem d16_1 : decode jdk_65_method_133_code 1 = .ok (.iload_n 2, 1) := by decide +kernel
theorem d16_2 : decode jdk_65_method_133_code 2 = .ok (.invokestatic 343, 3) := by decide +kernel
theorem d16_5 : decode jdk_65_method_133_code 5 = .ok (.iload_n 2, 1) := by decide +kernel
theorem d16_6 : decode jdk_65_method_133_code 6 = .ok (.iload_n 1, 1) := by decide +kernel
theorem d16_7 : decode jdk_65_method_133_code 7 = .ok (.isub, 1) := by decide +kernel
theorem d16_8 : decode jdk_65_method_133_code 8 = .ok (.istore_n 3, 1) := by decide +kernel
theorem d16_9 : decode jdk_65_method_133_code 9 = .ok (.iload_n 3, 1) := by decide +kernel
theorem d16_10 : decode jdk_65_method_133_code 10 = .ok (.newarray .byte, 2) := by decide +kernel
theorem d16_12 : decode jdk_65_method_133_code 12 = .ok (.astore 4, 2) := by decide +kernel
theorem d16_14 : decode jdk_65_method_133_code 14 = .ok (.aload_n 0, 1) := by decide +kernel
theorem d16_15 : decode jdk_65_method_133_code 15 = .ok (.iload_n 1, 1) := by decide +kernel
theorem d16_16 : decode jdk_65_method_133_code 16 = .ok (.aload 4, 2) := by decide +kernel
theorem d16_18 : decode jdk_65_method_133_code 18 = .ok (.iconst 0, 1) := by decide +kernel
theorem d16_19 : decode jdk_65_method_133_code 19 = .ok (.aload_n 0, 1) := by decide +kernel
theorem d16_20 : decode jdk_65_method_133_code 20 = .ok (.arraylength, 1) := by decide +kernel
theorem d16_21 : decode jdk_65_method_133_code 21 = .ok (.iload_n 1, 1) := by decide +kernel
theorem d16_22 : decode jdk_65_method_133_code 22 = .ok (.isub, 1) := by decide +kernel
theorem d16_23 : decode jdk_65_method_133_code 23 = .ok (.iload_n 3, 1) := by decide +kernel
theorem d16_24 : decode jdk_65_method_133_code 24 = .ok (.invokestatic 304, 3) := by decide +kernel
theorem d16_27 : decode jdk_65_method_133_code 27 = .ok (.invokestatic 150, 3) := by decide +kernel
theorem d16_30 : decode jdk_65_method_133_code 30 = .ok (.aload 4, 2) := by decide +kernel
theorem d16_32 : decode jdk_65_method_133_code 32 = .ok (.areturn, 1) := by decide +kernel
theorem d17_0 : decode jdk_65_method_132_code 0 = .ok (.iload_n 1, 1) := by decide +kernel
theorem d17_1 : decode jdk_65_method_132_code 1 = .ok (.ifCond .ne 9, 3) := by decide +kernel
theorem d17_4 : decode jdk_65_method_132_code 4 = .ok (.iload_n 2, 1) := by decide +kernel
theorem d17_5 : decode jdk_65_method_132_code 5 = .ok (.aload_n 0, 1) := by decide +kernel
theorem d17_6 : decode jdk_65_method_132_code 6 = .ok (.arraylength, 1) := by decide +kernel
theorem d17_7 : decode jdk_65_method_132_code 7 = .ok (.if_icmp .eq 10, 3) := by decide +kernel
theorem d17_10 : decode jdk_65_method_132_code 10 = .ok (.aload_n 0, 1) := by decide +kernel
theorem d17_11 : decode jdk_65_method_132_code 11 = .ok (.iload_n 1, 1) := by decide +kernel
theorem d17_12 : decode jdk_65_method_132_code 12 = .ok (.iload_n 2, 1) := by decide +kernel
theorem d17_13 : decode jdk_65_method_132_code 13 = .ok (.invokestatic 339, 3) := by decide +kernel
theorem d17_16 : decode jdk_65_method_132_code 16 = .ok (.areturn, 1) := by decide +kernel
theorem d18_0 : decode method_2_code 0 = .ok (.iload_n 0, 1) := by decide +kernel
theorem d18_1 : decode method_2_code 1 = .ok (.sipush 255, 3) := by decide +kernel
theorem d18_4 : decode method_2_code 4 = .ok (.iand, 1) := by decide +kernel
theorem d18_5 : decode method_2_code 5 = .ok (.i2c, 1) := by decide +kernel
theorem d18_6 : decode method_2_code 6 = .ok (.istore_n 1, 1) := by decide +kernel
theorem d18_7 : decode method_2_code 7 = .ok (.iload_n 1, 1) := by decide +kernel
theorem d18_8 : decode method_2_code 8 = .ok (.bipush 58, 2) := by decide +kernel
theorem d18_10 : decode method_2_code 10 = .ok (.if_icmp .ne 6, 3) := by decide +kernel
theorem d18_13 : decode method_2_code 13 = .ok (.bipush 59, 2) := by decide +kernel
theorem d18_15 : decode method_2_code 15 = .ok (.istore_n 1, 1) := by decide +kernel
theorem d18_16 : decode method_2_code 16 = .ok (.iload_n 1, 1) := by decide +kernel
theorem d18_17 : decode method_2_code 17 = .ok (.ireturn, 1) := by decide +kernel
theorem d19_0 : decode method_3_code 0 = .ok (.iload_n 0, 1) := by decide +kernel
theorem d19_1 : decode method_3_code 1 = .ok (.ifCond .ne 14, 3) := by decide +kernel
theorem d19_4 : decode method_3_code 4 = .ok (.new 7, 3) := by decide +kernel
theorem d19_7 : decode method_3_code 7 = .ok (.dup, 1) := by decide +kernel
theorem d19_8 : decode method_3_code 8 = .ok (.iconst 0, 1) := by decide +kernel
theorem d19_9 : decode method_3_code 9 = .ok (.newarray .char, 2) := by decide +kernel
theorem d19_11 : decode method_3_code 11 = .ok (.invokespecial 9, 3) := by decide +kernel
theorem d19_14 : decode method_3_code 14 = .ok (.areturn, 1) := by decide +kernel
theorem d19_15 : decode method_3_code 15 = .ok (.iload_n 0, 1) := by decide +kernel
theorem d19_16 : decode method_3_code 16 = .ok (.iconst 1, 1) := by decide +kernel
theorem d19_17 : decode method_3_code 17 = .ok (.if_icmp .ne 20, 3) := by decide +kernel
theorem d19_20 : decode method_3_code 20 = .ok (.iconst 1, 1) := by decide +kernel
theorem d19_21 : decode method_3_code 21 = .ok (.newarray .char, 2) := by decide +kernel
theorem d19_23 : decode method_3_code 23 = .ok (.astore_n 3, 1) := by decide +kernel
theorem d19_24 : decode method_3_code 24 = .ok (.aload_n 3, 1) := by decide +kernel
theorem d19_25 : decode method_3_code 25 = .ok (.iconst 0, 1) := by decide +kernel
theorem d19_26 : decode method_3_code 26 = .ok (.iload_n 1, 1) := by decide +kernel
theorem d19_27 : decode method_3_code 27 = .ok (.castore, 1) := by decide +kernel
theorem d19_28 : decode method_3_code 28 = .ok (.new 7, 3) := by decide +kernel
theorem d19_31 : decode method_3_code 31 = .ok (.dup, 1) := by decide +kernel
theorem d19_32 : decode method_3_code 32 = .ok (.aload_n 3, 1) := by decide +kernel
theorem d19_33 : decode method_3_code 33 = .ok (.invokespecial 9, 3) := by decide +kernel
theorem d19_36 : decode method_3_code 36 = .ok (.areturn, 1) := by decide +kernel
theorem d19_37 : decode method_3_code 37 = .ok (.iconst 2, 1) := by decide +kernel
theorem d19_38 : decode method_3_code 38 = .ok (.newarray .char, 2) := by decide +kernel
theorem d19_40 : decode method_3_code 40 = .ok (.astore_n 3, 1) := by decide +kernel
theorem d19_41 : decode method_3_code 41 = .ok (.aload_n 3, 1) := by decide +kernel
theorem d19_42 : decode method_3_code 42 = .ok (.iconst 0, 1) := by decide +kernel
theorem d19_43 : decode method_3_code 43 = .ok (.iload_n 1, 1) := by decide +kernel
theorem d19_44 : decode method_3_code 44 = .ok (.castore, 1) := by decide +kernel
theorem d19_45 : decode method_3_code 45 = .ok (.aload_n 3, 1) := by decide +kernel
theorem d19_46 : decode method_3_code 46 = .ok (.iconst 1, 1) := by decide +kernel
theorem d19_47 : decode method_3_code 47 = .ok (.iload_n 2, 1) := by decide +kernel
theorem d19_48 : decode method_3_code 48 = .ok (.castore, 1) := by decide +kernel
theorem d19_49 : decode method_3_code 49 = .ok (.new 7, 3) := by decide +kernel
theorem d19_52 : decode method_3_code 52 = .ok (.dup, 1) := by decide +kernel
theorem d19_53 : decode method_3_code 53 = .ok (.aload_n 3, 1) := by decide +kernel
theorem d19_54 : decode method_3_code 54 = .ok (.invokespecial 9, 3) := by decide +kernel
theorem d19_57 : decode method_3_code 57 = .ok (.areturn, 1) := by decide +kernel
theorem d20_0 : decode jdk_31_method_11_code 0 = .ok (.aload_n 0, 1) := by decide +kernel
theorem d20_1 : decode jdk_31_method_11_code 1 = .ok (.ifnonnull 12, 3) := by decide +kernel
theorem d20_13 : decode jdk_31_method_11_code 13 = .ok (.aload_n 0, 1) := by decide +kernel
theorem d20_14 : decode jdk_31_method_11_code 14 = .ok (.areturn, 1) := by decide +kernel
theorem d21_0 : decode jdk_42_method_55_code 0 = .ok (.aload_n 0, 1) := by decide +kernel
theorem d21_1 : decode jdk_42_method_55_code 1 = .ok (.getfield 9, 3) := by decide +kernel
theorem d21_4 : decode jdk_42_method_55_code 4 = .ok (.arraylength, 1) := by decide +kernel
theorem d21_5 : decode jdk_42_method_55_code 5 = .ok (.ifCond .ne 7, 3) := by decide +kernel
theorem d21_12 : decode jdk_42_method_55_code 12 = .ok (.iconst 0, 1) := by decide +kernel
theorem d21_13 : decode jdk_42_method_55_code 13 = .ok (.ireturn, 1) := by decide +kernel
theorem d22_0 : decode jdk_30_method_1_code 0 = .ok (.aload_n 0, 1) := by decide +kernel
theorem d22_1 : decode jdk_30_method_1_code 1 = .ok (.invokespecial 1, 3) := by decide +kernel
theorem d22_4 : decode jdk_30_method_1_code 4 = .ok (.return_, 1) := by decide +kernel
theorem d23_0 : decode prog_31_method_1_code 0 = .ok (.aload_n 0, 1) := by decide +kernel
theorem d23_1 : decode prog_31_method_1_code 1 = .ok (.invokespecial 1, 3) := by decide +kernel
theorem d23_4 : decode prog_31_method_1_code 4 = .ok (.aload_n 1, 1) := by decide +kernel
theorem d23_5 : decode prog_31_method_1_code 5 = .ok (.ldc 7, 2) := by decide +kernel
theorem d23_7 : decode prog_31_method_1_code 7 = .ok (.invokestatic 9, 3) := by decide +kernel
theorem d23_10 : decode prog_31_method_1_code 10 = .ok (.pop, 1) := by decide +kernel
theorem d23_11 : decode prog_31_method_1_code 11 = .ok (.aload_n 2, 1) := by decide +kernel
theorem d23_12 : decode prog_31_method_1_code 12 = .ok (.ldc 15, 2) := by decide +kernel
theorem d23_14 : decode prog_31_method_1_code 14 = .ok (.invokestatic 9, 3) := by decide +kernel
theorem d23_17 : decode prog_31_method_1_code 17 = .ok (.pop, 1) := by decide +kernel
theorem d23_18 : decode prog_31_method_1_code 18 = .ok (.aload_n 1, 1) := by decide +kernel
theorem d23_19 : decode prog_31_method_1_code 19 = .ok (.invokevirtual 17, 3) := by decide +kernel
theorem d23_22 : decode prog_31_method_1_code 22 = .ok (.ifCond .ne 12, 3) := by decide +kernel
theorem d23_25 : decode prog_31_method_1_code 25 = .ok (.aload_n 1, 1) := by decide +kernel
theorem d23_26 : decode prog_31_method_1_code 26 = .ok (.bipush 58, 2) := by decide +kernel
theorem d23_28 : decode prog_31_method_1_code 28 = .ok (.invokevirtual 23, 3) := by decide +kernel
theorem d23_31 : decode prog_31_method_1_code 31 = .ok (.ifCond .lt 35, 3) := by decide +kernel
theorem d23_66 : decode prog_31_method_1_code 66 = .ok (.aload_n 0, 1) := by decide +kernel
theorem d23_67 : decode prog_31_method_1_code 67 = .ok (.aload_n 1, 1) := by decide +kernel
theorem d23_68 : decode prog_31_method_1_code 68 = .ok (.putfield 47, 3) := by decide +kernel
theorem d23_71 : decode prog_31_method_1_code 71 = .ok (.aload_n 0, 1) := by decide +kernel
theorem d23_72 : decode prog_31_method_1_code 72 = .ok (.aload_n 2, 1) := by decide +kernel
theorem d23_73 : decode prog_31_method_1_code 73 = .ok (.putfield 52, 3) := by decide +kernel
theorem d23_76 : decode prog_31_method_1_code 76 = .ok (.return_, 1) := by decide +kernel
theorem d24_0 : decode jdk_68_method_2_code 0 = .ok (.aload_n 0, 1) := by decide +kernel
theorem d24_1 : decode jdk_68_method_2_code 1 = .ok (.invokespecial 3, 3) := by decide +kernel
theorem d24_4 : decode jdk_68_method_2_code 4 = .ok (.getstatic 18, 3) := by decide +kernel
theorem d24_7 : decode jdk_68_method_2_code 7 = .ok (.ifCond .eq 18, 3) := by decide +kernel
theorem d24_10 : decode jdk_68_method_2_code 10 = .ok (.aload_n 0, 1) := by decide +kernel
theorem d24_11 : decode jdk_68_method_2_code 11 = .ok (.iload_n 1, 1) := by decide +kernel
theorem d24_12 : decode jdk_68_method_2_code 12 = .ok (.newarray .byte, 2) := by decide +kernel
theorem d24_14 : decode jdk_68_method_2_code 14 = .ok (.putfield 15, 3) := by decide +kernel
theorem d24_17 : decode jdk_68_method_2_code 17 = .ok (.aload_n 0, 1) := by decide +kernel
theorem d24_18 : decode jdk_68_method_2_code 18 = .ok (.iconst 0, 1) := by decide +kernel
theorem d24_19 : decode jdk_68_method_2_code 19 = .ok (.putfield 22, 3) := by decide +kernel
theorem d24_22 : decode jdk_68_method_2_code 22 = .ok (.goto 16, 3) := by decide +kernel
theorem d24_38 : decode jdk_68_method_2_code 38 = .ok (.return_, 1) := by decide +kernel
theorem d25_0 : decode jdk_67_method_1_code 0 = .ok (.aload_n 0, 1) := by decide +kernel
theorem d25_1 : decode jdk_67_method_1_code 1 = .ok (.bipush 16, 2) := by decide +kernel
theorem d25_3 : decode jdk_67_method_1_code 3 = .ok (.invokespecial 1, 3) := by decide +kernel
theorem d25_6 : decode jdk_67_method_1_code 6 = .ok (.return_, 1) := by decide +kernel
theorem d26_0 : decode jdk_68_method_9_code 0 = .ok (.aload_n 0, 1) := by decide +kernel
theorem d26_1 : decode jdk_68_method_9_code 1 = .ok (.getfield 15, 3) := by decide +kernel
theorem d26_4 : decode jdk_68_method_9_code 4 = .ok (.arraylength, 1) := by decide +kernel
theorem d26_5 : decode jdk_68_method_9_code 5 = .ok (.aload_n 0, 1) := by decide +kernel
theorem d26_6 : decode jdk_68_method_9_code 6 = .ok (.getfield 22, 3) := by decide +kernel
theorem d26_9 : decode jdk_68_method_9_code 9 = .ok (.ishr, 1) := by decide +kernel
theorem d26_10 : decode jdk_68_method_9_code 10 = .ok (.istore_n 2, 1) := by decide +kernel
theorem d26_11 : decode jdk_68_method_9_code 11 = .ok (.iload_n 1, 1) := by decide +kernel
theorem d26_12 : decode jdk_68_method_9_code 12 = .ok (.iload_n 2, 1) := by decide +kernel
theorem d26_13 : decode jdk_68_method_9_code 13 = .ok (.isub, 1) := by decide +kernel
theorem d26_14 : decode jdk_68_method_9_code 14 = .ok (.ifCond .le 24, 3) := by decide +kernel
theorem d26_38 : decode jdk_68_method_9_code 38 = .ok (.return_, 1) := by decide +kernel
theorem d27_0 : decode jdk_68_method_71_code 0 = .ok (.getstatic 18, 3) := by decide +kernel
theorem d27_3 : decode jdk_68_method_71_code 3 = .ok (.ifCond .eq 18, 3) := by decide +kernel
theorem d27_6 : decode jdk_68_method_71_code 6 = .ok (.aload_n 0, 1) := by decide +kernel
theorem d27_7 : decode jdk_68_method_71_code 7 = .ok (.getfield 22, 3) := by decide +kernel
theorem d27_10 : decode jdk_68_method_71_code 10 = .ok (.aload_n 1, 1) := by decide +kernel
theorem d27_11 : decode jdk_68_method_71_code 11 = .ok (.invokevirtual 40, 3) := by decide +kernel
theorem d27_14 : decode jdk_68_method_71_code 14 = .ok (.if_icmp .eq 7, 3) := by decide +kernel
theorem d27_21 : decode jdk_68_method_71_code 21 = .ok (.return_, 1) := by decide +kernel
theorem d28_0 : decode jdk_42_method_147_code 0 = .ok (.aload_n 0, 1) := by decide +kernel
theorem d28_1 : decode jdk_42_method_147_code 1 = .ok (.invokevirtual 335, 3) := by decide +kernel
theorem d28_4 : decode jdk_42_method_147_code 4 = .ok (.iload_n 3, 1) := by decide +kernel
theorem d28_5 : decode jdk_42_method_147_code 5 = .ok (.if_icmp .ne 23, 3) := by decide +kernel
theorem d28_8 : decode jdk_42_method_147_code 8 = .ok (.aload_n 0, 1) := by decide +kernel
theorem d28_9 : decode jdk_42_method_147_code 9 = .ok (.getfield 9, 3) := by decide +kernel
theorem d28_12 : decode jdk_42_method_147_code 12 = .ok (.iconst 0, 1) := by decide +kernel
theorem d28_13 : decode jdk_42_method_147_code 13 = .ok (.aload_n 1, 1) := by decide +kernel
theorem d28_14 : decode jdk_42_method_147_code 14 = .ok (.iload_n 2, 1) := by decide +kernel
theorem d28_15 : decode jdk_42_method_147_code 15 = .ok (.iload_n 3, 1) := by decide +kernel
theorem d28_16 : decode jdk_42_method_147_code 16 = .ok (.ishl, 1) := by decide +kernel
theorem d28_17 : decode jdk_42_method_147_code 17 = .ok (.aload_n 0, 1) := by decide +kernel
theorem d28_18 : decode jdk_42_method_147_code 18 = .ok (.getfield 9, 3) := by decide +kernel
theorem d28_21 : decode jdk_42_method_147_code 21 = .ok (.arraylength, 1) := by decide +kernel
theorem d28_22 : decode jdk_42_method_147_code 22 = .ok (.invokestatic 212, 3) := by decide +kernel
theorem d28_25 : decode jdk_42_method_147_code 25 = .ok (.goto 18, 3) := by decide +kernel
theorem d28_43 : decode jdk_42_method_147_code 43 = .ok (.return_, 1) := by decide +kernel
theorem d29_0 : decode jdk_68_method_73_code 0 = .ok (.aload_n 0, 1) := by decide +kernel
theorem d29_1 : decode jdk_68_method_73_code 1 = .ok (.aload_n 2, 1) := by decide +kernel
theorem d29_2 : decode jdk_68_method_73_code 2 = .ok (.invokevirtual 397, 3) := by decide +kernel
theorem d29_5 : decode jdk_68_method_73_code 5 = .ok (.aload_n 2, 1) := by decide +kernel
theorem d29_6 : decode jdk_68_method_73_code 6 = .ok (.aload_n 0, 1) := by decide +kernel
theorem d29_7 : decode jdk_68_method_73_code 7 = .ok (.getfield 15, 3) := by decide +kernel
theorem d29_10 : decode jdk_68_method_73_code 10 = .ok (.iload_n 1, 1) := by decide +kernel
theorem d29_11 : decode jdk_68_method_73_code 11 = .ok (.aload_n 0, 1) := by decide +kernel
theorem d29_12 : decode jdk_68_method_73_code 12 = .ok (.getfield 22, 3) := by decide +kernel
theorem d29_15 : decode jdk_68_method_73_code 15 = .ok (.invokevirtual 399, 3) := by decide +kernel
theorem d29_18 : decode jdk_68_method_73_code 18 = .ok (.return_, 1) := by decide +kernel
theorem d30_0 : decode jdk_68_method_22_code 0 = .ok (.aload_n 1, 1) := by decide +kernel
theorem d30_1 : decode jdk_68_method_22_code 1 = .ok (.ifnonnull 8, 3) := by decide +kernel
theorem d30_9 : decode jdk_68_method_22_code 9 = .ok (.aload_n 1, 1) := by decide +kernel
theorem d30_10 : decode jdk_68_method_22_code 10 = .ok (.invokevirtual 32, 3) := by decide +kernel
theorem d30_13 : decode jdk_68_method_22_code 13 = .ok (.istore_n 2, 1) := by decide +kernel
theorem d30_14 : decode jdk_68_method_22_code 14 = .ok (.aload_n 0, 1) := by decide +kernel
theorem d30_15 : decode jdk_68_method_22_code 15 = .ok (.aload_n 0, 1) := by decide +kernel
theorem d30_16 : decode jdk_68_method_22_code 16 = .ok (.getfield 79, 3) := by decide +kernel
theorem d30_19 : decode jdk_68_method_22_code 19 = .ok (.iload_n 2, 1) := by decide +kernel
theorem d30_20 : decode jdk_68_method_22_code 20 = .ok (.iadd, 1) := by decide +kernel
theorem d30_21 : decode jdk_68_method_22_code 21 = .ok (.invokevirtual 100, 3) := by decide +kernel
theorem d30_24 : decode jdk_68_method_22_code 24 = .ok (.aload_n 0, 1) := by decide +kernel
theorem d30_25 : decode jdk_68_method_22_code 25 = .ok (.aload_n 0, 1) := by decide +kernel
theorem d30_26 : decode jdk_68_method_22_code 26 = .ok (.getfield 79, 3) := by decide +kernel
theorem d30_29 : decode jdk_68_method_22_code 29 = .ok (.aload_n 1, 1) := by decide +kernel
theorem d30_30 : decode jdk_68_method_22_code 30 = .ok (.invokevirtual 208, 3) := by decide +kernel
theorem d30_33 : decode jdk_68_method_22_code 33 = .ok (.aload_n 0, 1) := by decide +kernel
theorem d30_34 : decode jdk_68_method_22_code 34 = .ok (.dup, 1) := by decide +kernel
theorem d30_35 : decode jdk_68_method_22_code 35 = .ok (.getfield 79, 3) := by decide +kernel
theorem d30_38 : decode jdk_68_method_22_code 38 = .ok (.iload_n 2, 1) := by decide +kernel
theorem d30_39 : decode jdk_68_method_22_code 39 = .ok (.iadd, 1) := by decide +kernel
theorem d30_40 : decode jdk_68_method_22_code 40 = .ok (.putfield 79, 3) := by decide +kernel
theorem d30_43 : decode jdk_68_method_22_code 43 = .ok (.aload_n 0, 1) := by decide +kernel
theorem d30_44 : decode jdk_68_method_22_code 44 = .ok (.areturn, 1) := by decide +kernel
theorem d31_0 : decode jdk_67_method_7_code 0 = .ok (.aload_n 0, 1) := by decide +kernel
theorem d31_1 : decode jdk_67_method_7_code 1 = .ok (.aload_n 1, 1) := by decide +kernel
theorem d31_2 : decode jdk_67_method_7_code 2 = .ok (.invokespecial 29, 3) := by decide +kernel
theorem d31_5 : decode jdk_67_method_7_code 5 = .ok (.pop, 1) := by decide +kernel
theorem d31_6 : decode jdk_67_method_7_code 6 = .ok (.aload_n 0, 1) := by decide +kernel
theorem d31_7 : decode jdk_67_method_7_code 7 = .ok (.areturn, 1) := by decide +kernel
theorem d32_0 : decode jdk_68_method_64_code 0 = .ok (.aload_n 0, 1) := by decide +kernel
theorem d32_1 : decode jdk_68_method_64_code 1 = .ok (.getfield 15, 3) := by decide +kernel
theorem d32_4 : decode jdk_68_method_64_code 4 = .ok (.areturn, 1) := by decide +kernel
theorem d33_0 : decode jdk_68_method_6_code 0 = .ok (.aload_n 0, 1) := by decide +kernel
theorem d33_1 : decode jdk_68_method_6_code 1 = .ok (.getfield 79, 3) := by decide +kernel
theorem d33_4 : decode jdk_68_method_6_code 4 = .ok (.ireturn, 1) := by decide +kernel
theorem d34_0 : decode jdk_67_method_93_code 0 = .ok (.aload_n 0, 1) := by decide +kernel
theorem d34_1 : decode jdk_67_method_93_code 1 = .ok (.invokespecial 343, 3) := by decide +kernel
theorem d34_4 : decode jdk_67_method_93_code 4 = .ok (.ireturn, 1) := by decide +kernel
theorem d35_0 : decode jdk_68_method_68_code 0 = .ok (.getstatic 18, 3) := by decide +kernel
theorem d35_3 : decode jdk_68_method_68_code 3 = .ok (.ifCond .eq 14, 3) := by decide +kernel
theorem d35_6 : decode jdk_68_method_68_code 6 = .ok (.aload_n 0, 1) := by decide +kernel
theorem d35_7 : decode jdk_68_method_68_code 7 = .ok (.getfield 22, 3) := by decide +kernel
theorem d35_10 : decode jdk_68_method_68_code 10 = .ok (.ifCond .ne 7, 3) := by decide +kernel
theorem d35_13 : decode jdk_68_method_68_code 13 = .ok (.iconst 1, 1) := by decide +kernel
theorem d35_14 : decode jdk_68_method_68_code 14 = .ok (.goto 4, 3) := by decide +kernel
theorem d35_18 : decode jdk_68_method_68_code 18 = .ok (.ireturn, 1) := by decide +kernel
theorem d36_0 : decode jdk_42_method_150_code 0 = .ok (.aload_n 0, 1) := by decide +kernel
theorem d36_1 : decode jdk_42_method_150_code 1 = .ok (.invokespecial 1, 3) := by decide +kernel
theorem d36_4 : decode jdk_42_method_150_code 4 = .ok (.aload_n 1, 1) := by decide +kernel
theorem d36_5 : decode jdk_42_method_150_code 5 = .ok (.invokevirtual 552, 3) := by decide +kernel
theorem d36_8 : decode jdk_42_method_150_code 8 = .ok (.astore_n 3, 1) := by decide +kernel
theorem d36_9 : decode jdk_42_method_150_code 9 = .ok (.aload_n 1, 1) := by decide +kernel
theorem d36_10 : decode jdk_42_method_150_code 10 = .ok (.invokevirtual 549, 3) := by decide +kernel
theorem d36_13 : decode jdk_42_method_150_code 13 = .ok (.istore 4, 2) := by decide +kernel
theorem d36_15 : decode jdk_42_method_150_code 15 = .ok (.aload_n 1, 1) := by decide +kernel
theorem d36_16 : decode jdk_42_method_150_code 16 = .ok (.invokevirtual 1047, 3) := by decide +kernel
theorem d36_19 : decode jdk_42_method_150_code 19 = .ok (.ifCond .eq 22, 3) := by decide +kernel
theorem d36_22 : decode jdk_42_method_150_code 22 = .ok (.aload_n 0, 1) := by decide +kernel
theorem d36_23 : decode jdk_42_method_150_code 23 = .ok (.iconst 0, 1) := by decide +kernel
theorem d36_24 : decode jdk_42_method_150_code 24 = .ok (.putfield 15, 3) := by decide +kernel
theorem d36_27 : decode jdk_42_method_150_code 27 = .ok (.aload_n 0, 1) := by decide +kernel
theorem d36_28 : decode jdk_42_method_150_code 28 = .ok (.aload_n 3, 1) := by decide +kernel
theorem d36_29 : decode jdk_42_method_150_code 29 = .ok (.iconst 0, 1) := by decide +kernel
theorem d36_30 : decode jdk_42_method_150_code 30 = .ok (.iload 4, 2) := by decide +kernel
theorem d36_32 : decode jdk_42_method_150_code 32 = .ok (.invokestatic 54, 3) := by decide +kernel
theorem d36_35 : decode jdk_42_method_150_code 35 = .ok (.putfield 9, 3) := by decide +kernel
theorem d36_38 : decode jdk_42_method_150_code 38 = .ok (.goto 59, 3) := by decide +kernel
theorem d36_97 : decode jdk_42_method_150_code 97 = .ok (.return_, 1) := by decide +kernel
theorem d37_0 : decode jdk_42_method_53_code 0 = .ok (.aload_n 0, 1) := by decide +kernel
theorem d37_1 : decode jdk_42_method_53_code 1 = .ok (.aload_n 1, 1) := by decide +kernel
theorem d37_2 : decode jdk_42_method_53_code 2 = .ok (.aconst_null, 1) := by decide +kernel
theorem d37_3 : decode jdk_42_method_53_code 3 = .ok (.invokespecial 489, 3) := by decide +kernel
theorem d37_6 : decode jdk_42_method_53_code 6 = .ok (.return_, 1) := by decide +kernel
theorem d38_0 : decode jdk_67_method_42_code 0 = .ok (.new 18, 3) := by decide +kernel
theorem d38_3 : decode jdk_67_method_42_code 3 = .ok (.dup, 1) := by decide +kernel
theorem d38_4 : decode jdk_67_method_42_code 4 = .ok (.aload_n 0, 1) := by decide +kernel
theorem d38_5 : decode jdk_67_method_42_code 5 = .ok (.invokespecial 137, 3) := by decide +kernel
theorem d38_8 : decode jdk_67_method_42_code 8 = .ok (.areturn, 1) := by decide +kernel
theorem d39_0 : decode prog_31_method_3_code 0 = .ok (.new 29, 3) := by decide +kernel
theorem d39_3 : decode prog_31_method_3_code 3 = .ok (.dup, 1) := by decide +kernel
theorem d39_4 : decode prog_31_method_3_code 4 = .ok (.invokespecial 31, 3) := by decide +kernel
theorem d39_7 : decode prog_31_method_3_code 7 = .ok (.aload_n 0, 1) := by decide +kernel
theorem d39_8 : decode prog_31_method_3_code 8 = .ok (.getfield 47, 3) := by decide +kernel
theorem d39_11 : decode prog_31_method_3_code 11 = .ok (.invokevirtual 34, 3) := by decide +kernel
theorem d39_14 : decode prog_31_method_3_code 14 = .ok (.ldc 68, 2) := by decide +kernel
theorem d39_16 : decode prog_31_method_3_code 16 = .ok (.invokevirtual 34, 3) := by decide +kernel
theorem d39_19 : decode prog_31_method_3_code 19 = .ok (.aload_n 0, 1) := by decide +kernel
theorem d39_20 : decode prog_31_method_3_code 20 = .ok (.getfield 52, 3) := by decide +kernel
theorem d39_23 : decode prog_31_method_3_code 23 = .ok (.invokevirtual 34, 3) := by decide +kernel
theorem d39_26 : decode prog_31_method_3_code 26 = .ok (.invokevirtual 40, 3) := by decide +kernel
theorem d39_29 : decode prog_31_method_3_code 29 = .ok (.areturn, 1) := by decide +kernel
theorem d40_0 : decode jdk_41_method_11_code 0 = .ok (.iload_n 0, 1) := by decide +kernel
theorem d40_1 : decode jdk_41_method_11_code 1 = .ok (.ifCond .lt 8, 3) := by decide +kernel
theorem d40_4 : decode jdk_41_method_11_code 4 = .ok (.iload_n 0, 1) := by decide +kernel
theorem d40_5 : decode jdk_41_method_11_code 5 = .ok (.iload_n 1, 1) := by decide +kernel
theorem d40_6 : decode jdk_41_method_11_code 6 = .ok (.if_icmp .lt 10, 3) := by decide +kernel
theorem d40_16 : decode jdk_41_method_11_code 16 = .ok (.iload_n 0, 1) := by decide +kernel
theorem d40_17 : decode jdk_41_method_11_code 17 = .ok (.ireturn, 1) := by decide +kernel
theorem d41_0 : decode jdk_42_method_155_code 0 = .ok (.iload_n 0, 1) := by decide +kernel
theorem d41_1 : decode jdk_42_method_155_code 1 = .ok (.iload_n 1, 1) := by decide +kernel
theorem d41_2 : decode jdk_42_method_155_code 2 = .ok (.getstatic 1053, 3) := by decide +kernel
theorem d41_5 : decode jdk_42_method_155_code 5 = .ok (.invokestatic 1059, 3) := by decide +kernel
theorem d41_8 : decode jdk_42_method_155_code 8 = .ok (.pop, 1) := by decide +kernel
theorem d41_9 : decode jdk_42_method_155_code 9 = .ok (.return_, 1) := by decide +kernel
theorem d42_0 : decode jdk_43_method_2_code 0 = .ok (.iload_n 1, 1) := by decide +kernel
theorem d42_1 : decode jdk_43_method_2_code 1 = .ok (.aload_n 0, 1) := by decide +kernel
theorem d42_2 : decode jdk_43_method_2_code 2 = .ok (.arraylength, 1) := by decide +kernel
theorem d42_3 : decode jdk_43_method_2_code 3 = .ok (.invokestatic 9, 3) := by decide +kernel
theorem d42_6 : decode jdk_43_method_2_code 6 = .ok (.aload_n 0, 1) := by decide +kernel
theorem d42_7 : decode jdk_43_method_2_code 7 = .ok (.iload_n 1, 1) := by decide +kernel
theorem d42_8 : decode jdk_43_method_2_code 8 = .ok (.baload, 1) := by decide +kernel
theorem d42_9 : decode jdk_43_method_2_code 9 = .ok (.sipush 255, 3) := by decide +kernel
theorem d42_12 : decode jdk_43_method_2_code 12 = .ok (.iand, 1) := by decide +kernel
theorem d42_13 : decode jdk_43_method_2_code 13 = .ok (.i2c, 1) := by decide +kernel
theorem d42_14 : decode jdk_43_method_2_code 14 = .ok (.ireturn, 1) := by decide +kernel
theorem d43_0 : decode jdk_42_method_56_code 0 = .ok (.aload_n 0, 1) := by decide +kernel
theorem d43_1 : decode jdk_42_method_56_code 1 = .ok (.invokevirtual 492, 3) := by decide +kernel
theorem d43_4 : decode jdk_42_method_56_code 4 = .ok (.ifCond .eq 12, 3) := by decide +kernel
theorem d43_7 : decode jdk_42_method_56_code 7 = .ok (.aload_n 0, 1) := by decide +kernel
theorem d43_8 : decode jdk_42_method_56_code 8 = .ok (.getfield 9, 3) := by decide +kernel
theorem d43_11 : decode jdk_42_method_56_code 11 = .ok (.iload_n 1, 1) := by decide +kernel
theorem d43_12 : decode jdk_42_method_56_code 12 = .ok (.invokestatic 495, 3) := by decide +kernel
theorem d43_15 : decode jdk_42_method_56_code 15 = .ok (.ireturn, 1) := by decide +kernel
theorem pn0 : plainName "java/lang/StringUTF16" = true := by first | (simp [plainName, overriddenIn]; done) | decide +kernel
theorem pn1 : plainName "java/lang/String" = true := by first | (simp [plainName, overriddenIn]; done) | decide +kernel
theorem pn2 : plainName "java/lang/StringLatin1" = true := by first | (simp [plainName, overriddenIn]; done) | decide +kernel
theorem pn3 : plainName "java/util/Arrays" = true := by first | (simp [plainName, overriddenIn]; done) | decide +kernel
theorem pn4 : plainName "com/example/shoalwork/shoalwork/task/TaskSpecToStringPinLaw" = true := by first | (simp [plainName, overriddenIn]; done) | decide +kernel
theorem pn5 : plainName "java/util/Objects" = true := by first | (simp [plainName, overriddenIn]; done) | decide +kernel
theorem pn6 : plainName "java/lang/Record" = true := by first | (simp [plainName, overriddenIn]; done) | decide +kernel
theorem pn7 : plainName "com/example/shoalwork/shoalwork/task/TaskSpec" = true := by first | (simp [plainName, overriddenIn]; done) | decide +kernel
theorem pn8 : plainName "java/lang/AbstractStringBuilder" = true := by first | (simp [plainName, overriddenIn]; done) | decide +kernel
theorem pn9 : plainName "java/lang/StringBuilder" = true := by first | (simp [plainName, overriddenIn]; done) | decide +kernel
theorem pn10 : plainName "jdk/internal/util/Preconditions" = true := by first | (simp [plainName, overriddenIn]; done) | decide +kernel
theorem pd0 : parseMethodDescriptor "([CI[BII)I" = some ⟨[(.array .char), .int, (.array .byte), .int, .int], some .int⟩ := by decide +kernel
theorem pd1 : parseMethodDescriptor "([CII)[B" = some ⟨[(.array .char), .int, .int], some (.array .byte)⟩ := by decide +kernel
theorem pd2 : parseMethodDescriptor "([BI)B" = some ⟨[(.array .byte), .int], some .byte⟩ := by decide +kernel
theorem pd3 : parseMethodDescriptor "([CIILjava/lang/Void;)V" = some ⟨[(.array .char), .int, .int, (.object "java/lang/Void")], none⟩ := by decide +kernel
theorem pd4 : parseMethodDescriptor "()B" = some ⟨[], some .byte⟩ := by decide +kernel
theorem pd5 : parseMethodDescriptor "(I)Z" = some ⟨[.int], some .boolean⟩ := by decide +kernel
theorem pd6 : parseMethodDescriptor "(II)I" = some ⟨[.int, .int], some .int⟩ := by decide +kernel
theorem pd7 : parseMethodDescriptor "([BIII)I" = some ⟨[(.array .byte), .int, .int, .int], some .int⟩ := by decide +kernel
theorem pd8 : parseMethodDescriptor "()Z" = some ⟨[], some .boolean⟩ := by decide +kernel
theorem pd9 : parseMethodDescriptor "()I" = some ⟨[], some .int⟩ := by decide +kernel
theorem pd10 : parseMethodDescriptor "(II)V" = some ⟨[.int, .int], none⟩ := by decide +kernel
theorem pd11 : parseMethodDescriptor "([BII)[B" = some ⟨[(.array .byte), .int, .int], some (.array .byte)⟩ := by decide +kernel
theorem pd12 : parseMethodDescriptor "([C)V" = some ⟨[(.array .char)], none⟩ := by decide +kernel
theorem pd13 : parseMethodDescriptor "()V" = some ⟨[], none⟩ := by decide +kernel
theorem pd14 : parseMethodDescriptor "(Ljava/lang/Object;Ljava/lang/String;)Ljava/lang/Object;" = some ⟨[(.object "java/lang/Object"), (.object "java/lang/String")], some (.object "java/lang/Object")⟩ := by decide +kernel
theorem pd15 : parseMethodDescriptor "(I)I" = some ⟨[.int], some .int⟩ := by decide +kernel
theorem pd16 : parseMethodDescriptor "(I)V" = some ⟨[.int], none⟩ := by decide +kernel
theorem pd17 : parseMethodDescriptor "(Ljava/lang/String;)V" = some ⟨[(.object "java/lang/String")], none⟩ := by decide +kernel
theorem pd18 : parseMethodDescriptor "([BIB)V" = some ⟨[(.array .byte), .int, .byte], none⟩ := by decide +kernel
theorem pd19 : parseMethodDescriptor "(ILjava/lang/String;)V" = some ⟨[.int, (.object "java/lang/String")], none⟩ := by decide +kernel
theorem pd20 : parseMethodDescriptor "(Ljava/lang/String;)Ljava/lang/AbstractStringBuilder;" = some ⟨[(.object "java/lang/String")], some (.object "java/lang/AbstractStringBuilder")⟩ := by decide +kernel
theorem pd21 : parseMethodDescriptor "()[B" = some ⟨[], some (.array .byte)⟩ := by decide +kernel
theorem pd22 : parseMethodDescriptor "(Ljava/lang/AbstractStringBuilder;Ljava/lang/Void;)V" = some ⟨[(.object "java/lang/AbstractStringBuilder"), (.object "java/lang/Void")], none⟩ := by decide +kernel
theorem pd23 : parseMethodDescriptor "(Ljava/lang/StringBuilder;)V" = some ⟨[(.object "java/lang/StringBuilder")], none⟩ := by decide +kernel
theorem pd24 : parseMethodDescriptor "(Ljava/lang/String;)Ljava/lang/StringBuilder;" = some ⟨[(.object "java/lang/String")], some (.object "java/lang/StringBuilder")⟩ := by decide +kernel
theorem pd25 : parseMethodDescriptor "()Ljava/lang/String;" = some ⟨[], some (.object "java/lang/String")⟩ := by decide +kernel
theorem pd26 : parseMethodDescriptor "(IILjava/util/function/BiFunction;)I" = some ⟨[.int, .int, (.object "java/util/function/BiFunction")], some .int⟩ := by decide +kernel
theorem pd27 : parseMethodDescriptor "([BI)C" = some ⟨[(.array .byte), .int], some .char⟩ := by decide +kernel
theorem pd28 : parseMethodDescriptor "(I)C" = some ⟨[.int], some .char⟩ := by decide +kernel
theorem pd29 : parseMethodDescriptor "(ICC)Ljava/lang/String;" = some ⟨[.int, .char, .char], some (.object "java/lang/String")⟩ := by decide +kernel
theorem pd30 : parseMethodDescriptor "(Ljava/lang/String;Ljava/lang/String;)V" = some ⟨[(.object "java/lang/String"), (.object "java/lang/String")], none⟩ := by decide +kernel
def Glob (Z : State) (a0 : Array Value) : Prop := HW Z a0 ∧ EW Z a0 ELs ∧ (∃ cv : Int32, ¬ cv = 0 ∧ Sta Z Z.heap "java/lang/String" "COMPACT_STRINGS" "Z" (.int cv)) ∧ (∃ fv : Value, fv.isRef = true ∧ Sta Z Z.heap "jdk/internal/util/Preconditions" "SIOOBE_FORMATTER" "Ljava/util/function/BiFunction;" fv)
theorem Glob.compact {Z : State} {a0 : Array Value} (G : Glob Z a0) : ∃ cv : Int32, ¬ cv = 0 ∧ Sta Z Z.heap "java/lang/String" "COMPACT_STRINGS" "Z" (.int cv) := G.2.2.1
theorem Glob.fmt {Z : State} {a0 : Array Value} (G : Glob Z a0) : ∃ fv : Value, fv.isRef = true ∧ Sta Z Z.heap "jdk/internal/util/Preconditions" "SIOOBE_FORMATTER" "Ljava/util/function/BiFunction;" fv := G.2.2.2
theorem Glob.wS {Z : State} {a0 : Array Value} (G : Glob Z a0) : ∀ a ∈ Bundle.stringAtoms, a.before a0 Z = true := by
  have hw := G.1
  exact (List.forall_mem_cons.mpr ⟨(w10 hw), List.forall_mem_cons.mpr ⟨(w9 hw), List.forall_mem_cons.mpr ⟨(w26 hw), List.forall_mem_cons.mpr ⟨(w36 hw), List.forall_mem_cons.mpr ⟨(w34 hw), List.forall_mem_cons.mpr ⟨(w50 hw), List.forall_mem_cons.mpr ⟨(w51 hw), fun _ h => nomatch h⟩⟩⟩⟩⟩⟩⟩)
theorem Glob.sl {Z : State} {a0 : Array Value} (G : Glob Z a0) : slotK Z vK ≠ slotK Z cK := by
  have hw := G.1
  exact slot_ne (C := "java/lang/String") (Or.inr (w36 hw)) (Or.inr (w34 hw)) (by decide) (t := .array .byte) (t' := .byte) (by decide) (by decide)
theorem lay_java_lang_String {Z : State} {a0 : Array Value} (hw : HW Z a0) : (∀ f ∈ ([((("java/lang/String", "value", "[B") : Key), (.null : Value)), ((("java/lang/String", "coder", "B") : Key), (.int 0 : Value))] : List (Key × Value)), Laid Z a0 "java/lang/String" f.1.1 f.1.2.1 f.1.2.2 ∧ ∃ ty, parseFieldDescriptor f.1.2.2 = some ty ∧ f.2 = defaultValue ty) ∧ (([((("java/lang/String", "value", "[B") : Key), (.null : Value)), ((("java/lang/String", "coder", "B") : Key), (.int 0 : Value))] : List (Key × Value)).map fun f => slotK Z f.1).Nodup := lay_of (List.forall_mem_cons.mpr ⟨⟨Or.inr (w36 hw), (.array .byte), by decide, rfl⟩, List.forall_mem_cons.mpr ⟨⟨Or.inr (w34 hw), .byte, by decide, rfl⟩, fun _ h => nomatch h⟩⟩) (by decide)
theorem lay_com_example_shoalwork_shoalwork_task_TaskSpec {Z : State} {a0 : Array Value} (hw : HW Z a0) : (∀ f ∈ ([((("com/example/shoalwork/shoalwork/task/TaskSpec", "kind", "Ljava/lang/String;") : Key), (.null : Value)), ((("com/example/shoalwork/shoalwork/task/TaskSpec", "argument", "Ljava/lang/String;") : Key), (.null : Value))] : List (Key × Value)), Laid Z a0 "com/example/shoalwork/shoalwork/task/TaskSpec" f.1.1 f.1.2.1 f.1.2.2 ∧ ∃ ty, parseFieldDescriptor f.1.2.2 = some ty ∧ f.2 = defaultValue ty) ∧ (([((("com/example/shoalwork/shoalwork/task/TaskSpec", "kind", "Ljava/lang/String;") : Key), (.null : Value)), ((("com/example/shoalwork/shoalwork/task/TaskSpec", "argument", "Ljava/lang/String;") : Key), (.null : Value))] : List (Key × Value)).map fun f => slotK Z f.1).Nodup := lay_of (List.forall_mem_cons.mpr ⟨⟨Or.inr (w105 hw), (.object "java/lang/String"), by decide, rfl⟩, List.forall_mem_cons.mpr ⟨⟨Or.inr (w107 hw), (.object "java/lang/String"), by decide, rfl⟩, fun _ h => nomatch h⟩⟩) (by decide)
theorem lay_java_lang_StringBuilder {Z : State} {a0 : Array Value} (hw : HW Z a0) : (∀ f ∈ ([((("java/lang/AbstractStringBuilder", "value", "[B") : Key), (.null : Value)), ((("java/lang/AbstractStringBuilder", "coder", "B") : Key), (.int 0 : Value)), ((("java/lang/AbstractStringBuilder", "count", "I") : Key), (.int 0 : Value))] : List (Key × Value)), Laid Z a0 "java/lang/StringBuilder" f.1.1 f.1.2.1 f.1.2.2 ∧ ∃ ty, parseFieldDescriptor f.1.2.2 = some ty ∧ f.2 = defaultValue ty) ∧ (([((("java/lang/AbstractStringBuilder", "value", "[B") : Key), (.null : Value)), ((("java/lang/AbstractStringBuilder", "coder", "B") : Key), (.int 0 : Value)), ((("java/lang/AbstractStringBuilder", "count", "I") : Key), (.int 0 : Value))] : List (Key × Value)).map fun f => slotK Z f.1).Nodup := lay_of (List.forall_mem_cons.mpr ⟨⟨Or.inl (w128 hw), (.array .byte), by decide, rfl⟩, List.forall_mem_cons.mpr ⟨⟨Or.inl (w130 hw), .byte, by decide, rfl⟩, List.forall_mem_cons.mpr ⟨⟨Or.inl (w143 hw), .int, by decide, rfl⟩, fun _ h => nomatch h⟩⟩⟩) (by decide)

def kc (x : Int32) : Int32 := if x &&& 255 = 58 then 59 else x &&& 255
theorem lat_kc (x : Int32) : Lat (kc x) := by
  unfold kc; split
  · unfold Lat; decide
  · exact lat_and x
theorem kc_ne (x : Int32) : ¬ kc x = 58 := by
  unfold kc; split
  · decide
  · assumption
theorem lat58 : Lat 58 := by unfold Lat; decide
theorem lat_small {x : Int32} (h : Lat x) : ∃ k : Nat, k < 256 ∧ x = k.toInt32 := by
  refine ⟨x.toInt.toNat, by have := h.1; have := h.2; omega, Int32.toInt_inj.mp ?_⟩
  rw [n_toInt (by have := h.2; omega)]
  have := h.1; omega
theorem mod3 {x : Int32} (h : Lat x) : ∃ p : Nat, p < 3 ∧ x % 3 = p.toInt32 := by
  obtain ⟨k, hk, rfl⟩ := lat_small h
  refine ⟨k % 3, Nat.mod_lt _ (by decide), Int32.toInt_inj.mp ?_⟩
  rw [Int32.toInt_mod, n_toInt (by omega), n_toInt (by omega)]
  exact (Int.ofNat_tmod k 3).symm
theorem and1 (x : Int32) : x &&& 1 = 0 ∨ x &&& 1 = 1 := by
  have h : (x &&& 1).toBitVec.toNat ≤ 1 := by
    simp only [Int32.toBitVec_and, BitVec.toNat_and]
    exact Nat.and_le_right
  have e : ∀ y : Int32, (x &&& 1).toBitVec.toNat = y.toBitVec.toNat → x &&& 1 = y := fun y q => Int32.toBitVec_inj.mp (BitVec.eq_of_toNat_eq q)
  have h0 : (0 : Int32).toBitVec.toNat = 0 := rfl
  have h1 : (1 : Int32).toBitVec.toNat = 1 := rfl
  rcases Nat.le_one_iff_eq_zero_or_eq_one.mp h with q | q
  · exact Or.inl (e 0 (q.trans h0.symm))
  · exact Or.inr (e 1 (q.trans h1.symm))
theorem by8_and {x : Int32} (h : Lat x) : by8 x &&& 255 = x := by
  obtain ⟨k, hk, rfl⟩ := lat_small h
  exact (by decide +kernel : ∀ j : Fin 256, by8 j.val.toInt32 &&& 255 = j.val.toInt32) ⟨k, hk⟩
theorem le16 {n : Nat} (h : n ≤ 16) : ¬ (0 : Int32) < n.toInt32 - 16 := (by decide : ∀ j : Fin 17, ¬ (0 : Int32) < j.val.toInt32 - 16) ⟨n, by omega⟩
theorem n_add (a b : Nat) : a.toInt32 + b.toInt32 = (a + b).toInt32 := (Int32.ofNat_add a b).symm
theorem shl0 (x : Int32) : x <<< ((0 : Int32) &&& 31) = x := by
  have e : ((0 : Int32) &&& 31) = 0 := by decide
  rw [e]; exact Int32.shiftLeft_zero
/-- the bytes of a builder of 16 that holds these chars -/
def sbA (cs : List Int32) : List Value := (cs.map by8).map Value.int ++ List.replicate (16 - cs.length) (.int 0)
theorem sbA_len {cs : List Int32} (h : cs.length ≤ 16) : (sbA cs).length = 16 := by unfold sbA; simp; omega
theorem sbA_take {cs : List Int32} : (sbA cs).take cs.length = (cs.map by8).map Value.int := by
  unfold sbA
  have e : ((cs.map by8).map Value.int).length = cs.length := by simp
  rw [← e, List.take_left']; rw [e]
theorem sbA_put {cs xs : List Int32} (h : cs.length + xs.length ≤ 16) : (sbA cs).take cs.length ++ (((xs.map by8).map Value.int).drop 0).take xs.length ++ (sbA cs).drop (cs.length + xs.length) = sbA (cs ++ xs) := by
  have e : ((cs.map by8).map Value.int).length = cs.length := by simp
  have e2 : (((xs.map by8).map Value.int).drop 0).take xs.length = (xs.map by8).map Value.int := by
    rw [List.drop_zero, List.take_of_length_le (by simp)]
  have e3 : (sbA cs).drop (cs.length + xs.length) = List.replicate (16 - (cs ++ xs).length) (.int 0) := by
    unfold sbA
    rw [List.drop_append, e, List.drop_eq_nil_of_le (by rw [e]; omega), List.nil_append, List.drop_replicate]
    congr 1; simp; omega
  rw [sbA_take, e2, e3]
  unfold sbA
  simp [List.map_append]

theorem compress_set {cs : List Int32} {i r : Nat} (h : i < cs.length) : ((cs.take i).map (fun x => Value.int (by8 x)) ++ List.replicate (r + 1) (Value.int 0)).set i (.int (nar .byte (cs[i].toInt8.toInt32))) = (cs.take (i + 1)).map (fun x => Value.int (by8 x)) ++ List.replicate r (.int 0) := by
  have e : nar .byte (cs[i].toInt8.toInt32) = by8 cs[i] := by simp [nar, by8]
  have hl : ((cs.take i).map (fun x => Value.int (by8 x))).length = i := by simp; omega
  rw [e, List.set_append_right _ _ (by omega), hl, Nat.sub_self, List.replicate_succ, List.set_cons_zero, List.take_succ_eq_append_getElem h, List.map_append, List.append_assoc]
  rfl
theorem coder_zero (a : Int32) : (ushr (a - a) 31).toInt8.toInt32 = 0 := by
  have : a - a = 0 := Int32.sub_self ..
  rw [this]; decide
theorem by8_store {x : Int32} : Value.int (nar .byte (x.toInt8.toInt32)) = .int (by8 x) := by simp [nar, by8]
theorem str_same {Z : State} {h : Heap} {a b b2 : Addr} (F : Foot (fun _ => True) Z h (a, sO b)) (H : Foot (fun _ => True) Z h (a, sO b2)) : b = b2 := by
  obtain ⟨c1, _, _, _, _, h1, h2, -, -, -, -, h7⟩ := F.2.2.1 (vK, .ref b) (List.mem_cons_self ..)
  obtain ⟨c2, _, _, _, _, g1, g2, -, -, -, -, g7⟩ := H.2.2.1 (vK, .ref b2) (List.mem_cons_self ..)
  cases h1.symm.trans g1; cases h2.symm.trans g2
  have := h7.symm.trans g7
  simpa using this
theorem ar_same {Z : State} {h : Heap} {a : Addr} {ty : FieldType} {xs ys : List Int32} (F : Foot (fun _ => True) Z h (a, aO ty (xs.map Value.int))) (H : Foot (fun _ => True) Z h (a, aO ty (ys.map Value.int))) : xs = ys := by
  obtain ⟨-, c1, A1, s1, -⟩ := F
  obtain ⟨-, c2, A2, s2, -⟩ := H
  cases A1.1.symm.trans A2.1
  have e : xs.map Value.int = ys.map Value.int := by
    have := s1.symm.trans s2
    simpa using congrArg Array.toList this
  exact (List.map_inj_right (fun x y q => by cases q; rfl)).mp e
theorem map_by8 {xs ys : List Int32} (hx : ∀ x ∈ xs, Lat x) (hy : ∀ y ∈ ys, Lat y) (h : xs.map by8 = ys.map by8) : xs = ys := by
  induction xs generalizing ys with
  | nil => cases ys with
    | nil => rfl
    | cons y ys => simp at h
  | cons x xs ih => cases ys with
    | nil => simp at h
    | cons y ys =>
      simp only [List.map_cons, List.cons.injEq] at h
      rw [by8_inj (hx x (List.mem_cons_self ..)) (hy y (List.mem_cons_self ..)) h.1, ih (fun a ha => hx a (List.mem_cons_of_mem _ ha)) (fun a ha => hy a (List.mem_cons_of_mem _ ha)) h.2]
theorem len_str {Z : State} {h : Heap} {a : Addr} {cs : List Int32} (F : Foot (fun _ => True) Z h (a, bO cs)) : cs.length < 2 ^ 31 := by
  obtain ⟨-, c1, A1, s1, hl, -⟩ := F
  simpa using hl

theorem sh0 (x : Int32) : x >>> ((0 : Int32) &&& 31) = x := by
  have e : ((0 : Int32) &&& 31) = 0 := by decide
  rw [e]; exact Int32.shiftRight_zero
theorem lat63 : Lat 63 := by unfold Lat; decide

set_option maxRecDepth 65536 in
set_option maxHeartbeats 4000000 in
theorem c_compress21 {l : Launch} {Z : State} {a0 : Array Value} (G : Glob Z a0) {b c' : Addr} {cs : List Int32} (hl : cs.length ≤ 5) (hc : ∀ x ∈ cs, Lat x) : Con NR ELs l Z (⟨"java/lang/StringUTF16", "compress", "([CI[BII)I"⟩ : MethodName) jdk_52_method_21_code 7 (Option.some Jvm.ClassFile.FieldType.int) ({ frames := 0, cells := 0, slots := 0, locals := 0 } : Room) [.ref b, .int 0, .ref c', .int 0, .int cs.length.toInt32] [(c', aO .byte (List.replicate cs.length (.int 0)))] [(b, aO .char (cs.map Value.int))] (fun v O' FN => v = some (.int cs.length.toInt32) ∧ O' = [(c', aO .byte ((cs.map by8).map Value.int))] ∧ FN = []) := by
  have hw := G.1
  refine Con.intro (own := "java/lang/StringUTF16") (name := "compress") (plainFor_of_name pn0) rfl rfl ⟨_, G.2.1⟩ #[.val (.ref b), .val (.int 0), .val (.ref c'), .val (.int 0), .val (.int cs.length.toInt32), .unset, .unset] rfl ?_
  intro p e s m below meth c T N
  have loop : ∀ (r i : Nat) (L6 : Slot) (T : State), i + r = cs.length → (L6 = .unset ∨ ∃ w, L6 = .val w ∧ w.category = 1) → Now NR ELs Z "java/lang/StringUTF16" "compress" jdk_52_method_21_code 7 (Option.some Jvm.ClassFile.FieldType.int) p l e ({ frames := 0, cells := 0, slots := 0, locals := 0 } : Room) s m ([.ref b, .int 0, .ref c', .int 0, .int cs.length.toInt32] : List Value).toArray below meth c [(c', aO .byte (List.replicate cs.length (.int 0)))] s.vm T 0 0 [(c', aO .byte ((cs.take i).map (fun x => Value.int (by8 x)) ++ List.replicate r (.int 0)))] [(b, aO .char (cs.map Value.int))] [] →
      Goes p e below (Jvm.Own.Out NR ELs Z [(c', aO .byte (List.replicate cs.length (.int 0)))] [(b, aO .char (cs.map Value.int))] (fun v O' FN => v = some (.int cs.length.toInt32) ∧ O' = [(c', aO .byte ((cs.map by8).map Value.int))] ∧ FN = []) (({ frames := 0, cells := 0, slots := 0, locals := 0 } : Room) : Room).cells (({ frames := 0, cells := 0, slots := 0, locals := 0 } : Room) : Room).slots s) (T.setTop (mkF m 3 #[.val (.ref b), .val (.int i.toInt32), .val (.ref c'), .val (.int i.toInt32), .val (.int cs.length.toInt32), .val (.int i.toInt32), L6] [])) := by
    intro r
    induction r with
    | zero =>
      intro i L6 T hi hL N
      obtain rfl : i = cs.length := by omega
      refine N.iload (pc := 3) d0_3 rfl ?_
      refine N.iload (pc := 5) d0_5 rfl ?_
      refine N.icmpgeT (pc := 7) (pc' := 44) d0_7 rfl Int32.lt_irrefl ?_
      refine N.iload (pc := 44) d0_44 rfl ?_
      exact N.ireturn (pc := 46) [] (fun _ h => h) (List.forall_mem_nil _) (Nat.le_of_ble_eq_true rfl) (Nat.le_of_ble_eq_true rfl) (t := .int) d0_46 rfl (by simp) rfl ⟨rfl, by simp [Function.comp_def], rfl⟩
    | succ r ih =>
      intro i L6 T hi hL N
      have hlt : i < cs.length := by omega
      have hi31 : i < 2 ^ 31 := by omega
      refine N.iload (pc := 3) d0_3 rfl ?_
      refine N.iload (pc := 5) d0_5 rfl ?_
      refine N.icmpgeF (pc := 7) d0_7 ((n_lt hi31 (by omega)).mpr hlt) ?_
      refine N.aloadN (pc := 10) d0_10 rfl rfl ?_
      refine N.iloadN (pc := 11) d0_11 rfl ?_
      have hx := hc cs[i] (List.getElem_mem hlt)
      refine N.caload (pc := 12) (v := .int cs[i]) 1 i d0_12 rfl (n_nat hi31) (n_nneg hi31) (by simp [hlt]) ?_
      refine N.istore (pc := 13) (l' := #[.val (.ref b), .val (.int i.toInt32), .val (.ref c'), .val (.int i.toInt32), .val (.int cs.length.toInt32), .val (.int i.toInt32), .val (.int (cs[i]))]) d0_13 (XS.store1 rfl hL rfl) ?_
      refine N.iload (pc := 15) d0_15 rfl ?_
      refine N.sipush (pc := 17) 255 d0_17 rfl ?_
      refine N.icmpleT (pc := 20) (pc' := 26) d0_20 rfl (lat_le hx) ?_
      refine N.aloadN (pc := 26) d0_26 rfl rfl ?_
      refine N.iloadN (pc := 27) d0_27 rfl ?_
      refine N.iload (pc := 28) d0_28 rfl ?_
      refine N.i2b (pc := 30) d0_30 ?_
      refine N.bastore (pc := 31) (O' := [(c', aO .byte ((cs.take (i + 1)).map (fun x => Value.int (by8 x)) ++ List.replicate r (.int 0)))]) 0 i d0_31 rfl (n_nat hi31) (n_nneg hi31) (by simp; omega) rfl (by rw [compress_set hlt]; rfl) fun T N => ?_
      refine N.iinc (pc := 32) (l' := #[.val (.ref b), .val (.int (i.toInt32 + 1)), .val (.ref c'), .val (.int i.toInt32), .val (.int cs.length.toInt32), .val (.int i.toInt32), .val (.int (cs[i]))]) 1 d0_32 rfl rfl rfl ?_
      refine N.iinc (pc := 35) (l' := #[.val (.ref b), .val (.int (i.toInt32 + 1)), .val (.ref c'), .val (.int (i.toInt32 + 1)), .val (.int cs.length.toInt32), .val (.int i.toInt32), .val (.int (cs[i]))]) 1 d0_35 rfl rfl rfl ?_
      refine N.iinc (pc := 38) (l' := #[.val (.ref b), .val (.int (i.toInt32 + 1)), .val (.ref c'), .val (.int (i.toInt32 + 1)), .val (.int cs.length.toInt32), .val (.int (i.toInt32 + 1)), .val (.int (cs[i]))]) 1 d0_38 rfl rfl rfl ?_
      rw [n_succ]
      refine N.goto (pc := 41) (pc' := 3) d0_41 rfl ?_
      exact ih (i + 1) _ T (by omega) (Or.inr ⟨_, rfl, rfl⟩) N
  refine N.iconst (pc := 0) 0 d0_0 rfl ?_
  refine N.istore (pc := 1) (l' := #[.val (.ref b), .val (.int 0), .val (.ref c'), .val (.int 0), .val (.int cs.length.toInt32), .val (.int 0), .unset]) d0_1 rfl ?_
  exact loop cs.length 0 .unset T (by omega) (Or.inl rfl) N

set_option maxRecDepth 65536 in
set_option maxHeartbeats 4000000 in
theorem c_compress16 {l : Launch} {Z : State} {a0 : Array Value} (G : Glob Z a0) {b : Addr} {cs : List Int32} (hl : cs.length ≤ 5) (hc : ∀ x ∈ cs, Lat x) : Con NR ELs l Z (⟨"java/lang/StringUTF16", "compress", "([CII)[B"⟩ : MethodName) jdk_52_method_16_code 6 (Option.some (Jvm.ClassFile.FieldType.array Jvm.ClassFile.FieldType.byte)) ({ frames := 1, cells := 1, slots := 5, locals := 18 } : Room) [.ref b, .int 0, .int cs.length.toInt32] [] [(b, aO .char (cs.map Value.int))] (fun v O' FN => ∃ c', v = some (.ref c') ∧ O' = [(c', aO .byte ((cs.map by8).map Value.int))] ∧ FN = []) := by
  have hw := G.1
  refine Con.intro (own := "java/lang/StringUTF16") (name := "compress") (plainFor_of_name pn0) rfl rfl ⟨_, G.2.1⟩ #[.val (.ref b), .val (.int 0), .val (.int cs.length.toInt32), .unset, .unset, .unset] rfl ?_
  intro p e s m below meth c T N
  refine N.iloadN (pc := 0) d1_0 rfl ?_
  refine N.newarray (pc := 1) cs.length 5 d1_1 (w26 hw) (n_nat (by omega)) (n_nneg (by omega)) hl (by decide) (Nat.le_of_ble_eq_true rfl) (Nat.le_of_ble_eq_true rfl) fun c' T lc N => ?_
  replace N := N.cast (O' := [(c', aO .byte (List.replicate cs.length (.int 0)))]) rfl
  refine N.astoreN (pc := 3) (l' := #[.val (.ref b), .val (.int 0), .val (.int cs.length.toInt32), .val (.ref c'), .unset, .unset]) d1_3 rfl rfl ?_
  refine N.aloadN (pc := 4) d1_4 rfl rfl ?_
  refine N.iloadN (pc := 5) d1_5 rfl ?_
  refine N.aloadN (pc := 6) d1_6 rfl rfl ?_
  refine N.iconst (pc := 7) 0 d1_7 rfl ?_
  refine N.iloadN (pc := 8) d1_8 rfl ?_
  refine N.callS (pc := 9) (c_compress21 G (b := b) (c' := c') (cs := cs) hl hc) [0] [1] d1_9 (w27 hw) (w28 hw) (w24 hw) (w29 hw) (by decide) pd0 rfl (st := []) rfl rfl rfl (by decide) (by decide) (ltAll rfl) rfl (Nat.le_of_ble_eq_true rfl) (Nat.le_of_ble_eq_true rfl) (Nat.le_of_ble_eq_true rfl) (Nat.le_of_ble_eq_true rfl) fun v O' FN vm T hQ N => ?_
  obtain ⟨rfl, rfl, rfl⟩ := hQ
  replace N := N.cast3 (O' := [(c', aO .byte ((cs.map by8).map Value.int))]) (RO' := [(b, aO .char (cs.map Value.int))]) (FZ' := []) rfl rfl rfl
  show Goes p e below _ (T.setTop (mkF m 12 #[.val (.ref b), .val (.int 0), .val (.int cs.length.toInt32), .val (.ref c'), .unset, .unset] [.int cs.length.toInt32]))
  refine N.istore (pc := 12) (l' := #[.val (.ref b), .val (.int 0), .val (.int cs.length.toInt32), .val (.ref c'), .val (.int cs.length.toInt32), .unset]) d1_12 rfl ?_
  refine N.iload (pc := 14) d1_14 rfl ?_
  refine N.iloadN (pc := 16) d1_16 rfl ?_
  refine N.icmpeqT (pc := 17) (pc' := 57) d1_17 rfl rfl ?_
  refine N.aloadN (pc := 57) d1_57 rfl rfl ?_
  exact N.areturn (pc := 58) [] (fun _ h => h) (List.forall_mem_nil _) (Nat.le_of_ble_eq_true rfl) (Nat.le_of_ble_eq_true rfl) (t := (.array .byte)) d1_58 rfl rfl rfl rfl ⟨_, rfl, rfl, rfl⟩

set_option maxRecDepth 65536 in
set_option maxHeartbeats 4000000 in
theorem c_coder15 {l : Launch} {Z : State} {a0 : Array Value} (G : Glob Z a0) {b : Addr} {vs : List Value} {n : Nat} (hn : vs.length = n) : Con NR ELs l Z (⟨"java/lang/StringUTF16", "coderFromArrayLen", "([BI)B"⟩ : MethodName) jdk_52_method_15_code 2 (Option.some Jvm.ClassFile.FieldType.byte) ({ frames := 0, cells := 0, slots := 0, locals := 0 } : Room) [.ref b, .int n.toInt32] [] [(b, aO .byte vs)] (fun v O' FN => v = some (.int 0) ∧ O' = [] ∧ FN = []) := by
  have hw := G.1
  refine Con.intro (own := "java/lang/StringUTF16") (name := "coderFromArrayLen") (plainFor_of_name pn0) rfl rfl ⟨_, G.2.1⟩ #[.val (.ref b), .val (.int n.toInt32)] rfl ?_
  intro p e s m below meth c T N
  refine N.iloadN (pc := 0) d2_0 rfl ?_
  refine N.aloadN (pc := 1) d2_1 rfl rfl ?_
  refine N.arraylength (pc := 2) n.toInt32 0 d2_2 rfl (by rw [hn]) ?_
  refine N.isub (pc := 3) d2_3 ?_
  refine N.bipush (pc := 4) 31 d2_4 rfl ?_
  refine N.iushr (pc := 6) d2_6 ?_
  refine N.i2b (pc := 7) d2_7 ?_
  rw [coder_zero]
  exact N.ireturn (pc := 8) [] (fun _ h => h) (List.forall_mem_nil _) (Nat.le_of_ble_eq_true rfl) (Nat.le_of_ble_eq_true rfl) (t := .byte) d2_8 rfl (by simp) rfl ⟨rfl, rfl, rfl⟩

set_option maxRecDepth 65536 in
set_option maxHeartbeats 4000000 in
theorem c_init149 {l : Launch} {Z : State} {a0 : Array Value} (G : Glob Z a0) {a b : Addr} {cs : List Int32} (hz : 0 < cs.length) (hl : cs.length ≤ 5) (hc : ∀ x ∈ cs, Lat x) : Con NR ELs l Z (⟨"java/lang/String", "<init>", "([CIILjava/lang/Void;)V"⟩ : MethodName) jdk_42_method_149_code 6 (Option.none : Option Jvm.ClassFile.FieldType) ({ frames := 2, cells := 1, slots := 5, locals := 35 } : Room) [.ref a, .ref b, .int 0, .int cs.length.toInt32, .null] [(a, .inl ("java/lang/String", [(("java/lang/String", "value", "[B"), .null), (("java/lang/String", "coder", "B"), .int 0)]))] [(b, aO .char (cs.map Value.int))] (fun v O' FN => ∃ c', v = none ∧ O' = [(a, .inl ("java/lang/String", [(("java/lang/String", "value", "[B"), .ref c'), (("java/lang/String", "coder", "B"), .int 0)])), (c', aO .byte ((cs.map by8).map Value.int))] ∧ FN = []) := by
  have hw := G.1
  refine Con.intro (own := "java/lang/String") (name := "<init>") (plainFor_of_name pn1) rfl rfl ⟨_, G.2.1⟩ #[.val (.ref a), .val (.ref b), .val (.int 0), .val (.int cs.length.toInt32), .val (.null), .unset] rfl ?_
  intro p e s m below meth c T N
  have hnz : ¬ cs.length.toInt32 = 0 := fun q => by
    have := (n_eq (b := 0) (by omega) (by decide)).mp q
    omega
  refine N.aloadN (pc := 0) d3_0 rfl rfl ?_
  refine N.objInit (pc := 1) d3_1 (w18 hw) (w19 hw) (w20 hw) rfl (Nat.le_of_ble_eq_true rfl) (Nat.le_of_ble_eq_true rfl) fun T N => ?_
  refine N.iloadN (pc := 4) d3_4 rfl ?_
  refine N.ifneT (pc := 5) (pc' := 27) d3_5 rfl hnz ?_
  obtain ⟨cv, hcv, hS⟩ := G.compact
  refine N.getstatic (pc := 27) d3_27 (w21 hw) Via.refl hS fun T N => ?_
  refine N.ifeqF (pc := 30) d3_30 hcv ?_
  refine N.aloadN (pc := 33) d3_33 rfl rfl ?_
  refine N.iloadN (pc := 34) d3_34 rfl ?_
  refine N.iloadN (pc := 35) d3_35 rfl ?_
  refine N.callS (pc := 36) (c_compress16 G (b := b) (cs := cs) hl hc) [] [1] d3_36 (w22 hw) (w23 hw) (w24 hw) (w25 hw) (by decide) pd1 rfl (st := []) rfl rfl rfl (by decide) (by decide) (ltAll rfl) rfl (Nat.le_of_ble_eq_true rfl) (Nat.le_of_ble_eq_true rfl) (Nat.le_of_ble_eq_true rfl) (Nat.le_of_ble_eq_true rfl) fun v O' FN vm T hQ N => ?_
  obtain ⟨c', rfl, rfl, rfl⟩ := hQ
  replace N := N.cast3 (O' := [(a, .inl ("java/lang/String", [(("java/lang/String", "value", "[B"), .null), (("java/lang/String", "coder", "B"), .int 0)])), (c', aO .byte ((cs.map by8).map Value.int))]) (RO' := [(b, aO .char (cs.map Value.int))]) (FZ' := []) rfl rfl rfl
  show Goes p e below _ (T.setTop (mkF m 39 #[.val (.ref a), .val (.ref b), .val (.int 0), .val (.int cs.length.toInt32), .val (.null), .unset] [.ref c']))
  refine N.astore (pc := 39) (l' := #[.val (.ref a), .val (.ref b), .val (.int 0), .val (.int cs.length.toInt32), .val (.null), .val (.ref c')]) d3_39 rfl rfl ?_
  refine N.aloadN (pc := 41) d3_41 rfl rfl ?_
  refine N.aload (pc := 42) d3_42 rfl rfl ?_
  refine N.iloadN (pc := 44) d3_44 rfl ?_
  refine N.callS (pc := 45) (c_coder15 G (b := c') (vs := (cs.map by8).map Value.int) (n := cs.length) (by simp)) [] [1] d3_45 (w30 hw) (w31 hw) (w24 hw) (w32 hw) (by decide) pd2 rfl (st := [.ref a]) rfl rfl rfl (by decide) (by decide) (ltAll rfl) rfl (Nat.le_of_ble_eq_true rfl) (Nat.le_of_ble_eq_true rfl) (Nat.le_of_ble_eq_true rfl) (Nat.le_of_ble_eq_true rfl) fun v O' FN vm T hQ N => ?_
  obtain ⟨rfl, rfl, rfl⟩ := hQ
  replace N := N.cast3 (O' := [(a, .inl ("java/lang/String", [(("java/lang/String", "value", "[B"), .null), (("java/lang/String", "coder", "B"), .int 0)])), (c', aO .byte ((cs.map by8).map Value.int))]) (RO' := [(b, aO .char (cs.map Value.int))]) (FZ' := []) rfl rfl rfl
  show Goes p e below _ (T.setTop (mkF m 48 #[.val (.ref a), .val (.ref b), .val (.int 0), .val (.int cs.length.toInt32), .val (.null), .val (.ref c')] [.int 0, .ref a]))
  refine N.putfield (pc := 48) (O' := [(a, .inl ("java/lang/String", [(("java/lang/String", "value", "[B"), .null), (("java/lang/String", "coder", "B"), .int 0)])), (c', aO .byte ((cs.map by8).map Value.int))]) 0 1 d3_48 (w33 hw) Via.refl (Or.inr ⟨(w34 hw), rfl, rfl⟩) (w9 hw) rfl rfl (ty := .byte) (by decide) rfl rfl rfl fun T N => ?_
  refine N.aloadN (pc := 51) d3_51 rfl rfl ?_
  refine N.aload (pc := 52) d3_52 rfl rfl ?_
  refine N.putfield (pc := 54) (O' := [(a, .inl ("java/lang/String", [(("java/lang/String", "value", "[B"), .ref c'), (("java/lang/String", "coder", "B"), .int 0)])), (c', aO .byte ((cs.map by8).map Value.int))]) 0 0 d3_54 (w35 hw) Via.refl (Or.inr ⟨(w36 hw), rfl, rfl⟩) (w9 hw) rfl rfl (ty := (.array .byte)) (by decide) rfl rfl rfl fun T N => ?_
  exact N.retV (pc := 57) [] (fun _ h => h) (List.forall_mem_nil _) (Nat.le_of_ble_eq_true rfl) (Nat.le_of_ble_eq_true rfl) d3_57 rfl ⟨_, rfl, rfl, rfl⟩

set_option maxRecDepth 65536 in
set_option maxHeartbeats 4000000 in
theorem c_init3 {l : Launch} {Z : State} {a0 : Array Value} (G : Glob Z a0) {a b : Addr} {cs : List Int32} (hz : 0 < cs.length) (hl : cs.length ≤ 5) (hc : ∀ x ∈ cs, Lat x) : Con NR ELs l Z (⟨"java/lang/String", "<init>", "([C)V"⟩ : MethodName) jdk_42_method_3_code 2 (Option.none : Option Jvm.ClassFile.FieldType) ({ frames := 3, cells := 1, slots := 5, locals := 52 } : Room) [.ref a, .ref b] [(a, .inl ("java/lang/String", [(("java/lang/String", "value", "[B"), .null), (("java/lang/String", "coder", "B"), .int 0)]))] [(b, aO .char (cs.map Value.int))] (fun v O' FN => ∃ c', v = none ∧ O' = [(a, .inl ("java/lang/String", [(("java/lang/String", "value", "[B"), .ref c'), (("java/lang/String", "coder", "B"), .int 0)])), (c', aO .byte ((cs.map by8).map Value.int))] ∧ FN = []) := by
  have hw := G.1
  refine Con.intro (own := "java/lang/String") (name := "<init>") (plainFor_of_name pn1) rfl rfl ⟨_, G.2.1⟩ #[.val (.ref a), .val (.ref b)] rfl ?_
  intro p e s m below meth c T N
  refine N.aloadN (pc := 0) d4_0 rfl rfl ?_
  refine N.aloadN (pc := 1) d4_1 rfl rfl ?_
  refine N.iconst (pc := 2) 0 d4_2 rfl ?_
  refine N.aloadN (pc := 3) d4_3 rfl rfl ?_
  refine N.arraylength (pc := 4) cs.length.toInt32 1 d4_4 rfl (by simp) ?_
  refine N.aconst (pc := 5) d4_5 ?_
  refine N.callI (pc := 6) (c_init149 G (a := a) (b := b) (cs := cs) hz hl hc) [0] [1] d4_6 rfl (w14 hw) (w15 hw) (w10 hw) (w17 hw) (by decide) pd3 rfl (st := []) rfl rfl rfl (by decide) (by decide) (ltAll rfl) rfl (Nat.le_of_ble_eq_true rfl) (Nat.le_of_ble_eq_true rfl) (Nat.le_of_ble_eq_true rfl) (Nat.le_of_ble_eq_true rfl) fun v O' FN vm T hQ N => ?_
  obtain ⟨c', rfl, rfl, rfl⟩ := hQ
  replace N := N.cast3 (O' := [(a, .inl ("java/lang/String", [(("java/lang/String", "value", "[B"), .ref c'), (("java/lang/String", "coder", "B"), .int 0)])), (c', aO .byte ((cs.map by8).map Value.int))]) (RO' := [(b, aO .char (cs.map Value.int))]) (FZ' := []) rfl rfl rfl
  show Goes p e below _ (T.setTop (mkF m 9 #[.val (.ref a), .val (.ref b)] []))
  exact N.retV (pc := 9) [] (fun _ h => h) (List.forall_mem_nil _) (Nat.le_of_ble_eq_true rfl) (Nat.le_of_ble_eq_true rfl) d4_9 rfl ⟨_, rfl, rfl, rfl⟩

set_option maxRecDepth 65536 in
set_option maxHeartbeats 4000000 in
theorem c_init149e {l : Launch} {Z : State} {a0 : Array Value} (G : Glob Z a0) {a b : Addr} : Con NR ELs l Z (⟨"java/lang/String", "<init>", "([CIILjava/lang/Void;)V"⟩ : MethodName) jdk_42_method_149_code 6 (Option.none : Option Jvm.ClassFile.FieldType) ({ frames := 1, cells := 4, slots := 8, locals := 12 } : Room) [.ref a, .ref b, .int 0, .int 0, .null] [(a, .inl ("java/lang/String", [(("java/lang/String", "value", "[B"), .null), (("java/lang/String", "coder", "B"), .int 0)]))] [(b, aO .char [])] (fun v O' FN => ∃ b', v = none ∧ O' = [(a, .inl ("java/lang/String", [(("java/lang/String", "value", "[B"), .ref b'), (("java/lang/String", "coder", "B"), .int 0)]))] ∧ FN = [(b', aO .byte [])]) := by
  have hw := G.1
  refine Con.intro (own := "java/lang/String") (name := "<init>") (plainFor_of_name pn1) rfl rfl ⟨_, G.2.1⟩ #[.val (.ref a), .val (.ref b), .val (.int 0), .val (.int 0), .val (.null), .unset] rfl ?_
  intro p e s m below meth c T N
  refine N.aloadN (pc := 0) d3_0 rfl rfl ?_
  refine N.objInit (pc := 1) d3_1 (w18 hw) (w19 hw) (w20 hw) rfl (Nat.le_of_ble_eq_true rfl) (Nat.le_of_ble_eq_true rfl) fun T N => ?_
  refine N.iloadN (pc := 4) d3_4 rfl ?_
  refine N.ifneF (pc := 5) d3_5 rfl ?_
  refine N.aloadN (pc := 8) d3_8 rfl rfl ?_
  refine N.ldc (pc := 9) (nn := 0) (text := "") (vs := []) (z := 0) d3_9 (w229 hw) G.wS G.2.1 (List.mem_of_getElem? (i := 3) rfl) rfl G.sl ⟨by decide +kernel, by decide +kernel⟩ (by decide) rfl (by decide +kernel) (by decide) (Nat.le_of_ble_eq_true rfl) (Nat.le_of_ble_eq_true rfl) fun s1 t2 vm T N => ?_
  replace N := N.cast3 (O' := [(a, .inl ("java/lang/String", [(("java/lang/String", "value", "[B"), .null), (("java/lang/String", "coder", "B"), .int 0)]))]) (RO' := [(b, aO .char [])]) (FZ' := [(s1, sO t2), (t2, aO .byte [])]) rfl rfl rfl
  refine N.getfield (pc := 11) 2 d3_11 (w35 hw) Via.refl rfl (List.mem_of_getElem? (i := 0) rfl) fun T N => ?_
  refine N.putfield (pc := 14) (O' := [(a, .inl ("java/lang/String", [(("java/lang/String", "value", "[B"), .ref t2), (("java/lang/String", "coder", "B"), .int 0)]))]) 0 0 d3_14 (w35 hw) Via.refl (Or.inr ⟨(w36 hw), rfl, rfl⟩) (w9 hw) rfl rfl (ty := (.array .byte)) (by decide) rfl rfl rfl fun T N => ?_
  refine N.aloadN (pc := 17) d3_17 rfl rfl ?_
  refine N.ldc (pc := 18) (nn := 0) (text := "") (vs := []) (z := 0) d3_18 (w229 hw) G.wS G.2.1 (List.mem_of_getElem? (i := 3) rfl) rfl G.sl ⟨by decide +kernel, by decide +kernel⟩ (by decide) rfl (by decide +kernel) (by decide) (Nat.le_of_ble_eq_true rfl) (Nat.le_of_ble_eq_true rfl) fun s3 t4 vm T N => ?_
  replace N := N.cast3 (O' := [(a, .inl ("java/lang/String", [(("java/lang/String", "value", "[B"), .ref t2), (("java/lang/String", "coder", "B"), .int 0)]))]) (RO' := [(b, aO .char [])]) (FZ' := [(s1, sO t2), (t2, aO .byte []), (s3, sO t4), (t4, aO .byte [])]) rfl rfl rfl
  refine N.getfield (pc := 20) 4 d3_20 (w33 hw) Via.refl rfl (List.mem_of_getElem? (i := 1) rfl) fun T N => ?_
  refine N.putfield (pc := 23) (O' := [(a, .inl ("java/lang/String", [(("java/lang/String", "value", "[B"), .ref t2), (("java/lang/String", "coder", "B"), .int 0)]))]) 0 1 d3_23 (w33 hw) Via.refl (Or.inr ⟨(w34 hw), rfl, rfl⟩) (w9 hw) rfl rfl (ty := .byte) (by decide) rfl rfl rfl fun T N => ?_
  exact N.retV (pc := 26) [(t2, aO .byte [])] (fun _ h => h) (List.forall_mem_cons.mpr ⟨List.mem_of_getElem? (i := 1) rfl, (List.forall_mem_nil _)⟩) (Nat.le_of_ble_eq_true rfl) (Nat.le_of_ble_eq_true rfl) d3_26 rfl ⟨t2, rfl, rfl, rfl⟩

set_option maxRecDepth 65536 in
set_option maxHeartbeats 4000000 in
theorem c_init3e {l : Launch} {Z : State} {a0 : Array Value} (G : Glob Z a0) {a b : Addr} : Con NR ELs l Z (⟨"java/lang/String", "<init>", "([C)V"⟩ : MethodName) jdk_42_method_3_code 2 (Option.none : Option Jvm.ClassFile.FieldType) ({ frames := 2, cells := 4, slots := 8, locals := 29 } : Room) [.ref a, .ref b] [(a, .inl ("java/lang/String", [(("java/lang/String", "value", "[B"), .null), (("java/lang/String", "coder", "B"), .int 0)]))] [(b, aO .char [])] (fun v O' FN => ∃ b', v = none ∧ O' = [(a, .inl ("java/lang/String", [(("java/lang/String", "value", "[B"), .ref b'), (("java/lang/String", "coder", "B"), .int 0)]))] ∧ FN = [(b', aO .byte [])]) := by
  have hw := G.1
  refine Con.intro (own := "java/lang/String") (name := "<init>") (plainFor_of_name pn1) rfl rfl ⟨_, G.2.1⟩ #[.val (.ref a), .val (.ref b)] rfl ?_
  intro p e s m below meth c T N
  refine N.aloadN (pc := 0) d4_0 rfl rfl ?_
  refine N.aloadN (pc := 1) d4_1 rfl rfl ?_
  refine N.iconst (pc := 2) 0 d4_2 rfl ?_
  refine N.aloadN (pc := 3) d4_3 rfl rfl ?_
  refine N.arraylength (pc := 4) 0 1 d4_4 rfl rfl ?_
  refine N.aconst (pc := 5) d4_5 ?_
  refine N.callI (pc := 6) (c_init149e G (a := a) (b := b)) [0] [1] d4_6 rfl (w14 hw) (w15 hw) (w10 hw) (w17 hw) (by decide) pd3 rfl (st := []) rfl rfl rfl (by decide) (by decide) (ltAll rfl) rfl (Nat.le_of_ble_eq_true rfl) (Nat.le_of_ble_eq_true rfl) (Nat.le_of_ble_eq_true rfl) (Nat.le_of_ble_eq_true rfl) fun v O' FN vm T hQ N => ?_
  obtain ⟨b', rfl, rfl, rfl⟩ := hQ
  replace N := N.cast3 (O' := [(a, .inl ("java/lang/String", [(("java/lang/String", "value", "[B"), .ref b'), (("java/lang/String", "coder", "B"), .int 0)]))]) (RO' := [(b, aO .char [])]) (FZ' := [(b', aO .byte [])]) rfl rfl rfl
  show Goes p e below _ (T.setTop (mkF m 9 #[.val (.ref a), .val (.ref b)] []))
  exact N.retV (pc := 9) [(b', aO .byte [])] (fun _ h => h) (List.forall_mem_cons.mpr ⟨List.mem_of_getElem? (i := 0) rfl, (List.forall_mem_nil _)⟩) (Nat.le_of_ble_eq_true rfl) (Nat.le_of_ble_eq_true rfl) d4_9 rfl ⟨b', rfl, rfl, rfl⟩

set_option maxRecDepth 65536 in
set_option maxHeartbeats 4000000 in
theorem c_coder {l : Launch} {Z : State} {a0 : Array Value} (G : Glob Z a0) {a b : Addr} : Con NR ELs l Z (⟨"java/lang/String", "coder", "()B"⟩ : MethodName) jdk_42_method_152_code 1 (Option.some Jvm.ClassFile.FieldType.byte) ({ frames := 0, cells := 0, slots := 0, locals := 0 } : Room) [.ref a] [] [(a, sO b)] (fun v O' FN => v = some (.int 0) ∧ O' = [] ∧ FN = []) := by
  have hw := G.1
  refine Con.intro (own := "java/lang/String") (name := "coder") (plainFor_of_name pn1) rfl rfl ⟨_, G.2.1⟩ #[.val (.ref a)] rfl ?_
  intro p e s m below meth c T N
  obtain ⟨cv, hcv, hS⟩ := G.compact
  refine N.getstatic (pc := 0) d5_0 (w21 hw) Via.refl hS fun T N => ?_
  refine N.ifeqF (pc := 3) d5_3 hcv ?_
  refine N.aloadN (pc := 6) d5_6 rfl rfl ?_
  refine N.getfield (pc := 7) 0 d5_7 (w33 hw) Via.refl rfl (List.mem_of_getElem? (i := 1) rfl) fun T N => ?_
  refine N.goto (pc := 10) (pc' := 14) d5_10 rfl ?_
  exact N.ireturn (pc := 14) [] (fun _ h => h) (List.forall_mem_nil _) (Nat.le_of_ble_eq_true rfl) (Nat.le_of_ble_eq_true rfl) (t := .byte) d5_14 rfl (by simp) rfl ⟨rfl, rfl, rfl⟩

set_option maxRecDepth 65536 in
set_option maxHeartbeats 4000000 in
theorem c_isLatin1 {l : Launch} {Z : State} {a0 : Array Value} (G : Glob Z a0) {a b : Addr} : Con NR ELs l Z (⟨"java/lang/String", "isLatin1", "()Z"⟩ : MethodName) jdk_42_method_154_code 1 (Option.some Jvm.ClassFile.FieldType.boolean) ({ frames := 0, cells := 0, slots := 0, locals := 0 } : Room) [.ref a] [] [(a, sO b)] (fun v O' FN => v = some (.int 1) ∧ O' = [] ∧ FN = []) := by
  have hw := G.1
  refine Con.intro (own := "java/lang/String") (name := "isLatin1") (plainFor_of_name pn1) rfl rfl ⟨_, G.2.1⟩ #[.val (.ref a)] rfl ?_
  intro p e s m below meth c T N
  obtain ⟨cv, hcv, hS⟩ := G.compact
  refine N.getstatic (pc := 0) d6_0 (w21 hw) Via.refl hS fun T N => ?_
  refine N.ifeqF (pc := 3) d6_3 hcv ?_
  refine N.aloadN (pc := 6) d6_6 rfl rfl ?_
  refine N.getfield (pc := 7) 0 d6_7 (w33 hw) Via.refl rfl (List.mem_of_getElem? (i := 1) rfl) fun T N => ?_
  refine N.ifneF (pc := 10) d6_10 rfl ?_
  refine N.iconst (pc := 13) 1 d6_13 rfl ?_
  refine N.goto (pc := 14) (pc' := 18) d6_14 rfl ?_
  exact N.ireturn (pc := 18) [] (fun _ h => h) (List.forall_mem_nil _) (Nat.le_of_ble_eq_true rfl) (Nat.le_of_ble_eq_true rfl) (t := .boolean) d6_18 rfl (by simp) rfl ⟨rfl, rfl, rfl⟩

set_option maxRecDepth 65536 in
set_option maxHeartbeats 4000000 in
theorem c_length {l : Launch} {Z : State} {a0 : Array Value} (G : Glob Z a0) {a : Addr} {cs : List Int32} {z : Int32} (hz : cs.length.toInt32 = z) : Con NR ELs l Z (⟨"java/lang/String", "length", "()I"⟩ : MethodName) jdk_42_method_54_code 1 (Option.some Jvm.ClassFile.FieldType.int) ({ frames := 1, cells := 0, slots := 0, locals := 13 } : Room) [.ref a] [] [(a, tO cs)] (fun v O' FN => v = some (.int z) ∧ O' = [] ∧ FN = []) := by
  have hw := G.1
  refine Con.intro (own := "java/lang/String") (name := "length") (plainFor_of_name pn1) rfl rfl ⟨_, G.2.1⟩ #[.val (.ref a)] rfl ?_
  intro p e s m below meth c T N
  obtain ⟨hc_a, b, N⟩ := N.openR 0 rfl
  replace N := N.cast3 (O' := []) (RO' := [(a, tO cs), (a, sO b), (b, aO .byte (((cs).map by8).map Value.int))]) (FZ' := []) rfl rfl rfl
  refine N.aloadN (pc := 0) d7_0 rfl rfl ?_
  refine N.getfield (pc := 1) 1 d7_1 (w35 hw) Via.refl rfl (List.mem_of_getElem? (i := 0) rfl) fun T N => ?_
  refine N.arraylength (pc := 4) z 2 d7_4 rfl (by rw [List.length_map, List.length_map]; exact hz) ?_
  refine N.aloadN (pc := 5) d7_5 rfl rfl ?_
  refine N.callV (pc := 6) (c_coder G (a := a) (b := b)) 1 [] [1] d7_6 (w82 hw) (w83 hw) (w85 hw) (w84 hw) (w10 hw) (w86 hw) rfl (by decide) pd4 rfl (st := [.int z]) rfl rfl rfl (by decide) (by decide) (ltAll rfl) rfl (Nat.le_of_ble_eq_true rfl) (Nat.le_of_ble_eq_true rfl) (Nat.le_of_ble_eq_true rfl) (Nat.le_of_ble_eq_true rfl) fun v O' FN vm T hQ N => ?_
  obtain ⟨rfl, rfl, rfl⟩ := hQ
  replace N := N.cast3 (O' := []) (RO' := [(a, tO cs), (a, sO b), (b, aO .byte (((cs).map by8).map Value.int))]) (FZ' := []) rfl rfl rfl
  show Goes p e below _ (T.setTop (mkF m 9 #[.val (.ref a)] [.int 0, .int z]))
  refine N.ishr (pc := 9) d7_9 ?_
  rw [sh0]
  exact N.ireturn (pc := 10) [] (List.forall_mem_cons.mpr ⟨List.mem_of_getElem? (i := 0) rfl, (List.forall_mem_nil _)⟩) (List.forall_mem_nil _) (Nat.le_of_ble_eq_true rfl) (Nat.le_of_ble_eq_true rfl) (t := .int) d7_10 rfl (by simp) rfl ⟨rfl, rfl, rfl⟩

set_option maxRecDepth 65536 in
set_option maxHeartbeats 4000000 in
theorem c_canEncodeI {l : Launch} {Z : State} {a0 : Array Value} (G : Glob Z a0) {x : Int32} (hx : Lat x) : Con NR ELs l Z (⟨"java/lang/StringLatin1", "canEncode", "(I)Z"⟩ : MethodName) jdk_43_method_4_code 1 (Option.some Jvm.ClassFile.FieldType.boolean) ({ frames := 0, cells := 0, slots := 0, locals := 0 } : Room) [.int x] [] [] (fun v O' FN => v = some (.int 1) ∧ O' = [] ∧ FN = []) := by
  have hw := G.1
  refine Con.intro (own := "java/lang/StringLatin1") (name := "canEncode") (plainFor_of_name pn2) rfl rfl ⟨_, G.2.1⟩ #[.val (.int x)] rfl ?_
  intro p e s m below meth c T N
  refine N.iloadN (pc := 0) d8_0 rfl ?_
  refine N.ifltF (pc := 1) d8_1 (lat_nneg hx) ?_
  refine N.iloadN (pc := 4) d8_4 rfl ?_
  refine N.sipush (pc := 5) 255 d8_5 rfl ?_
  refine N.icmpgtF (pc := 8) d8_8 (lat_le hx) ?_
  refine N.iconst (pc := 11) 1 d8_11 rfl ?_
  refine N.goto (pc := 12) (pc' := 16) d8_12 rfl ?_
  exact N.ireturn (pc := 16) [] (fun _ h => h) (List.forall_mem_nil _) (Nat.le_of_ble_eq_true rfl) (Nat.le_of_ble_eq_true rfl) (t := .boolean) d8_16 rfl (by simp) rfl ⟨rfl, rfl, rfl⟩

set_option maxRecDepth 65536 in
set_option maxHeartbeats 4000000 in
theorem c_max {l : Launch} {Z : State} {a0 : Array Value} (G : Glob Z a0) {x y : Int32} (h : ¬ x < y) : Con NR ELs l Z (⟨"java/lang/Math", "max", "(II)I"⟩ : MethodName) jdk_29_method_65_code 2 (Option.some Jvm.ClassFile.FieldType.int) ({ frames := 0, cells := 0, slots := 0, locals := 0 } : Room) [.int x, .int y] [] [] (fun v O' FN => v = some (.int x) ∧ O' = [] ∧ FN = []) := by
  have hw := G.1
  refine Con.intro (own := "java/lang/Math") (name := "max") (Jvm.Free.JP.mathPlain rfl (by decide +kernel)) rfl rfl ⟨_, G.2.1⟩ #[.val (.int x), .val (.int y)] rfl ?_
  intro p e s m below meth c T N
  refine N.iloadN (pc := 0) d9_0 rfl ?_
  refine N.iloadN (pc := 1) d9_1 rfl ?_
  refine N.icmpltF (pc := 2) d9_2 h ?_
  refine N.iloadN (pc := 5) d9_5 rfl ?_
  refine N.goto (pc := 6) (pc' := 10) d9_6 rfl ?_
  exact N.ireturn (pc := 10) [] (fun _ h => h) (List.forall_mem_nil _) (Nat.le_of_ble_eq_true rfl) (Nat.le_of_ble_eq_true rfl) (t := .int) d9_10 rfl (by simp) rfl ⟨rfl, rfl, rfl⟩

set_option maxRecDepth 65536 in
set_option maxHeartbeats 4000000 in
theorem c_min1 {l : Launch} {Z : State} {a0 : Array Value} (G : Glob Z a0) {x y : Int32} (h : ¬ y < x) : Con NR ELs l Z (⟨"java/lang/Math", "min", "(II)I"⟩ : MethodName) jdk_29_method_69_code 2 (Option.some Jvm.ClassFile.FieldType.int) ({ frames := 0, cells := 0, slots := 0, locals := 0 } : Room) [.int x, .int y] [] [] (fun v O' FN => v = some (.int x) ∧ O' = [] ∧ FN = []) := by
  have hw := G.1
  refine Con.intro (own := "java/lang/Math") (name := "min") (Jvm.Free.JP.mathPlain rfl (by decide +kernel)) rfl rfl ⟨_, G.2.1⟩ #[.val (.int x), .val (.int y)] rfl ?_
  intro p e s m below meth c T N
  refine N.iloadN (pc := 0) d10_0 rfl ?_
  refine N.iloadN (pc := 1) d10_1 rfl ?_
  refine N.icmpgtF (pc := 2) d10_2 h ?_
  refine N.iloadN (pc := 5) d10_5 rfl ?_
  refine N.goto (pc := 6) (pc' := 10) d10_6 rfl ?_
  exact N.ireturn (pc := 10) [] (fun _ h => h) (List.forall_mem_nil _) (Nat.le_of_ble_eq_true rfl) (Nat.le_of_ble_eq_true rfl) (t := .int) d10_10 rfl (by simp) rfl ⟨rfl, rfl, rfl⟩

set_option maxRecDepth 65536 in
set_option maxHeartbeats 4000000 in
theorem c_min2 {l : Launch} {Z : State} {a0 : Array Value} (G : Glob Z a0) {x y : Int32} (h : y < x) : Con NR ELs l Z (⟨"java/lang/Math", "min", "(II)I"⟩ : MethodName) jdk_29_method_69_code 2 (Option.some Jvm.ClassFile.FieldType.int) ({ frames := 0, cells := 0, slots := 0, locals := 0 } : Room) [.int x, .int y] [] [] (fun v O' FN => v = some (.int y) ∧ O' = [] ∧ FN = []) := by
  have hw := G.1
  refine Con.intro (own := "java/lang/Math") (name := "min") (Jvm.Free.JP.mathPlain rfl (by decide +kernel)) rfl rfl ⟨_, G.2.1⟩ #[.val (.int x), .val (.int y)] rfl ?_
  intro p e s m below meth c T N
  refine N.iloadN (pc := 0) d10_0 rfl ?_
  refine N.iloadN (pc := 1) d10_1 rfl ?_
  refine N.icmpgtT (pc := 2) (pc' := 9) d10_2 rfl h ?_
  refine N.iloadN (pc := 9) d10_9 rfl ?_
  exact N.ireturn (pc := 10) [] (fun _ h => h) (List.forall_mem_nil _) (Nat.le_of_ble_eq_true rfl) (Nat.le_of_ble_eq_true rfl) (t := .int) d10_10 rfl (by simp) rfl ⟨rfl, rfl, rfl⟩

set_option maxRecDepth 65536 in
set_option maxHeartbeats 4000000 in
theorem c_indexOfChar {l : Launch} {Z : State} {a0 : Array Value} (G : Glob Z a0) {cs : List Int32} {r : Nat} {x rv : Int32} (hx : Lat x) (hr : r ≤ cs.length) (hno : ∀ y ∈ cs.take r, ¬ y = x) (hyes : ∀ h : r < cs.length, cs[r] = x) (hrv : (if r < cs.length then r.toInt32 else -1) = rv) {b : Addr} (hc : ∀ y ∈ cs, Lat y) : Con NR ELs l Z (⟨"java/lang/StringLatin1", "indexOfChar", "([BIII)I"⟩ : MethodName) jdk_43_method_23_code 6 (Option.some Jvm.ClassFile.FieldType.int) ({ frames := 0, cells := 0, slots := 0, locals := 0 } : Room) [.ref b, .int x, .int 0, .int cs.length.toInt32] [] [(b, aO .byte ((cs.map by8).map Value.int))] (fun v O' FN => v = some (.int rv) ∧ O' = [] ∧ FN = []) := by
  have hw := G.1
  refine Con.intro (own := "java/lang/StringLatin1") (name := "indexOfChar") (plainFor_of_name pn2) rfl rfl ⟨_, G.2.1⟩ #[.val (.ref b), .val (.int x), .val (.int 0), .val (.int cs.length.toInt32), .unset, .unset] rfl ?_
  intro p e s m below meth c T N
  have hl : cs.length < 2 ^ 31 := len_str (N.is (i := 0) rfl)
  refine N.iloadN (pc := 0) d11_0 rfl ?_
  refine N.i2b (pc := 1) d11_1 ?_
  refine N.istore (pc := 2) (l' := #[.val (.ref b), .val (.int x), .val (.int 0), .val (.int cs.length.toInt32), .val (.int x.toInt8.toInt32), .unset]) d11_2 rfl ?_
  refine N.iloadN (pc := 4) d11_4 rfl ?_
  refine N.istore (pc := 5) (l' := #[.val (.ref b), .val (.int x), .val (.int 0), .val (.int cs.length.toInt32), .val (.int x.toInt8.toInt32), .val (.int 0)]) d11_5 rfl ?_
  have loop : ∀ (d i : Nat) (T : State), i + d = r → Now NR ELs Z "java/lang/StringLatin1" "indexOfChar" jdk_43_method_23_code 6 (Option.some Jvm.ClassFile.FieldType.int) p l e ({ frames := 0, cells := 0, slots := 0, locals := 0 } : Room) s m ([.ref b, .int x, .int 0, .int cs.length.toInt32] : List Value).toArray below meth c [] s.vm T 0 0 [] [(b, aO .byte ((cs.map by8).map Value.int))] [] →
      Goes p e below (Jvm.Own.Out NR ELs Z [] [(b, aO .byte ((cs.map by8).map Value.int))] (fun v O' FN => v = some (.int rv) ∧ O' = [] ∧ FN = []) (({ frames := 0, cells := 0, slots := 0, locals := 0 } : Room) : Room).cells (({ frames := 0, cells := 0, slots := 0, locals := 0 } : Room) : Room).slots s) (T.setTop (mkF m 7 #[.val (.ref b), .val (.int x), .val (.int 0), .val (.int cs.length.toInt32), .val (.int x.toInt8.toInt32), .val (.int i.toInt32)] [])) := by
    intro d
    induction d with
    | zero =>
      intro i T hi N
      obtain rfl : i = r := by omega
      have hi31 : i < 2 ^ 31 := by omega
      refine N.iload (pc := 7) d11_7 rfl ?_
      refine N.iloadN (pc := 9) d11_9 rfl ?_
      by_cases hir : i < cs.length
      · refine N.icmpgeF (pc := 10) d11_10 ((n_lt hi31 hl).mpr hir) ?_
        refine N.aloadN (pc := 13) d11_13 rfl rfl ?_
        refine N.iload (pc := 14) d11_14 rfl ?_
        refine N.baload (pc := 16) (v := .int (by8 cs[i])) 0 i d11_16 rfl (n_nat hi31) (n_nneg hi31) (by simp [hir]) ?_
        refine N.iload (pc := 17) d11_17 rfl ?_
        refine N.icmpneF (pc := 19) d11_19 (by rw [hyes hir]; rfl) ?_
        refine N.iload (pc := 22) d11_22 rfl ?_
        exact N.ireturn (pc := 24) [] (fun _ h => h) (List.forall_mem_nil _) (Nat.le_of_ble_eq_true rfl) (Nat.le_of_ble_eq_true rfl) (t := .int) d11_24 rfl (by simp) rfl ⟨by rw [← hrv, if_pos hir], rfl, rfl⟩
      · refine N.icmpgeT (pc := 10) (pc' := 31) d11_10 rfl (fun q => hir ((n_lt hi31 hl).mp q)) ?_
        refine N.iconst (pc := 31) (-1) d11_31 rfl ?_
        exact N.ireturn (pc := 32) [] (fun _ h => h) (List.forall_mem_nil _) (Nat.le_of_ble_eq_true rfl) (Nat.le_of_ble_eq_true rfl) (t := .int) d11_32 rfl (by simp) rfl ⟨by rw [← hrv, if_neg hir], rfl, rfl⟩
    | succ d ih =>
      intro i T hi N
      have hir : i < cs.length := by omega
      have hi31 : i < 2 ^ 31 := by omega
      have hix := hno cs[i] (List.mem_take_iff_getElem.mpr ⟨i, by omega, rfl⟩)
      refine N.iload (pc := 7) d11_7 rfl ?_
      refine N.iloadN (pc := 9) d11_9 rfl ?_
      refine N.icmpgeF (pc := 10) d11_10 ((n_lt hi31 hl).mpr hir) ?_
      refine N.aloadN (pc := 13) d11_13 rfl rfl ?_
      refine N.iload (pc := 14) d11_14 rfl ?_
      refine N.baload (pc := 16) (v := .int (by8 cs[i])) 0 i d11_16 rfl (n_nat hi31) (n_nneg hi31) (by simp [hir]) ?_
      refine N.iload (pc := 17) d11_17 rfl ?_
      refine N.icmpneT (pc := 19) (pc' := 25) d11_19 rfl (fun q => hix (by8_inj (hc _ (List.getElem_mem hir)) hx q)) ?_
      refine N.iinc (pc := 25) (l' := #[.val (.ref b), .val (.int x), .val (.int 0), .val (.int cs.length.toInt32), .val (.int x.toInt8.toInt32), .val (.int (i.toInt32 + 1))]) 1 d11_25 rfl rfl rfl ?_
      rw [n_succ]
      refine N.goto (pc := 28) (pc' := 7) d11_28 rfl ?_
      exact ih (i + 1) T (by omega) N
  exact loop r 0 T (by omega) N

set_option maxRecDepth 65536 in
set_option maxHeartbeats 4000000 in
theorem c_lat1IndexOf {l : Launch} {Z : State} {a0 : Array Value} (G : Glob Z a0) {cs : List Int32} {r : Nat} {x rv : Int32} (hx : Lat x) (hr : r ≤ cs.length) (hno : ∀ y ∈ cs.take r, ¬ y = x) (hyes : ∀ h : r < cs.length, cs[r] = x) (hrv : (if r < cs.length then r.toInt32 else -1) = rv) {b : Addr} (hc : ∀ y ∈ cs, Lat y) : Con NR ELs l Z (⟨"java/lang/StringLatin1", "indexOf", "([BIII)I"⟩ : MethodName) jdk_43_method_22_code 4 (Option.some Jvm.ClassFile.FieldType.int) ({ frames := 1, cells := 0, slots := 0, locals := 17 } : Room) [.ref b, .int x, .int 0, .int cs.length.toInt32] [] [(b, aO .byte ((cs.map by8).map Value.int))] (fun v O' FN => v = some (.int rv) ∧ O' = [] ∧ FN = []) := by
  have hw := G.1
  refine Con.intro (own := "java/lang/StringLatin1") (name := "indexOf") (plainFor_of_name pn2) rfl rfl ⟨_, G.2.1⟩ #[.val (.ref b), .val (.int x), .val (.int 0), .val (.int cs.length.toInt32)] rfl ?_
  intro p e s m below meth c T N
  have hl : cs.length < 2 ^ 31 := len_str (N.is (i := 0) rfl)
  refine N.iloadN (pc := 0) d12_0 rfl ?_
  refine N.callS (pc := 1) (c_canEncodeI G (x := x) hx) [] [] d12_1 (w91 hw) (w92 hw) (w89 hw) (w93 hw) (by decide) pd5 rfl (st := []) rfl rfl rfl (by decide) (by decide) (ltAll rfl) rfl (Nat.le_of_ble_eq_true rfl) (Nat.le_of_ble_eq_true rfl) (Nat.le_of_ble_eq_true rfl) (Nat.le_of_ble_eq_true rfl) fun v O' FN vm T hQ N => ?_
  obtain ⟨rfl, rfl, rfl⟩ := hQ
  replace N := N.cast3 (O' := []) (RO' := [(b, aO .byte ((cs.map by8).map Value.int))]) (FZ' := []) rfl rfl rfl
  show Goes p e below _ (T.setTop (mkF m 4 #[.val (.ref b), .val (.int x), .val (.int 0), .val (.int cs.length.toInt32)] [.int 1]))
  refine N.ifneT (pc := 4) (pc' := 9) d12_4 rfl (by decide) ?_
  refine N.iloadN (pc := 9) d12_9 rfl ?_
  refine N.iconst (pc := 10) 0 d12_10 rfl ?_
  refine N.callS (pc := 11) (c_max G (x := 0) (y := 0) (by decide)) [] [] d12_11 (w94 hw) (w95 hw) (w96 hw) (w97 hw) (by decide) pd6 rfl (st := []) rfl rfl rfl (by decide) (by decide) (ltAll rfl) rfl (Nat.le_of_ble_eq_true rfl) (Nat.le_of_ble_eq_true rfl) (Nat.le_of_ble_eq_true rfl) (Nat.le_of_ble_eq_true rfl) fun v O' FN vm T hQ N => ?_
  obtain ⟨rfl, rfl, rfl⟩ := hQ
  replace N := N.cast3 (O' := []) (RO' := [(b, aO .byte ((cs.map by8).map Value.int))]) (FZ' := []) rfl rfl rfl
  show Goes p e below _ (T.setTop (mkF m 14 #[.val (.ref b), .val (.int x), .val (.int 0), .val (.int cs.length.toInt32)] [.int 0]))
  refine N.istoreN (pc := 14) (l' := #[.val (.ref b), .val (.int x), .val (.int 0), .val (.int cs.length.toInt32)]) d12_14 rfl ?_
  refine N.iloadN (pc := 15) d12_15 rfl ?_
  refine N.aloadN (pc := 16) d12_16 rfl rfl ?_
  refine N.arraylength (pc := 17) cs.length.toInt32 0 d12_17 rfl (by rw [List.length_map, List.length_map]) ?_
  refine N.callS (pc := 18) (c_min1 G (x := cs.length.toInt32) (y := cs.length.toInt32) Int32.lt_irrefl) [] [] d12_18 (w98 hw) (w99 hw) (w96 hw) (w100 hw) (by decide) pd6 rfl (st := []) rfl rfl rfl (by decide) (by decide) (ltAll rfl) rfl (Nat.le_of_ble_eq_true rfl) (Nat.le_of_ble_eq_true rfl) (Nat.le_of_ble_eq_true rfl) (Nat.le_of_ble_eq_true rfl) fun v O' FN vm T hQ N => ?_
  obtain ⟨rfl, rfl, rfl⟩ := hQ
  replace N := N.cast3 (O' := []) (RO' := [(b, aO .byte ((cs.map by8).map Value.int))]) (FZ' := []) rfl rfl rfl
  show Goes p e below _ (T.setTop (mkF m 21 #[.val (.ref b), .val (.int x), .val (.int 0), .val (.int cs.length.toInt32)] [.int cs.length.toInt32]))
  refine N.istoreN (pc := 21) (l' := #[.val (.ref b), .val (.int x), .val (.int 0), .val (.int cs.length.toInt32)]) d12_21 rfl ?_
  refine N.iloadN (pc := 22) d12_22 rfl ?_
  refine N.iloadN (pc := 23) d12_23 rfl ?_
  by_cases hl0 : 0 < cs.length.toInt32
  · refine N.icmpltT (pc := 24) (pc' := 29) d12_24 rfl hl0 ?_
    refine N.aloadN (pc := 29) d12_29 rfl rfl ?_
    refine N.iloadN (pc := 30) d12_30 rfl ?_
    refine N.iloadN (pc := 31) d12_31 rfl ?_
    refine N.iloadN (pc := 32) d12_32 rfl ?_
    refine N.callS (pc := 33) (c_indexOfChar G (cs := cs) (r := r) (x := x) (rv := rv) hx hr hno hyes hrv (b := b) hc) [] [0] d12_33 (w101 hw) (w102 hw) (w89 hw) (w103 hw) (by decide) pd7 rfl (st := []) rfl rfl rfl (by decide) (by decide) (ltAll rfl) rfl (Nat.le_of_ble_eq_true rfl) (Nat.le_of_ble_eq_true rfl) (Nat.le_of_ble_eq_true rfl) (Nat.le_of_ble_eq_true rfl) fun v O' FN vm T hQ N => ?_
    obtain ⟨rfl, rfl, rfl⟩ := hQ
    replace N := N.cast3 (O' := []) (RO' := [(b, aO .byte ((cs.map by8).map Value.int))]) (FZ' := []) rfl rfl rfl
    show Goes p e below _ (T.setTop (mkF m 36 #[.val (.ref b), .val (.int x), .val (.int 0), .val (.int cs.length.toInt32)] [.int rv]))
    exact N.ireturn (pc := 36) [] (fun _ h => h) (List.forall_mem_nil _) (Nat.le_of_ble_eq_true rfl) (Nat.le_of_ble_eq_true rfl) (t := .int) d12_36 rfl (by simp) rfl ⟨rfl, rfl, rfl⟩
  · refine N.icmpltF (pc := 24) d12_24 hl0 ?_
    refine N.iconst (pc := 27) (-1) d12_27 rfl ?_
    exact N.ireturn (pc := 28) [] (fun _ h => h) (List.forall_mem_nil _) (Nat.le_of_ble_eq_true rfl) (Nat.le_of_ble_eq_true rfl) (t := .int) d12_28 rfl (by simp) rfl ⟨by rw [← hrv, if_neg (fun q => hl0 ((n_lt (a := 0) (by decide) hl).mpr (by omega)))], rfl, rfl⟩

set_option maxRecDepth 65536 in
set_option maxHeartbeats 4000000 in
theorem c_indexOf2 {l : Launch} {Z : State} {a0 : Array Value} (G : Glob Z a0) {cs : List Int32} {r : Nat} {x rv : Int32} (hx : Lat x) (hr : r ≤ cs.length) (hno : ∀ y ∈ cs.take r, ¬ y = x) (hyes : ∀ h : r < cs.length, cs[r] = x) (hrv : (if r < cs.length then r.toInt32 else -1) = rv) {a : Addr} : Con NR ELs l Z (⟨"java/lang/String", "indexOf", "(II)I"⟩ : MethodName) jdk_42_method_80_code 3 (Option.some Jvm.ClassFile.FieldType.int) ({ frames := 2, cells := 0, slots := 0, locals := 32 } : Room) [.ref a, .int x, .int 0] [] [(a, tO cs)] (fun v O' FN => v = some (.int rv) ∧ O' = [] ∧ FN = []) := by
  have hw := G.1
  refine Con.intro (own := "java/lang/String") (name := "indexOf") (plainFor_of_name pn1) rfl rfl ⟨_, G.2.1⟩ #[.val (.ref a), .val (.int x), .val (.int 0)] rfl ?_
  intro p e s m below meth c T N
  obtain ⟨hc_a, b, N⟩ := N.openR 0 rfl
  replace N := N.cast3 (O' := []) (RO' := [(a, tO cs), (a, sO b), (b, aO .byte (((cs).map by8).map Value.int))]) (FZ' := []) rfl rfl rfl
  refine N.aloadN (pc := 0) d13_0 rfl rfl ?_
  refine N.callV (pc := 1) (c_isLatin1 G (a := a) (b := b)) 1 [] [1] d13_1 (w72 hw) (w73 hw) (w75 hw) (w74 hw) (w10 hw) (w76 hw) rfl (by decide) pd8 rfl (st := []) rfl rfl rfl (by decide) (by decide) (ltAll rfl) rfl (Nat.le_of_ble_eq_true rfl) (Nat.le_of_ble_eq_true rfl) (Nat.le_of_ble_eq_true rfl) (Nat.le_of_ble_eq_true rfl) fun v O' FN vm T hQ N => ?_
  obtain ⟨rfl, rfl, rfl⟩ := hQ
  replace N := N.cast3 (O' := []) (RO' := [(a, tO cs), (a, sO b), (b, aO .byte (((cs).map by8).map Value.int))]) (FZ' := []) rfl rfl rfl
  show Goes p e below _ (T.setTop (mkF m 4 #[.val (.ref a), .val (.int x), .val (.int 0)] [.int 1]))
  refine N.ifeqF (pc := 4) d13_4 (by decide) ?_
  refine N.aloadN (pc := 7) d13_7 rfl rfl ?_
  refine N.getfield (pc := 8) 1 d13_8 (w35 hw) Via.refl rfl (List.mem_of_getElem? (i := 0) rfl) fun T N => ?_
  refine N.iloadN (pc := 11) d13_11 rfl ?_
  refine N.iloadN (pc := 12) d13_12 rfl ?_
  refine N.aloadN (pc := 13) d13_13 rfl rfl ?_
  refine N.callV (pc := 14) (c_length G (a := a) (cs := cs) rfl) 1 [] [0] d13_14 (w77 hw) (w78 hw) (w80 hw) (w79 hw) (w10 hw) (w81 hw) rfl (by decide) pd9 rfl (st := [.int 0, .int x, .ref b]) rfl rfl rfl (by decide) (by decide) (ltAll rfl) rfl (Nat.le_of_ble_eq_true rfl) (Nat.le_of_ble_eq_true rfl) (Nat.le_of_ble_eq_true rfl) (Nat.le_of_ble_eq_true rfl) fun v O' FN vm T hQ N => ?_
  obtain ⟨rfl, rfl, rfl⟩ := hQ
  replace N := N.cast3 (O' := []) (RO' := [(a, tO cs), (a, sO b), (b, aO .byte (((cs).map by8).map Value.int))]) (FZ' := []) rfl rfl rfl
  show Goes p e below _ (T.setTop (mkF m 17 #[.val (.ref a), .val (.int x), .val (.int 0)] [.int cs.length.toInt32, .int 0, .int x, .ref b]))
  refine N.callS (pc := 17) (c_lat1IndexOf G (cs := cs) (r := r) (x := x) (rv := rv) hx hr hno hyes hrv (b := b) hc_a) [] [2] d13_17 (w87 hw) (w88 hw) (w89 hw) (w90 hw) (by decide) pd7 rfl (st := []) rfl rfl rfl (by decide) (by decide) (ltAll rfl) rfl (Nat.le_of_ble_eq_true rfl) (Nat.le_of_ble_eq_true rfl) (Nat.le_of_ble_eq_true rfl) (Nat.le_of_ble_eq_true rfl) fun v O' FN vm T hQ N => ?_
  obtain ⟨rfl, rfl, rfl⟩ := hQ
  replace N := N.cast3 (O' := []) (RO' := [(a, tO cs), (a, sO b), (b, aO .byte (((cs).map by8).map Value.int))]) (FZ' := []) rfl rfl rfl
  show Goes p e below _ (T.setTop (mkF m 20 #[.val (.ref a), .val (.int x), .val (.int 0)] [.int rv]))
  refine N.goto (pc := 20) (pc' := 36) d13_20 rfl ?_
  exact N.ireturn (pc := 36) [] (List.forall_mem_cons.mpr ⟨List.mem_of_getElem? (i := 0) rfl, (List.forall_mem_nil _)⟩) (List.forall_mem_nil _) (Nat.le_of_ble_eq_true rfl) (Nat.le_of_ble_eq_true rfl) (t := .int) d13_36 rfl (by simp) rfl ⟨rfl, rfl, rfl⟩

set_option maxRecDepth 65536 in
set_option maxHeartbeats 4000000 in
theorem c_indexOf1 {l : Launch} {Z : State} {a0 : Array Value} (G : Glob Z a0) {cs : List Int32} {r : Nat} {x rv : Int32} (hx : Lat x) (hr : r ≤ cs.length) (hno : ∀ y ∈ cs.take r, ¬ y = x) (hyes : ∀ h : r < cs.length, cs[r] = x) (hrv : (if r < cs.length then r.toInt32 else -1) = rv) {a : Addr} : Con NR ELs l Z (⟨"java/lang/String", "indexOf", "(I)I"⟩ : MethodName) jdk_42_method_79_code 2 (Option.some Jvm.ClassFile.FieldType.int) ({ frames := 3, cells := 0, slots := 0, locals := 46 } : Room) [.ref a, .int x] [] [(a, tO cs)] (fun v O' FN => v = some (.int rv) ∧ O' = [] ∧ FN = []) := by
  have hw := G.1
  refine Con.intro (own := "java/lang/String") (name := "indexOf") (plainFor_of_name pn1) rfl rfl ⟨_, G.2.1⟩ #[.val (.ref a), .val (.int x)] rfl ?_
  intro p e s m below meth c T N
  obtain ⟨hc_a, b, N⟩ := N.openR 0 rfl
  replace N := N.cast3 (O' := []) (RO' := [(a, tO cs), (a, sO b), (b, aO .byte (((cs).map by8).map Value.int))]) (FZ' := []) rfl rfl rfl
  refine N.aloadN (pc := 0) d14_0 rfl rfl ?_
  refine N.iloadN (pc := 1) d14_1 rfl ?_
  refine N.iconst (pc := 2) 0 d14_2 rfl ?_
  refine N.callV (pc := 3) (c_indexOf2 G (cs := cs) (r := r) (x := x) (rv := rv) hx hr hno hyes hrv (a := a)) 1 [] [0] d14_3 (w67 hw) (w68 hw) (w70 hw) (w69 hw) (w10 hw) (w71 hw) rfl (by decide) pd6 rfl (st := []) rfl rfl rfl (by decide) (by decide) (ltAll rfl) rfl (Nat.le_of_ble_eq_true rfl) (Nat.le_of_ble_eq_true rfl) (Nat.le_of_ble_eq_true rfl) (Nat.le_of_ble_eq_true rfl) fun v O' FN vm T hQ N => ?_
  obtain ⟨rfl, rfl, rfl⟩ := hQ
  replace N := N.cast3 (O' := []) (RO' := [(a, tO cs), (a, sO b), (b, aO .byte (((cs).map by8).map Value.int))]) (FZ' := []) rfl rfl rfl
  show Goes p e below _ (T.setTop (mkF m 6 #[.val (.ref a), .val (.int x)] [.int rv]))
  exact N.ireturn (pc := 6) [] (List.forall_mem_cons.mpr ⟨List.mem_of_getElem? (i := 0) rfl, (List.forall_mem_nil _)⟩) (List.forall_mem_nil _) (Nat.le_of_ble_eq_true rfl) (Nat.le_of_ble_eq_true rfl) (t := .int) d14_6 rfl (by simp) rfl ⟨rfl, rfl, rfl⟩

set_option maxRecDepth 65536 in
set_option maxHeartbeats 4000000 in
theorem c_checkLength {l : Launch} {Z : State} {a0 : Array Value} (G : Glob Z a0) {x y : Int32} (h : ¬ y < x) : Con NR ELs l Z (⟨"java/util/Arrays", "checkLength", "(II)V"⟩ : MethodName) jdk_65_method_131_code 2 (Option.none : Option Jvm.ClassFile.FieldType) ({ frames := 0, cells := 0, slots := 0, locals := 0 } : Room) [.int x, .int y] [] [] (fun v O' FN => v = none ∧ O' = [] ∧ FN = []) := by
  have hw := G.1
  refine Con.intro (own := "java/util/Arrays") (name := "checkLength") (plainFor_of_name pn3) rfl rfl ⟨_, G.2.1⟩ #[.val (.int x), .val (.int y)] rfl ?_
  intro p e s m below meth c T N
  refine N.iloadN (pc := 0) d15_0 rfl ?_
  refine N.iloadN (pc := 1) d15_1 rfl ?_
  refine N.icmpgeT (pc := 2) (pc' := 37) d15_2 rfl h ?_
  exact N.retV (pc := 37) [] (fun _ h => h) (List.forall_mem_nil _) (Nat.le_of_ble_eq_true rfl) (Nat.le_of_ble_eq_true rfl) d15_37 rfl ⟨rfl, rfl, rfl⟩

set_option maxRecDepth 65536 in
set_option maxHeartbeats 4000000 in
theorem c_copyRB {l : Launch} {Z : State} {a0 : Array Value} (G : Glob Z a0) {b : Addr} {vs : List Value} {k : Nat} (hk : k < vs.length) (hcap : k ≤ 5) : Con NR ELs l Z (⟨"java/util/Arrays", "copyOfRangeByte", "([BII)[B"⟩ : MethodName) jdk_65_method_133_code 5 (Option.some (Jvm.ClassFile.FieldType.array Jvm.ClassFile.FieldType.byte)) ({ frames := 1, cells := 1, slots := 5, locals := 18 } : Room) [.ref b, .int 0, .int k.toInt32] [] [(b, aO .byte vs)] (fun v O' FN => ∃ c', v = some (.ref c') ∧ O' = [(c', aO .byte (vs.take k))] ∧ FN = []) := by
  have hw := G.1
  refine Con.intro (own := "java/util/Arrays") (name := "copyOfRangeByte") (plainFor_of_name pn3) rfl rfl ⟨_, G.2.1⟩ #[.val (.ref b), .val (.int 0), .val (.int k.toInt32), .unset, .unset] rfl ?_
  intro p e s m below meth c T N
  have hl : vs.length < 2 ^ 31 := (N.is (i := 0) rfl).2.len
  have hk31 : k < 2 ^ 31 := by omega
  refine N.iloadN (pc := 0) d16_0 rfl ?_
  refine N.iloadN (pc := 1) d16_1 rfl ?_
  refine N.callS (pc := 2) (c_checkLength G (x := 0) (y := k.toInt32) (n_nneg hk31)) [] [] d16_2 (w207 hw) (w208 hw) (w202 hw) (w209 hw) (by decide) pd10 rfl (st := []) rfl rfl rfl (by decide) (by decide) (ltAll rfl) rfl (Nat.le_of_ble_eq_true rfl) (Nat.le_of_ble_eq_true rfl) (Nat.le_of_ble_eq_true rfl) (Nat.le_of_ble_eq_true rfl) fun v O' FN vm T hQ N => ?_
  obtain ⟨rfl, rfl, rfl⟩ := hQ
  replace N := N.cast3 (O' := []) (RO' := [(b, aO .byte vs)]) (FZ' := []) rfl rfl rfl
  show Goes p e below _ (T.setTop (mkF m 5 #[.val (.ref b), .val (.int 0), .val (.int k.toInt32), .unset, .unset] []))
  refine N.iloadN (pc := 5) d16_5 rfl ?_
  refine N.iloadN (pc := 6) d16_6 rfl ?_
  refine N.isub (pc := 7) d16_7 ?_
  rw [Int32.sub_zero]
  refine N.istoreN (pc := 8) (l' := #[.val (.ref b), .val (.int 0), .val (.int k.toInt32), .val (.int k.toInt32), .unset]) d16_8 rfl ?_
  refine N.iloadN (pc := 9) d16_9 rfl ?_
  refine N.newarray (pc := 10) k 5 d16_10 (w26 hw) (n_nat hk31) (n_nneg hk31) hcap (by decide) (Nat.le_of_ble_eq_true rfl) (Nat.le_of_ble_eq_true rfl) fun c' T lc N => ?_
  replace N := N.cast (O' := [(c', aO .byte (List.replicate k (.int 0)))]) rfl
  refine N.astore (pc := 12) (l' := #[.val (.ref b), .val (.int 0), .val (.int k.toInt32), .val (.int k.toInt32), .val (.ref c')]) d16_12 rfl rfl ?_
  refine N.aloadN (pc := 14) d16_14 rfl rfl ?_
  refine N.iloadN (pc := 15) d16_15 rfl ?_
  refine N.aload (pc := 16) d16_16 rfl rfl ?_
  refine N.iconst (pc := 18) 0 d16_18 rfl ?_
  refine N.aloadN (pc := 19) d16_19 rfl rfl ?_
  refine N.arraylength (pc := 20) vs.length.toInt32 1 d16_20 rfl rfl ?_
  refine N.iloadN (pc := 21) d16_21 rfl ?_
  refine N.isub (pc := 22) d16_22 ?_
  rw [Int32.sub_zero]
  refine N.iloadN (pc := 23) d16_23 rfl ?_
  refine N.callS (pc := 24) (c_min2 G (x := vs.length.toInt32) (y := k.toInt32) ((n_lt hk31 hl).mpr hk)) [] [] d16_24 (w210 hw) (w99 hw) (w96 hw) (w100 hw) (by decide) pd6 rfl (st := [.int 0, .ref c', .int 0, .ref b]) rfl rfl rfl (by decide) (by decide) (ltAll rfl) rfl (Nat.le_of_ble_eq_true rfl) (Nat.le_of_ble_eq_true rfl) (Nat.le_of_ble_eq_true rfl) (Nat.le_of_ble_eq_true rfl) fun v O' FN vm T hQ N => ?_
  obtain ⟨rfl, rfl, rfl⟩ := hQ
  replace N := N.cast3 (O' := [(c', aO .byte (List.replicate k (.int 0)))]) (RO' := [(b, aO .byte vs)]) (FZ' := []) rfl rfl rfl
  show Goes p e below _ (T.setTop (mkF m 27 #[.val (.ref b), .val (.int 0), .val (.int k.toInt32), .val (.int k.toInt32), .val (.ref c')] [.int k.toInt32, .int 0, .ref c', .int 0, .ref b]))
  refine N.arraycopy (pc := 27) (O' := [(c', aO .byte (vs.take k))]) 1 0 0 0 k d16_27 (w211 hw) (w168 hw) (w166 hw) (w167 hw) rfl rfl rfl (fun C q => by cases q) rfl (by decide) rfl (by decide) (n_nat hk31) (n_nneg hk31) (by omega) (by simp) (ud := vs.take k) (by simp) rfl rfl (Nat.le_of_ble_eq_true rfl) (Nat.le_of_ble_eq_true rfl) fun T N => ?_
  refine N.aload (pc := 30) d16_30 rfl rfl ?_
  exact N.areturn (pc := 32) [] (fun _ h => h) (List.forall_mem_nil _) (Nat.le_of_ble_eq_true rfl) (Nat.le_of_ble_eq_true rfl) (t := (.array .byte)) d16_32 rfl rfl rfl rfl ⟨_, rfl, rfl, rfl⟩

set_option maxRecDepth 65536 in
set_option maxHeartbeats 4000000 in
theorem c_copyR {l : Launch} {Z : State} {a0 : Array Value} (G : Glob Z a0) {b : Addr} {vs : List Value} {k : Nat} (hk : k < vs.length) (hcap : k ≤ 5) : Con NR ELs l Z (⟨"java/util/Arrays", "copyOfRange", "([BII)[B"⟩ : MethodName) jdk_65_method_132_code 3 (Option.some (Jvm.ClassFile.FieldType.array Jvm.ClassFile.FieldType.byte)) ({ frames := 2, cells := 1, slots := 5, locals := 34 } : Room) [.ref b, .int 0, .int k.toInt32] [] [(b, aO .byte vs)] (fun v O' FN => ∃ c', v = some (.ref c') ∧ O' = [(c', aO .byte (vs.take k))] ∧ FN = []) := by
  have hw := G.1
  refine Con.intro (own := "java/util/Arrays") (name := "copyOfRange") (plainFor_of_name pn3) rfl rfl ⟨_, G.2.1⟩ #[.val (.ref b), .val (.int 0), .val (.int k.toInt32)] rfl ?_
  intro p e s m below meth c T N
  have hl : vs.length < 2 ^ 31 := (N.is (i := 0) rfl).2.len
  have hk31 : k < 2 ^ 31 := by omega
  refine N.iloadN (pc := 0) d17_0 rfl ?_
  refine N.ifneF (pc := 1) d17_1 rfl ?_
  refine N.iloadN (pc := 4) d17_4 rfl ?_
  refine N.aloadN (pc := 5) d17_5 rfl rfl ?_
  refine N.arraylength (pc := 6) vs.length.toInt32 0 d17_6 rfl rfl ?_
  refine N.icmpeqF (pc := 7) d17_7 (fun q => by have := (n_eq hk31 hl).mp q; omega) ?_
  refine N.aloadN (pc := 10) d17_10 rfl rfl ?_
  refine N.iloadN (pc := 11) d17_11 rfl ?_
  refine N.iloadN (pc := 12) d17_12 rfl ?_
  refine N.callS (pc := 13) (c_copyRB G (b := b) (vs := vs) (k := k) hk hcap) [] [0] d17_13 (w204 hw) (w205 hw) (w202 hw) (w206 hw) (by decide) pd11 rfl (st := []) rfl rfl rfl (by decide) (by decide) (ltAll rfl) rfl (Nat.le_of_ble_eq_true rfl) (Nat.le_of_ble_eq_true rfl) (Nat.le_of_ble_eq_true rfl) (Nat.le_of_ble_eq_true rfl) fun v O' FN vm T hQ N => ?_
  obtain ⟨c', rfl, rfl, rfl⟩ := hQ
  replace N := N.cast3 (O' := [(c', aO .byte (vs.take k))]) (RO' := [(b, aO .byte vs)]) (FZ' := []) rfl rfl rfl
  show Goes p e below _ (T.setTop (mkF m 16 #[.val (.ref b), .val (.int 0), .val (.int k.toInt32)] [.ref c']))
  exact N.areturn (pc := 16) [] (fun _ h => h) (List.forall_mem_nil _) (Nat.le_of_ble_eq_true rfl) (Nat.le_of_ble_eq_true rfl) (t := (.array .byte)) d17_16 rfl rfl rfl rfl ⟨_, rfl, rfl, rfl⟩

set_option maxRecDepth 65536 in
set_option maxHeartbeats 4000000 in
theorem c_kindChar {l : Launch} {Z : State} {a0 : Array Value} (G : Glob Z a0) {x : Int32} : Con NR ELs l Z (⟨"com/example/shoalwork/shoalwork/task/TaskSpecToStringPinLaw", "kindChar", "(I)C"⟩ : MethodName) method_2_code 2 (Option.some Jvm.ClassFile.FieldType.char) ({ frames := 0, cells := 0, slots := 0, locals := 0 } : Room) [.int x] [] [] (fun v O' FN => v = some (.int (kc x)) ∧ O' = [] ∧ FN = []) := by
  have hw := G.1
  refine Con.intro (own := "com/example/shoalwork/shoalwork/task/TaskSpecToStringPinLaw") (name := "kindChar") (plainFor_of_name pn4) rfl rfl ⟨_, G.2.1⟩ #[.val (.int x), .unset] rfl ?_
  intro p e s m below meth c T N
  refine N.iloadN (pc := 0) d18_0 rfl ?_
  refine N.sipush (pc := 1) 255 d18_1 rfl ?_
  refine N.iand (pc := 4) d18_4 ?_
  refine N.i2c (pc := 5) d18_5 ?_
  rw [i2c_mask]
  refine N.istoreN (pc := 6) (l' := #[.val (.int x), .val (.int (x &&& 255))]) d18_6 rfl ?_
  refine N.iloadN (pc := 7) d18_7 rfl ?_
  refine N.bipush (pc := 8) 58 d18_8 rfl ?_
  by_cases h : (x &&& 255) = 58
  · refine N.icmpneF (pc := 10) d18_10 h ?_
    refine N.bipush (pc := 13) 59 d18_13 rfl ?_
    refine N.istoreN (pc := 15) (l' := #[.val (.int x), .val (.int 59)]) d18_15 rfl ?_
    refine N.iloadN (pc := 16) d18_16 rfl ?_
    exact N.ireturn (pc := 17) [] (fun _ h => h) (List.forall_mem_nil _) (Nat.le_of_ble_eq_true rfl) (Nat.le_of_ble_eq_true rfl) (t := .char) d18_17 rfl (by simp) rfl ⟨by rw [kc, if_pos h], rfl, rfl⟩
  · refine N.icmpneT (pc := 10) (pc' := 16) d18_10 rfl h ?_
    refine N.iloadN (pc := 16) d18_16 rfl ?_
    exact N.ireturn (pc := 17) [] (fun _ h => h) (List.forall_mem_nil _) (Nat.le_of_ble_eq_true rfl) (Nat.le_of_ble_eq_true rfl) (t := .char) d18_17 rfl (by simp) (narrow_lat (lat_and _)) ⟨by rw [kc, if_neg h], rfl, rfl⟩

set_option maxRecDepth 65536 in
set_option maxHeartbeats 4000000 in
theorem c_make0 {l : Launch} {Z : State} {a0 : Array Value} (G : Glob Z a0) {x1 x2 : Int32} (h1 : Lat x1) (h2 : Lat x2) : Con NR ELs l Z (⟨"com/example/shoalwork/shoalwork/task/TaskSpecToStringPinLaw", "make", "(ICC)Ljava/lang/String;"⟩ : MethodName) method_3_code 4 (Option.some (Jvm.ClassFile.FieldType.object "java/lang/String")) ({ frames := 3, cells := 6, slots := 12, locals := 43 } : Room) [.int 0, .int x1, .int x2] [] [] (fun v O' FN => ∃ a, v = some (.ref a) ∧ O' = [] ∧ FN = [(a, tO [])]) := by
  have hw := G.1
  refine Con.intro (own := "com/example/shoalwork/shoalwork/task/TaskSpecToStringPinLaw") (name := "make") (plainFor_of_name pn4) rfl rfl ⟨_, G.2.1⟩ #[.val (.int 0), .val (.int x1), .val (.int x2), .unset] rfl ?_
  intro p e s m below meth c T N
  refine N.iloadN (pc := 0) d19_0 rfl ?_
  refine N.ifneF (pc := 1) d19_1 rfl ?_
  refine N.new (pc := 4) d19_4 (w8 hw) (w9 hw) (w10 hw) (lay_java_lang_String hw) (Nat.le_of_ble_eq_true rfl) (Nat.le_of_ble_eq_true rfl) fun a5 T l_a5 N => ?_
  replace N := N.cast (O' := [(a5, .inl ("java/lang/String", [(("java/lang/String", "value", "[B"), .null), (("java/lang/String", "coder", "B"), .int 0)]))]) rfl
  refine N.dup (pc := 7) d19_7 rfl ?_
  refine N.iconst (pc := 8) 0 d19_8 rfl ?_
  refine N.newarray (pc := 9) 0 0 d19_9 (w7 hw) rfl (by decide) (Nat.le_of_ble_eq_true rfl) (Nat.le_of_ble_eq_true rfl) (Nat.le_of_ble_eq_true rfl) (Nat.le_of_ble_eq_true rfl) fun a6 T l_a6 N => ?_
  replace N := N.cast (O' := [(a5, .inl ("java/lang/String", [(("java/lang/String", "value", "[B"), .null), (("java/lang/String", "coder", "B"), .int 0)])), (a6, aO .char [])]) rfl
  refine N.callI (pc := 11) (c_init3e G (a := a5) (b := a6)) [0] [1] d19_11 rfl (w11 hw) (w12 hw) (w10 hw) (w13 hw) (by decide) pd12 rfl (st := [.ref a5]) rfl rfl rfl (by decide) (by decide) (ltAll rfl) rfl (Nat.le_of_ble_eq_true rfl) (Nat.le_of_ble_eq_true rfl) (Nat.le_of_ble_eq_true rfl) (Nat.le_of_ble_eq_true rfl) fun v O' FN vm T hQ N => ?_
  obtain ⟨b', rfl, rfl, rfl⟩ := hQ
  replace N := N.cast3 (O' := [(a5, .inl ("java/lang/String", [(("java/lang/String", "value", "[B"), .ref b'), (("java/lang/String", "coder", "B"), .int 0)])), (a6, aO .char [])]) (RO' := []) (FZ' := [(b', aO .byte [])]) rfl rfl rfl
  show Goes p e below _ (T.setTop (mkF m 14 #[.val (.int 0), .val (.int x1), .val (.int x2), .unset] [.ref a5]))
  replace N := N.freeze (O' := [(a6, aO .char [])]) 0 rfl (Nat.le_of_ble_eq_true rfl) rfl
  replace N := N.freeze (O' := []) 0 rfl (Nat.le_of_ble_eq_true rfl) rfl
  replace N := N.str (cs := []) 1 0 rfl rfl (fun _ h => nomatch h)
  replace N := N.cast3 (O' := []) (RO' := []) (FZ' := [(b', aO .byte []), (a5, .inl ("java/lang/String", [(("java/lang/String", "value", "[B"), .ref b'), (("java/lang/String", "coder", "B"), .int 0)])), (a6, aO .char []), (a5, tO ([]))]) rfl rfl rfl
  show Goes p e below _ (T.setTop (mkF m 14 #[.val (.int 0), .val (.int x1), .val (.int x2), .unset] [.ref a5]))
  exact N.areturn (pc := 14) [(a5, tO ([]))] (fun _ h => h) (List.forall_mem_cons.mpr ⟨List.mem_of_getElem? (i := 3) rfl, (List.forall_mem_nil _)⟩) (Nat.le_of_ble_eq_true rfl) (Nat.le_of_ble_eq_true rfl) (t := (.object "java/lang/String")) d19_14 rfl rfl rfl rfl ⟨_, rfl, rfl, rfl⟩

set_option maxRecDepth 65536 in
set_option maxHeartbeats 4000000 in
theorem c_make1 {l : Launch} {Z : State} {a0 : Array Value} (G : Glob Z a0) {x1 x2 : Int32} (h1 : Lat x1) (h2 : Lat x2) : Con NR ELs l Z (⟨"com/example/shoalwork/shoalwork/task/TaskSpecToStringPinLaw", "make", "(ICC)Ljava/lang/String;"⟩ : MethodName) method_3_code 4 (Option.some (Jvm.ClassFile.FieldType.object "java/lang/String")) ({ frames := 4, cells := 3, slots := 10, locals := 66 } : Room) [.int 1, .int x1, .int x2] [] [] (fun v O' FN => ∃ a, v = some (.ref a) ∧ O' = [] ∧ FN = [(a, tO [x1])]) := by
  have hw := G.1
  refine Con.intro (own := "com/example/shoalwork/shoalwork/task/TaskSpecToStringPinLaw") (name := "make") (plainFor_of_name pn4) rfl rfl ⟨_, G.2.1⟩ #[.val (.int 1), .val (.int x1), .val (.int x2), .unset] rfl ?_
  intro p e s m below meth c T N
  refine N.iloadN (pc := 0) d19_0 rfl ?_
  refine N.ifneT (pc := 1) (pc' := 15) d19_1 rfl (by decide) ?_
  refine N.iloadN (pc := 15) d19_15 rfl ?_
  refine N.iconst (pc := 16) 1 d19_16 rfl ?_
  refine N.icmpneF (pc := 17) d19_17 rfl ?_
  refine N.iconst (pc := 20) 1 d19_20 rfl ?_
  refine N.newarray (pc := 21) 1 1 d19_21 (w7 hw) rfl (by decide) (Nat.le_of_ble_eq_true rfl) (Nat.le_of_ble_eq_true rfl) (Nat.le_of_ble_eq_true rfl) (Nat.le_of_ble_eq_true rfl) fun a7 T l_a7 N => ?_
  replace N := N.cast (O' := [(a7, aO .char [.int 0])]) rfl
  refine N.astoreN (pc := 23) (l' := #[.val (.int 1), .val (.int x1), .val (.int x2), .val (.ref a7)]) d19_23 rfl rfl ?_
  refine N.aloadN (pc := 24) d19_24 rfl rfl ?_
  refine N.iconst (pc := 25) 0 d19_25 rfl ?_
  refine N.iloadN (pc := 26) d19_26 rfl ?_
  refine N.castore (pc := 27) (O' := [(a7, aO .char [.int x1])]) 0 0 d19_27 rfl rfl (by decide) (Nat.le_of_ble_eq_true rfl) (by rw [nar_lat h1]) rfl fun T N => ?_
  refine N.new (pc := 28) d19_28 (w8 hw) (w9 hw) (w10 hw) (lay_java_lang_String hw) (Nat.le_of_ble_eq_true rfl) (Nat.le_of_ble_eq_true rfl) fun a8 T l_a8 N => ?_
  replace N := N.cast (O' := [(a7, aO .char [.int x1]), (a8, .inl ("java/lang/String", [(("java/lang/String", "value", "[B"), .null), (("java/lang/String", "coder", "B"), .int 0)]))]) rfl
  refine N.dup (pc := 31) d19_31 rfl ?_
  refine N.aloadN (pc := 32) d19_32 rfl rfl ?_
  refine N.callI (pc := 33) (c_init3 G (a := a8) (b := a7) (cs := [x1]) (by simp) (by simp) (List.forall_mem_cons.mpr ⟨h1, fun _ h => nomatch h⟩)) [1] [0] d19_33 rfl (w11 hw) (w12 hw) (w10 hw) (w13 hw) (by decide) pd12 rfl (st := [.ref a8]) rfl rfl rfl (by decide) (by decide) (ltAll rfl) rfl (Nat.le_of_ble_eq_true rfl) (Nat.le_of_ble_eq_true rfl) (Nat.le_of_ble_eq_true rfl) (Nat.le_of_ble_eq_true rfl) fun v O' FN vm T hQ N => ?_
  obtain ⟨b8, rfl, rfl, rfl⟩ := hQ
  replace N := N.cast3 (O' := [(a7, aO .char [.int x1]), (a8, .inl ("java/lang/String", [(("java/lang/String", "value", "[B"), .ref b8), (("java/lang/String", "coder", "B"), .int 0)])), (b8, aO .byte ((([x1]).map by8).map Value.int))]) (RO' := []) (FZ' := []) rfl rfl rfl
  show Goes p e below _ (T.setTop (mkF m 36 #[.val (.int 1), .val (.int x1), .val (.int x2), .val (.ref a7)] [.ref a8]))
  replace N := N.freeze (O' := [(a7, aO .char [.int x1]), (b8, aO .byte ((([x1]).map by8).map Value.int))]) 1 rfl (Nat.le_of_ble_eq_true rfl) rfl
  replace N := N.freeze (O' := [(a7, aO .char [.int x1])]) 1 rfl (Nat.le_of_ble_eq_true rfl) rfl
  replace N := N.freeze (O' := []) 0 rfl (Nat.le_of_ble_eq_true rfl) rfl
  replace N := N.str (cs := [x1]) 0 1 rfl rfl (List.forall_mem_cons.mpr ⟨h1, fun _ h => nomatch h⟩)
  replace N := N.cast3 (O' := []) (RO' := []) (FZ' := [(a8, .inl ("java/lang/String", [(("java/lang/String", "value", "[B"), .ref b8), (("java/lang/String", "coder", "B"), .int 0)])), (b8, aO .byte ((([x1]).map by8).map Value.int)), (a7, aO .char [.int x1]), (a8, tO ([x1]))]) rfl rfl rfl
  show Goes p e below _ (T.setTop (mkF m 36 #[.val (.int 1), .val (.int x1), .val (.int x2), .val (.ref a7)] [.ref a8]))
  exact N.areturn (pc := 36) [(a8, tO ([x1]))] (fun _ h => h) (List.forall_mem_cons.mpr ⟨List.mem_of_getElem? (i := 3) rfl, (List.forall_mem_nil _)⟩) (Nat.le_of_ble_eq_true rfl) (Nat.le_of_ble_eq_true rfl) (t := (.object "java/lang/String")) d19_36 rfl rfl rfl rfl ⟨_, rfl, rfl, rfl⟩

set_option maxRecDepth 65536 in
set_option maxHeartbeats 4000000 in
theorem c_make2 {l : Launch} {Z : State} {a0 : Array Value} (G : Glob Z a0) {x1 x2 : Int32} (h1 : Lat x1) (h2 : Lat x2) : Con NR ELs l Z (⟨"com/example/shoalwork/shoalwork/task/TaskSpecToStringPinLaw", "make", "(ICC)Ljava/lang/String;"⟩ : MethodName) method_3_code 4 (Option.some (Jvm.ClassFile.FieldType.object "java/lang/String")) ({ frames := 4, cells := 3, slots := 11, locals := 66 } : Room) [.int 2, .int x1, .int x2] [] [] (fun v O' FN => ∃ a, v = some (.ref a) ∧ O' = [] ∧ FN = [(a, tO [x1, x2])]) := by
  have hw := G.1
  refine Con.intro (own := "com/example/shoalwork/shoalwork/task/TaskSpecToStringPinLaw") (name := "make") (plainFor_of_name pn4) rfl rfl ⟨_, G.2.1⟩ #[.val (.int 2), .val (.int x1), .val (.int x2), .unset] rfl ?_
  intro p e s m below meth c T N
  refine N.iloadN (pc := 0) d19_0 rfl ?_
  refine N.ifneT (pc := 1) (pc' := 15) d19_1 rfl (by decide) ?_
  refine N.iloadN (pc := 15) d19_15 rfl ?_
  refine N.iconst (pc := 16) 1 d19_16 rfl ?_
  refine N.icmpneT (pc := 17) (pc' := 37) d19_17 rfl (by decide) ?_
  refine N.iconst (pc := 37) 2 d19_37 rfl ?_
  refine N.newarray (pc := 38) 2 2 d19_38 (w7 hw) rfl (by decide) (Nat.le_of_ble_eq_true rfl) (Nat.le_of_ble_eq_true rfl) (Nat.le_of_ble_eq_true rfl) (Nat.le_of_ble_eq_true rfl) fun a9 T l_a9 N => ?_
  replace N := N.cast (O' := [(a9, aO .char [.int 0, .int 0])]) rfl
  refine N.astoreN (pc := 40) (l' := #[.val (.int 2), .val (.int x1), .val (.int x2), .val (.ref a9)]) d19_40 rfl rfl ?_
  refine N.aloadN (pc := 41) d19_41 rfl rfl ?_
  refine N.iconst (pc := 42) 0 d19_42 rfl ?_
  refine N.iloadN (pc := 43) d19_43 rfl ?_
  refine N.castore (pc := 44) (O' := [(a9, aO .char [.int x1, .int 0])]) 0 0 d19_44 rfl rfl (by decide) (Nat.le_of_ble_eq_true rfl) (by rw [nar_lat h1]) rfl fun T N => ?_
  refine N.aloadN (pc := 45) d19_45 rfl rfl ?_
  refine N.iconst (pc := 46) 1 d19_46 rfl ?_
  refine N.iloadN (pc := 47) d19_47 rfl ?_
  refine N.castore (pc := 48) (O' := [(a9, aO .char [.int x1, .int x2])]) 0 1 d19_48 rfl rfl (by decide) (Nat.le_of_ble_eq_true rfl) (by rw [nar_lat h2]) rfl fun T N => ?_
  refine N.new (pc := 49) d19_49 (w8 hw) (w9 hw) (w10 hw) (lay_java_lang_String hw) (Nat.le_of_ble_eq_true rfl) (Nat.le_of_ble_eq_true rfl) fun a10 T l_a10 N => ?_
  replace N := N.cast (O' := [(a9, aO .char [.int x1, .int x2]), (a10, .inl ("java/lang/String", [(("java/lang/String", "value", "[B"), .null), (("java/lang/String", "coder", "B"), .int 0)]))]) rfl
  refine N.dup (pc := 52) d19_52 rfl ?_
  refine N.aloadN (pc := 53) d19_53 rfl rfl ?_
  refine N.callI (pc := 54) (c_init3 G (a := a10) (b := a9) (cs := [x1, x2]) (by simp) (by simp) (List.forall_mem_cons.mpr ⟨h1, List.forall_mem_cons.mpr ⟨h2, fun _ h => nomatch h⟩⟩)) [1] [0] d19_54 rfl (w11 hw) (w12 hw) (w10 hw) (w13 hw) (by decide) pd12 rfl (st := [.ref a10]) rfl rfl rfl (by decide) (by decide) (ltAll rfl) rfl (Nat.le_of_ble_eq_true rfl) (Nat.le_of_ble_eq_true rfl) (Nat.le_of_ble_eq_true rfl) (Nat.le_of_ble_eq_true rfl) fun v O' FN vm T hQ N => ?_
  obtain ⟨b10, rfl, rfl, rfl⟩ := hQ
  replace N := N.cast3 (O' := [(a9, aO .char [.int x1, .int x2]), (a10, .inl ("java/lang/String", [(("java/lang/String", "value", "[B"), .ref b10), (("java/lang/String", "coder", "B"), .int 0)])), (b10, aO .byte ((([x1, x2]).map by8).map Value.int))]) (RO' := []) (FZ' := []) rfl rfl rfl
  show Goes p e below _ (T.setTop (mkF m 57 #[.val (.int 2), .val (.int x1), .val (.int x2), .val (.ref a9)] [.ref a10]))
  replace N := N.freeze (O' := [(a9, aO .char [.int x1, .int x2]), (b10, aO .byte ((([x1, x2]).map by8).map Value.int))]) 1 rfl (Nat.le_of_ble_eq_true rfl) rfl
  replace N := N.freeze (O' := [(a9, aO .char [.int x1, .int x2])]) 1 rfl (Nat.le_of_ble_eq_true rfl) rfl
  replace N := N.freeze (O' := []) 0 rfl (Nat.le_of_ble_eq_true rfl) rfl
  replace N := N.str (cs := [x1, x2]) 0 1 rfl rfl (List.forall_mem_cons.mpr ⟨h1, List.forall_mem_cons.mpr ⟨h2, fun _ h => nomatch h⟩⟩)
  replace N := N.cast3 (O' := []) (RO' := []) (FZ' := [(a10, .inl ("java/lang/String", [(("java/lang/String", "value", "[B"), .ref b10), (("java/lang/String", "coder", "B"), .int 0)])), (b10, aO .byte ((([x1, x2]).map by8).map Value.int)), (a9, aO .char [.int x1, .int x2]), (a10, tO ([x1, x2]))]) rfl rfl rfl
  show Goes p e below _ (T.setTop (mkF m 57 #[.val (.int 2), .val (.int x1), .val (.int x2), .val (.ref a9)] [.ref a10]))
  exact N.areturn (pc := 57) [(a10, tO ([x1, x2]))] (fun _ h => h) (List.forall_mem_cons.mpr ⟨List.mem_of_getElem? (i := 3) rfl, (List.forall_mem_nil _)⟩) (Nat.le_of_ble_eq_true rfl) (Nat.le_of_ble_eq_true rfl) (t := (.object "java/lang/String")) d19_57 rfl rfl rfl rfl ⟨_, rfl, rfl, rfl⟩

set_option maxRecDepth 65536 in
set_option maxHeartbeats 4000000 in
theorem c_requireNonNull {l : Launch} {Z : State} {a0 : Array Value} (G : Glob Z a0) {a b : Addr} : Con NR ELs l Z (⟨"java/util/Objects", "requireNonNull", "(Ljava/lang/Object;Ljava/lang/String;)Ljava/lang/Object;"⟩ : MethodName) jdk_31_method_11_code 2 (Option.some (Jvm.ClassFile.FieldType.object "java/lang/Object")) ({ frames := 0, cells := 0, slots := 0, locals := 0 } : Room) [.ref a, .ref b] [] [] (fun v O' FN => v = some (.ref a) ∧ O' = [] ∧ FN = []) := by
  have hw := G.1
  refine Con.intro (own := "java/util/Objects") (name := "requireNonNull") (plainFor_of_name pn5) rfl rfl ⟨_, G.2.1⟩ #[.val (.ref a), .val (.ref b)] rfl ?_
  intro p e s m below meth c T N
  refine N.aloadN (pc := 0) d20_0 rfl rfl ?_
  refine N.ifnonnullT (pc := 1) (pc' := 13) d20_1 rfl ?_
  refine N.aloadN (pc := 13) d20_13 rfl rfl ?_
  exact N.areturn (pc := 14) [] (fun _ h => h) (List.forall_mem_nil _) (Nat.le_of_ble_eq_true rfl) (Nat.le_of_ble_eq_true rfl) (t := (.object "java/lang/Object")) d20_14 rfl rfl rfl rfl ⟨rfl, rfl, rfl⟩

set_option maxRecDepth 65536 in
set_option maxHeartbeats 4000000 in
theorem c_isEmpty {l : Launch} {Z : State} {a0 : Array Value} (G : Glob Z a0) {a : Addr} {cs : List Int32} (hz : 0 < cs.length) : Con NR ELs l Z (⟨"java/lang/String", "isEmpty", "()Z"⟩ : MethodName) jdk_42_method_55_code 1 (Option.some Jvm.ClassFile.FieldType.boolean) ({ frames := 0, cells := 0, slots := 0, locals := 0 } : Room) [.ref a] [] [(a, tO cs)] (fun v O' FN => v = some (.int 0) ∧ O' = [] ∧ FN = []) := by
  have hw := G.1
  refine Con.intro (own := "java/lang/String") (name := "isEmpty") (plainFor_of_name pn1) rfl rfl ⟨_, G.2.1⟩ #[.val (.ref a)] rfl ?_
  intro p e s m below meth c T N
  obtain ⟨hc_a, b, N⟩ := N.openR 0 rfl
  replace N := N.cast3 (O' := []) (RO' := [(a, tO cs), (a, sO b), (b, aO .byte (((cs).map by8).map Value.int))]) (FZ' := []) rfl rfl rfl
  have hl : cs.length < 2 ^ 31 := len_str (N.is (i := 2) rfl)
  refine N.aloadN (pc := 0) d21_0 rfl rfl ?_
  refine N.getfield (pc := 1) 1 d21_1 (w35 hw) Via.refl rfl (List.mem_of_getElem? (i := 0) rfl) fun T N => ?_
  refine N.arraylength (pc := 4) cs.length.toInt32 2 d21_4 rfl (by simp) ?_
  refine N.ifneT (pc := 5) (pc' := 12) d21_5 rfl (fun q => by have := (n_eq (b := 0) hl (by decide)).mp q; omega) ?_
  refine N.iconst (pc := 12) 0 d21_12 rfl ?_
  exact N.ireturn (pc := 13) [] (List.forall_mem_cons.mpr ⟨List.mem_of_getElem? (i := 0) rfl, (List.forall_mem_nil _)⟩) (List.forall_mem_nil _) (Nat.le_of_ble_eq_true rfl) (Nat.le_of_ble_eq_true rfl) (t := .boolean) d21_13 rfl (by simp) rfl ⟨rfl, rfl, rfl⟩

set_option maxRecDepth 65536 in
set_option maxHeartbeats 4000000 in
theorem c_recInit {l : Launch} {Z : State} {a0 : Array Value} (G : Glob Z a0) {a : Addr} : Con NR ELs l Z (⟨"java/lang/Record", "<init>", "()V"⟩ : MethodName) jdk_30_method_1_code 1 (Option.none : Option Jvm.ClassFile.FieldType) ({ frames := 1, cells := 0, slots := 0, locals := 12 } : Room) [.ref a] [] [] (fun v O' FN => v = none ∧ O' = [] ∧ FN = []) := by
  have hw := G.1
  refine Con.intro (own := "java/lang/Record") (name := "<init>") (plainFor_of_name pn6) rfl rfl ⟨_, G.2.1⟩ #[.val (.ref a)] rfl ?_
  intro p e s m below meth c T N
  refine N.aloadN (pc := 0) d22_0 rfl rfl ?_
  refine N.objInit (pc := 1) d22_1 (w48 hw) (w19 hw) (w20 hw) rfl (Nat.le_of_ble_eq_true rfl) (Nat.le_of_ble_eq_true rfl) fun T N => ?_
  exact N.retV (pc := 4) [] (fun _ h => h) (List.forall_mem_nil _) (Nat.le_of_ble_eq_true rfl) (Nat.le_of_ble_eq_true rfl) d22_4 rfl ⟨rfl, rfl, rfl⟩

set_option maxRecDepth 65536 in
set_option maxHeartbeats 4000000 in
theorem c_tsInit {l : Launch} {Z : State} {a0 : Array Value} (G : Glob Z a0) {a ak ag : Addr} {ks gs : List Int32} (hz : 0 < ks.length) (hno : ∀ y ∈ ks, ¬ y = 58) : Con NR ELs l Z (⟨"com/example/shoalwork/shoalwork/task/TaskSpec", "<init>", "(Ljava/lang/String;Ljava/lang/String;)V"⟩ : MethodName) prog_31_method_1_code 3 (Option.none : Option Jvm.ClassFile.FieldType) ({ frames := 4, cells := 4, slots := 56, locals := 59 } : Room) [.ref a, .ref ak, .ref ag] [(a, .inl ("com/example/shoalwork/shoalwork/task/TaskSpec", [(("com/example/shoalwork/shoalwork/task/TaskSpec", "kind", "Ljava/lang/String;"), .null), (("com/example/shoalwork/shoalwork/task/TaskSpec", "argument", "Ljava/lang/String;"), .null)]))] [(ak, tO ks), (ag, tO gs)] (fun v O' FN => v = none ∧ O' = [(a, .inl ("com/example/shoalwork/shoalwork/task/TaskSpec", [(("com/example/shoalwork/shoalwork/task/TaskSpec", "kind", "Ljava/lang/String;"), .ref ak), (("com/example/shoalwork/shoalwork/task/TaskSpec", "argument", "Ljava/lang/String;"), .ref ag)]))] ∧ FN = []) := by
  have hw := G.1
  refine Con.intro (own := "com/example/shoalwork/shoalwork/task/TaskSpec") (name := "<init>") (plainFor_of_name pn7) rfl rfl ⟨_, G.2.1⟩ #[.val (.ref a), .val (.ref ak), .val (.ref ag)] rfl ?_
  intro p e s m below meth c T N
  obtain ⟨hc_ak, bk, N⟩ := N.openR 0 rfl
  replace N := N.cast3 (O' := [(a, .inl ("com/example/shoalwork/shoalwork/task/TaskSpec", [(("com/example/shoalwork/shoalwork/task/TaskSpec", "kind", "Ljava/lang/String;"), .null), (("com/example/shoalwork/shoalwork/task/TaskSpec", "argument", "Ljava/lang/String;"), .null)]))]) (RO' := [(ak, tO ks), (ag, tO gs), (ak, sO bk), (bk, aO .byte (((ks).map by8).map Value.int))]) (FZ' := []) rfl rfl rfl
  refine N.aloadN (pc := 0) d23_0 rfl rfl ?_
  refine N.callI (pc := 1) (c_recInit G (a := a)) [] [] d23_1 rfl (w43 hw) (w44 hw) (w46 hw) (w47 hw) (by decide) pd13 rfl (st := []) rfl rfl rfl (by decide) (by decide) (ltAll rfl) rfl (Nat.le_of_ble_eq_true rfl) (Nat.le_of_ble_eq_true rfl) (Nat.le_of_ble_eq_true rfl) (Nat.le_of_ble_eq_true rfl) fun v O' FN vm T hQ N => ?_
  obtain ⟨rfl, rfl, rfl⟩ := hQ
  replace N := N.cast3 (O' := [(a, .inl ("com/example/shoalwork/shoalwork/task/TaskSpec", [(("com/example/shoalwork/shoalwork/task/TaskSpec", "kind", "Ljava/lang/String;"), .null), (("com/example/shoalwork/shoalwork/task/TaskSpec", "argument", "Ljava/lang/String;"), .null)]))]) (RO' := [(ak, tO ks), (ag, tO gs), (ak, sO bk), (bk, aO .byte (((ks).map by8).map Value.int))]) (FZ' := []) rfl rfl rfl
  show Goes p e below _ (T.setTop (mkF m 4 #[.val (.ref a), .val (.ref ak), .val (.ref ag)] []))
  refine N.aloadN (pc := 4) d23_4 rfl rfl ?_
  refine N.ldc (pc := 5) (nn := 16) (text := "kind") (vs := [.int 107, .int 105, .int 110, .int 100]) (z := 4) d23_5 (w49 hw) G.wS G.2.1 (List.mem_of_getElem? (i := 0) rfl) rfl G.sl ⟨by decide +kernel, by decide +kernel⟩ (by decide) rfl (by decide +kernel) (by decide) (Nat.le_of_ble_eq_true rfl) (Nat.le_of_ble_eq_true rfl) fun s11 t12 vm T N => ?_
  replace N := N.cast3 (O' := [(a, .inl ("com/example/shoalwork/shoalwork/task/TaskSpec", [(("com/example/shoalwork/shoalwork/task/TaskSpec", "kind", "Ljava/lang/String;"), .null), (("com/example/shoalwork/shoalwork/task/TaskSpec", "argument", "Ljava/lang/String;"), .null)]))]) (RO' := [(ak, tO ks), (ag, tO gs), (ak, sO bk), (bk, aO .byte (((ks).map by8).map Value.int))]) (FZ' := [(s11, sO t12), (t12, aO .byte [.int 107, .int 105, .int 110, .int 100])]) rfl rfl rfl
  refine N.callS (pc := 7) (c_requireNonNull G (a := ak) (b := s11)) [] [] d23_7 (w52 hw) (w53 hw) (w54 hw) (w55 hw) (by decide) pd14 rfl (st := []) rfl rfl rfl (by decide) (by decide) (ltAll rfl) rfl (Nat.le_of_ble_eq_true rfl) (Nat.le_of_ble_eq_true rfl) (Nat.le_of_ble_eq_true rfl) (Nat.le_of_ble_eq_true rfl) fun v O' FN vm T hQ N => ?_
  obtain ⟨rfl, rfl, rfl⟩ := hQ
  replace N := N.cast3 (O' := [(a, .inl ("com/example/shoalwork/shoalwork/task/TaskSpec", [(("com/example/shoalwork/shoalwork/task/TaskSpec", "kind", "Ljava/lang/String;"), .null), (("com/example/shoalwork/shoalwork/task/TaskSpec", "argument", "Ljava/lang/String;"), .null)]))]) (RO' := [(ak, tO ks), (ag, tO gs), (ak, sO bk), (bk, aO .byte (((ks).map by8).map Value.int))]) (FZ' := [(s11, sO t12), (t12, aO .byte [.int 107, .int 105, .int 110, .int 100])]) rfl rfl rfl
  show Goes p e below _ (T.setTop (mkF m 10 #[.val (.ref a), .val (.ref ak), .val (.ref ag)] [.ref ak]))
  refine N.pop (pc := 10) d23_10 rfl ?_
  refine N.aloadN (pc := 11) d23_11 rfl rfl ?_
  refine N.ldc (pc := 12) (nn := 32) (text := "argument") (vs := [.int 97, .int 114, .int 103, .int 117, .int 109, .int 101, .int 110, .int 116]) (z := 8) d23_12 (w56 hw) G.wS G.2.1 (List.mem_of_getElem? (i := 1) rfl) rfl G.sl ⟨by decide +kernel, by decide +kernel⟩ (by decide) rfl (by decide +kernel) (by decide) (Nat.le_of_ble_eq_true rfl) (Nat.le_of_ble_eq_true rfl) fun s13 t14 vm T N => ?_
  replace N := N.cast3 (O' := [(a, .inl ("com/example/shoalwork/shoalwork/task/TaskSpec", [(("com/example/shoalwork/shoalwork/task/TaskSpec", "kind", "Ljava/lang/String;"), .null), (("com/example/shoalwork/shoalwork/task/TaskSpec", "argument", "Ljava/lang/String;"), .null)]))]) (RO' := [(ak, tO ks), (ag, tO gs), (ak, sO bk), (bk, aO .byte (((ks).map by8).map Value.int))]) (FZ' := [(s11, sO t12), (t12, aO .byte [.int 107, .int 105, .int 110, .int 100]), (s13, sO t14), (t14, aO .byte [.int 97, .int 114, .int 103, .int 117, .int 109, .int 101, .int 110, .int 116])]) rfl rfl rfl
  refine N.callS (pc := 14) (c_requireNonNull G (a := ag) (b := s13)) [] [] d23_14 (w52 hw) (w53 hw) (w54 hw) (w55 hw) (by decide) pd14 rfl (st := []) rfl rfl rfl (by decide) (by decide) (ltAll rfl) rfl (Nat.le_of_ble_eq_true rfl) (Nat.le_of_ble_eq_true rfl) (Nat.le_of_ble_eq_true rfl) (Nat.le_of_ble_eq_true rfl) fun v O' FN vm T hQ N => ?_
  obtain ⟨rfl, rfl, rfl⟩ := hQ
  replace N := N.cast3 (O' := [(a, .inl ("com/example/shoalwork/shoalwork/task/TaskSpec", [(("com/example/shoalwork/shoalwork/task/TaskSpec", "kind", "Ljava/lang/String;"), .null), (("com/example/shoalwork/shoalwork/task/TaskSpec", "argument", "Ljava/lang/String;"), .null)]))]) (RO' := [(ak, tO ks), (ag, tO gs), (ak, sO bk), (bk, aO .byte (((ks).map by8).map Value.int))]) (FZ' := [(s11, sO t12), (t12, aO .byte [.int 107, .int 105, .int 110, .int 100]), (s13, sO t14), (t14, aO .byte [.int 97, .int 114, .int 103, .int 117, .int 109, .int 101, .int 110, .int 116])]) rfl rfl rfl
  show Goes p e below _ (T.setTop (mkF m 17 #[.val (.ref a), .val (.ref ak), .val (.ref ag)] [.ref ag]))
  refine N.pop (pc := 17) d23_17 rfl ?_
  refine N.aloadN (pc := 18) d23_18 rfl rfl ?_
  refine N.callV (pc := 19) (c_isEmpty G (a := ak) (cs := ks) hz) 3 [] [1] d23_19 (w57 hw) (w58 hw) (w60 hw) (w59 hw) (w10 hw) (w61 hw) rfl (by decide) pd8 rfl (st := []) rfl rfl rfl (by decide) (by decide) (ltAll rfl) rfl (Nat.le_of_ble_eq_true rfl) (Nat.le_of_ble_eq_true rfl) (Nat.le_of_ble_eq_true rfl) (Nat.le_of_ble_eq_true rfl) fun v O' FN vm T hQ N => ?_
  obtain ⟨rfl, rfl, rfl⟩ := hQ
  replace N := N.cast3 (O' := [(a, .inl ("com/example/shoalwork/shoalwork/task/TaskSpec", [(("com/example/shoalwork/shoalwork/task/TaskSpec", "kind", "Ljava/lang/String;"), .null), (("com/example/shoalwork/shoalwork/task/TaskSpec", "argument", "Ljava/lang/String;"), .null)]))]) (RO' := [(ak, tO ks), (ag, tO gs), (ak, sO bk), (bk, aO .byte (((ks).map by8).map Value.int))]) (FZ' := [(s11, sO t12), (t12, aO .byte [.int 107, .int 105, .int 110, .int 100]), (s13, sO t14), (t14, aO .byte [.int 97, .int 114, .int 103, .int 117, .int 109, .int 101, .int 110, .int 116])]) rfl rfl rfl
  show Goes p e below _ (T.setTop (mkF m 22 #[.val (.ref a), .val (.ref ak), .val (.ref ag)] [.int 0]))
  refine N.ifneF (pc := 22) d23_22 rfl ?_
  refine N.aloadN (pc := 25) d23_25 rfl rfl ?_
  refine N.bipush (pc := 26) 58 d23_26 rfl ?_
  refine N.callV (pc := 28) (c_indexOf1 G (cs := ks) (r := ks.length) (x := 58) (rv := -1) lat58 (Nat.le_refl _) (fun y hy => hno y (List.mem_of_mem_take hy)) (fun h => absurd h (Nat.lt_irrefl _)) (if_neg (Nat.lt_irrefl _)) (a := ak)) 3 [] [1] d23_28 (w62 hw) (w63 hw) (w65 hw) (w64 hw) (w10 hw) (w66 hw) rfl (by decide) pd15 rfl (st := []) rfl rfl rfl (by decide) (by decide) (ltAll rfl) rfl (Nat.le_of_ble_eq_true rfl) (Nat.le_of_ble_eq_true rfl) (Nat.le_of_ble_eq_true rfl) (Nat.le_of_ble_eq_true rfl) fun v O' FN vm T hQ N => ?_
  obtain ⟨rfl, rfl, rfl⟩ := hQ
  replace N := N.cast3 (O' := [(a, .inl ("com/example/shoalwork/shoalwork/task/TaskSpec", [(("com/example/shoalwork/shoalwork/task/TaskSpec", "kind", "Ljava/lang/String;"), .null), (("com/example/shoalwork/shoalwork/task/TaskSpec", "argument", "Ljava/lang/String;"), .null)]))]) (RO' := [(ak, tO ks), (ag, tO gs), (ak, sO bk), (bk, aO .byte (((ks).map by8).map Value.int))]) (FZ' := [(s11, sO t12), (t12, aO .byte [.int 107, .int 105, .int 110, .int 100]), (s13, sO t14), (t14, aO .byte [.int 97, .int 114, .int 103, .int 117, .int 109, .int 101, .int 110, .int 116])]) rfl rfl rfl
  show Goes p e below _ (T.setTop (mkF m 31 #[.val (.ref a), .val (.ref ak), .val (.ref ag)] [.int (-1)]))
  refine N.ifltT (pc := 31) (pc' := 66) d23_31 rfl (by decide) ?_
  refine N.aloadN (pc := 66) d23_66 rfl rfl ?_
  refine N.aloadN (pc := 67) d23_67 rfl rfl ?_
  refine N.putfield (pc := 68) (O' := [(a, .inl ("com/example/shoalwork/shoalwork/task/TaskSpec", [(("com/example/shoalwork/shoalwork/task/TaskSpec", "kind", "Ljava/lang/String;"), .ref ak), (("com/example/shoalwork/shoalwork/task/TaskSpec", "argument", "Ljava/lang/String;"), .null)]))]) 0 0 d23_68 (w104 hw) Via.refl (Or.inr ⟨(w105 hw), rfl, rfl⟩) (w38 hw) rfl rfl (ty := (.object "java/lang/String")) (by decide) rfl rfl rfl fun T N => ?_
  refine N.aloadN (pc := 71) d23_71 rfl rfl ?_
  refine N.aloadN (pc := 72) d23_72 rfl rfl ?_
  refine N.putfield (pc := 73) (O' := [(a, .inl ("com/example/shoalwork/shoalwork/task/TaskSpec", [(("com/example/shoalwork/shoalwork/task/TaskSpec", "kind", "Ljava/lang/String;"), .ref ak), (("com/example/shoalwork/shoalwork/task/TaskSpec", "argument", "Ljava/lang/String;"), .ref ag)]))]) 0 1 d23_73 (w106 hw) Via.refl (Or.inr ⟨(w107 hw), rfl, rfl⟩) (w38 hw) rfl rfl (ty := (.object "java/lang/String")) (by decide) rfl rfl rfl fun T N => ?_
  exact N.retV (pc := 76) [] (List.forall_mem_cons.mpr ⟨List.mem_of_getElem? (i := 0) rfl, (List.forall_mem_cons.mpr ⟨List.mem_of_getElem? (i := 1) rfl, (List.forall_mem_nil _)⟩)⟩) (List.forall_mem_nil _) (Nat.le_of_ble_eq_true rfl) (Nat.le_of_ble_eq_true rfl) d23_76 rfl ⟨rfl, rfl, rfl⟩

set_option maxRecDepth 65536 in
set_option maxHeartbeats 4000000 in
theorem c_asbInit {l : Launch} {Z : State} {a0 : Array Value} (G : Glob Z a0) {a : Addr} : Con NR ELs l Z (⟨"java/lang/AbstractStringBuilder", "<init>", "(I)V"⟩ : MethodName) jdk_68_method_2_code 2 (Option.none : Option Jvm.ClassFile.FieldType) ({ frames := 1, cells := 1, slots := 16, locals := 12 } : Room) [.ref a, .int 16] [(a, .inl ("java/lang/StringBuilder", [(("java/lang/AbstractStringBuilder", "value", "[B"), .null), (("java/lang/AbstractStringBuilder", "coder", "B"), .int 0), (("java/lang/AbstractStringBuilder", "count", "I"), .int 0)]))] [] (fun v O' FN => ∃ b, v = none ∧ O' = [(a, .inl ("java/lang/StringBuilder", [(("java/lang/AbstractStringBuilder", "value", "[B"), .ref b), (("java/lang/AbstractStringBuilder", "coder", "B"), .int 0), (("java/lang/AbstractStringBuilder", "count", "I"), .int 0)])), (b, aO .byte (sbA []))] ∧ FN = []) := by
  have hw := G.1
  refine Con.intro (own := "java/lang/AbstractStringBuilder") (name := "<init>") (plainFor_of_name pn8) rfl rfl ⟨_, G.2.1⟩ #[.val (.ref a), .val (.int 16)] rfl ?_
  intro p e s m below meth c T N
  refine N.aloadN (pc := 0) d24_0 rfl rfl ?_
  refine N.objInit (pc := 1) d24_1 (w125 hw) (w19 hw) (w20 hw) rfl (Nat.le_of_ble_eq_true rfl) (Nat.le_of_ble_eq_true rfl) fun T N => ?_
  obtain ⟨cv, hcv, hS⟩ := G.compact
  refine N.getstatic (pc := 4) d24_4 (w126 hw) Via.refl hS fun T N => ?_
  refine N.ifeqF (pc := 7) d24_7 hcv ?_
  refine N.aloadN (pc := 10) d24_10 rfl rfl ?_
  refine N.iloadN (pc := 11) d24_11 rfl ?_
  refine N.newarray (pc := 12) 16 16 d24_12 (w26 hw) rfl (by decide) (Nat.le_of_ble_eq_true rfl) (Nat.le_of_ble_eq_true rfl) (Nat.le_of_ble_eq_true rfl) (Nat.le_of_ble_eq_true rfl) fun a15 T l_a15 N => ?_
  replace N := N.cast (O' := [(a, .inl ("java/lang/StringBuilder", [(("java/lang/AbstractStringBuilder", "value", "[B"), .null), (("java/lang/AbstractStringBuilder", "coder", "B"), .int 0), (("java/lang/AbstractStringBuilder", "count", "I"), .int 0)])), (a15, aO .byte [.int 0, .int 0, .int 0, .int 0, .int 0, .int 0, .int 0, .int 0, .int 0, .int 0, .int 0, .int 0, .int 0, .int 0, .int 0, .int 0])]) rfl
  refine N.putfield (pc := 14) (O' := [(a, .inl ("java/lang/StringBuilder", [(("java/lang/AbstractStringBuilder", "value", "[B"), .ref a15), (("java/lang/AbstractStringBuilder", "coder", "B"), .int 0), (("java/lang/AbstractStringBuilder", "count", "I"), .int 0)])), (a15, aO .byte [.int 0, .int 0, .int 0, .int 0, .int 0, .int 0, .int 0, .int 0, .int 0, .int 0, .int 0, .int 0, .int 0, .int 0, .int 0, .int 0])]) 0 0 d24_14 (w127 hw) Via.refl (Or.inl (w128 hw)) (w114 hw) rfl rfl (ty := (.array .byte)) (by decide) rfl rfl rfl fun T N => ?_
  refine N.aloadN (pc := 17) d24_17 rfl rfl ?_
  refine N.iconst (pc := 18) 0 d24_18 rfl ?_
  refine N.putfield (pc := 19) (O' := [(a, .inl ("java/lang/StringBuilder", [(("java/lang/AbstractStringBuilder", "value", "[B"), .ref a15), (("java/lang/AbstractStringBuilder", "coder", "B"), .int 0), (("java/lang/AbstractStringBuilder", "count", "I"), .int 0)])), (a15, aO .byte [.int 0, .int 0, .int 0, .int 0, .int 0, .int 0, .int 0, .int 0, .int 0, .int 0, .int 0, .int 0, .int 0, .int 0, .int 0, .int 0])]) 0 1 d24_19 (w129 hw) Via.refl (Or.inl (w130 hw)) (w114 hw) rfl rfl (ty := .byte) (by decide) rfl rfl rfl fun T N => ?_
  refine N.goto (pc := 22) (pc' := 38) d24_22 rfl ?_
  exact N.retV (pc := 38) [] (fun _ h => h) (List.forall_mem_nil _) (Nat.le_of_ble_eq_true rfl) (Nat.le_of_ble_eq_true rfl) d24_38 rfl ⟨_, rfl, rfl, rfl⟩

set_option maxRecDepth 65536 in
set_option maxHeartbeats 4000000 in
theorem c_sbInit {l : Launch} {Z : State} {a0 : Array Value} (G : Glob Z a0) {a : Addr} : Con NR ELs l Z (⟨"java/lang/StringBuilder", "<init>", "()V"⟩ : MethodName) jdk_67_method_1_code 1 (Option.none : Option Jvm.ClassFile.FieldType) ({ frames := 2, cells := 1, slots := 16, locals := 25 } : Room) [.ref a] [(a, .inl ("java/lang/StringBuilder", [(("java/lang/AbstractStringBuilder", "value", "[B"), .null), (("java/lang/AbstractStringBuilder", "coder", "B"), .int 0), (("java/lang/AbstractStringBuilder", "count", "I"), .int 0)]))] [] (fun v O' FN => ∃ b, v = none ∧ O' = [(a, .inl ("java/lang/StringBuilder", [(("java/lang/AbstractStringBuilder", "value", "[B"), .ref b), (("java/lang/AbstractStringBuilder", "coder", "B"), .int 0), (("java/lang/AbstractStringBuilder", "count", "I"), .int 0)])), (b, aO .byte (sbA []))] ∧ FN = []) := by
  have hw := G.1
  refine Con.intro (own := "java/lang/StringBuilder") (name := "<init>") (plainFor_of_name pn9) rfl rfl ⟨_, G.2.1⟩ #[.val (.ref a)] rfl ?_
  intro p e s m below meth c T N
  refine N.aloadN (pc := 0) d25_0 rfl rfl ?_
  refine N.bipush (pc := 1) 16 d25_1 rfl ?_
  refine N.callI (pc := 3) (c_asbInit G (a := a)) [0] [] d25_3 rfl (w119 hw) (w120 hw) (w123 hw) (w124 hw) (by decide) pd16 rfl (st := []) rfl rfl rfl (by decide) (by decide) (ltAll rfl) rfl (Nat.le_of_ble_eq_true rfl) (Nat.le_of_ble_eq_true rfl) (Nat.le_of_ble_eq_true rfl) (Nat.le_of_ble_eq_true rfl) fun v O' FN vm T hQ N => ?_
  obtain ⟨b, rfl, rfl, rfl⟩ := hQ
  replace N := N.cast3 (O' := [(a, .inl ("java/lang/StringBuilder", [(("java/lang/AbstractStringBuilder", "value", "[B"), .ref b), (("java/lang/AbstractStringBuilder", "coder", "B"), .int 0), (("java/lang/AbstractStringBuilder", "count", "I"), .int 0)])), (b, aO .byte (sbA []))]) (RO' := []) (FZ' := []) rfl rfl rfl
  show Goes p e below _ (T.setTop (mkF m 6 #[.val (.ref a)] []))
  exact N.retV (pc := 6) [] (fun _ h => h) (List.forall_mem_nil _) (Nat.le_of_ble_eq_true rfl) (Nat.le_of_ble_eq_true rfl) d25_6 rfl ⟨_, rfl, rfl, rfl⟩

set_option maxRecDepth 65536 in
set_option maxHeartbeats 4000000 in
theorem c_ensure {l : Launch} {Z : State} {a0 : Array Value} (G : Glob Z a0) {a b : Addr} {z : Int32} {vs : List Value} {n : Nat} (hv : vs.length = 16) (hn : n ≤ 16) : Con NR ELs l Z (⟨"java/lang/AbstractStringBuilder", "ensureCapacityInternal", "(I)V"⟩ : MethodName) jdk_68_method_9_code 3 (Option.none : Option Jvm.ClassFile.FieldType) ({ frames := 0, cells := 0, slots := 0, locals := 0 } : Room) [.ref a, .int n.toInt32] [] [(a, .inl ("java/lang/StringBuilder", [(("java/lang/AbstractStringBuilder", "value", "[B"), .ref b), (("java/lang/AbstractStringBuilder", "coder", "B"), .int 0), (("java/lang/AbstractStringBuilder", "count", "I"), .int z)])), (b, aO .byte vs)] (fun v O' FN => v = none ∧ O' = [] ∧ FN = []) := by
  have hw := G.1
  refine Con.intro (own := "java/lang/AbstractStringBuilder") (name := "ensureCapacityInternal") (plainFor_of_name pn8) rfl rfl ⟨_, G.2.1⟩ #[.val (.ref a), .val (.int n.toInt32), .unset] rfl ?_
  intro p e s m below meth c T N
  refine N.aloadN (pc := 0) d26_0 rfl rfl ?_
  refine N.getfield (pc := 1) 0 d26_1 (w127 hw) Via.refl rfl (List.mem_of_getElem? (i := 0) rfl) fun T N => ?_
  refine N.arraylength (pc := 4) 16 1 d26_4 rfl (by rw [hv]; rfl) ?_
  refine N.aloadN (pc := 5) d26_5 rfl rfl ?_
  refine N.getfield (pc := 6) 0 d26_6 (w129 hw) Via.refl rfl (List.mem_of_getElem? (i := 1) rfl) fun T N => ?_
  refine N.ishr (pc := 9) d26_9 ?_
  rw [sh0]
  refine N.istoreN (pc := 10) (l' := #[.val (.ref a), .val (.int n.toInt32), .val (.int 16)]) d26_10 rfl ?_
  refine N.iloadN (pc := 11) d26_11 rfl ?_
  refine N.iloadN (pc := 12) d26_12 rfl ?_
  refine N.isub (pc := 13) d26_13 ?_
  refine N.ifleT (pc := 14) (pc' := 38) d26_14 rfl (le16 hn) ?_
  exact N.retV (pc := 38) [] (fun _ h => h) (List.forall_mem_nil _) (Nat.le_of_ble_eq_true rfl) (Nat.le_of_ble_eq_true rfl) d26_38 rfl ⟨rfl, rfl, rfl⟩

set_option maxRecDepth 65536 in
set_option maxHeartbeats 4000000 in
theorem c_inflate {l : Launch} {Z : State} {a0 : Array Value} (G : Glob Z a0) {a b x y : Addr} {z : Int32} : Con NR ELs l Z (⟨"java/lang/AbstractStringBuilder", "inflateIfNeededFor", "(Ljava/lang/String;)V"⟩ : MethodName) jdk_68_method_71_code 2 (Option.none : Option Jvm.ClassFile.FieldType) ({ frames := 1, cells := 0, slots := 0, locals := 13 } : Room) [.ref a, .ref x] [] [(a, .inl ("java/lang/StringBuilder", [(("java/lang/AbstractStringBuilder", "value", "[B"), .ref b), (("java/lang/AbstractStringBuilder", "coder", "B"), .int 0), (("java/lang/AbstractStringBuilder", "count", "I"), .int z)])), (x, sO y)] (fun v O' FN => v = none ∧ O' = [] ∧ FN = []) := by
  have hw := G.1
  refine Con.intro (own := "java/lang/AbstractStringBuilder") (name := "inflateIfNeededFor") (plainFor_of_name pn8) rfl rfl ⟨_, G.2.1⟩ #[.val (.ref a), .val (.ref x)] rfl ?_
  intro p e s m below meth c T N
  obtain ⟨cv, hcv, hS⟩ := G.compact
  refine N.getstatic (pc := 0) d27_0 (w126 hw) Via.refl hS fun T N => ?_
  refine N.ifeqF (pc := 3) d27_3 hcv ?_
  refine N.aloadN (pc := 6) d27_6 rfl rfl ?_
  refine N.getfield (pc := 7) 0 d27_7 (w129 hw) Via.refl rfl (List.mem_of_getElem? (i := 1) rfl) fun T N => ?_
  refine N.aloadN (pc := 10) d27_10 rfl rfl ?_
  refine N.callV (pc := 11) (c_coder G (a := x) (b := y)) 1 [] [1] d27_11 (w159 hw) (w83 hw) (w85 hw) (w84 hw) (w10 hw) (w86 hw) rfl (by decide) pd4 rfl (st := [.int 0]) rfl rfl rfl (by decide) (by decide) (ltAll rfl) rfl (Nat.le_of_ble_eq_true rfl) (Nat.le_of_ble_eq_true rfl) (Nat.le_of_ble_eq_true rfl) (Nat.le_of_ble_eq_true rfl) fun v O' FN vm T hQ N => ?_
  obtain ⟨rfl, rfl, rfl⟩ := hQ
  replace N := N.cast3 (O' := []) (RO' := [(a, .inl ("java/lang/StringBuilder", [(("java/lang/AbstractStringBuilder", "value", "[B"), .ref b), (("java/lang/AbstractStringBuilder", "coder", "B"), .int 0), (("java/lang/AbstractStringBuilder", "count", "I"), .int z)])), (x, sO y)]) (FZ' := []) rfl rfl rfl
  show Goes p e below _ (T.setTop (mkF m 14 #[.val (.ref a), .val (.ref x)] [.int 0, .int 0]))
  refine N.icmpeqT (pc := 14) (pc' := 21) d27_14 rfl rfl ?_
  exact N.retV (pc := 21) [] (fun _ h => h) (List.forall_mem_nil _) (Nat.le_of_ble_eq_true rfl) (Nat.le_of_ble_eq_true rfl) d27_21 rfl ⟨rfl, rfl, rfl⟩

set_option maxRecDepth 65536 in
set_option maxHeartbeats 4000000 in
theorem c_getBytes {l : Launch} {Z : State} {a0 : Array Value} (G : Glob Z a0) {b x : Addr} {cs xs : List Int32} (h : cs.length + xs.length ≤ 16) : Con NR ELs l Z (⟨"java/lang/String", "getBytes", "([BIB)V"⟩ : MethodName) jdk_42_method_147_code 4 (Option.none : Option Jvm.ClassFile.FieldType) ({ frames := 1, cells := 0, slots := 0, locals := 18 } : Room) [.ref x, .ref b, .int cs.length.toInt32, .int 0] [(b, aO .byte (sbA cs))] [(x, tO xs)] (fun v O' FN => v = none ∧ O' = [(b, aO .byte (sbA (cs ++ xs)))] ∧ FN = []) := by
  have hw := G.1
  refine Con.intro (own := "java/lang/String") (name := "getBytes") (plainFor_of_name pn1) rfl rfl ⟨_, G.2.1⟩ #[.val (.ref x), .val (.ref b), .val (.int cs.length.toInt32), .val (.int 0)] rfl ?_
  intro p e s m below meth c T N
  obtain ⟨hc_x, y, N⟩ := N.openR 0 rfl
  replace N := N.cast3 (O' := [(b, aO .byte (sbA cs))]) (RO' := [(x, tO xs), (x, sO y), (y, aO .byte (((xs).map by8).map Value.int))]) (FZ' := []) rfl rfl rfl
  have hx31 : xs.length < 2 ^ 31 := by omega
  have hc31 : cs.length < 2 ^ 31 := by omega
  have h16 := sbA_len (cs := cs) (by omega)
  refine N.aloadN (pc := 0) d28_0 rfl rfl ?_
  refine N.callV (pc := 1) (c_coder G (a := x) (b := y)) 2 [] [2] d28_1 (w82 hw) (w83 hw) (w85 hw) (w84 hw) (w10 hw) (w86 hw) rfl (by decide) pd4 rfl (st := []) rfl rfl rfl (by decide) (by decide) (ltAll rfl) rfl (Nat.le_of_ble_eq_true rfl) (Nat.le_of_ble_eq_true rfl) (Nat.le_of_ble_eq_true rfl) (Nat.le_of_ble_eq_true rfl) fun v O' FN vm T hQ N => ?_
  obtain ⟨rfl, rfl, rfl⟩ := hQ
  replace N := N.cast3 (O' := [(b, aO .byte (sbA cs))]) (RO' := [(x, tO xs), (x, sO y), (y, aO .byte (((xs).map by8).map Value.int))]) (FZ' := []) rfl rfl rfl
  show Goes p e below _ (T.setTop (mkF m 4 #[.val (.ref x), .val (.ref b), .val (.int cs.length.toInt32), .val (.int 0)] [.int 0]))
  refine N.iloadN (pc := 4) d28_4 rfl ?_
  refine N.icmpneF (pc := 5) d28_5 rfl ?_
  refine N.aloadN (pc := 8) d28_8 rfl rfl ?_
  refine N.getfield (pc := 9) 2 d28_9 (w35 hw) Via.refl rfl (List.mem_of_getElem? (i := 0) rfl) fun T N => ?_
  refine N.iconst (pc := 12) 0 d28_12 rfl ?_
  refine N.aloadN (pc := 13) d28_13 rfl rfl ?_
  refine N.iloadN (pc := 14) d28_14 rfl ?_
  refine N.iloadN (pc := 15) d28_15 rfl ?_
  refine N.ishl (pc := 16) d28_16 ?_
  rw [shl0]
  refine N.aloadN (pc := 17) d28_17 rfl rfl ?_
  refine N.getfield (pc := 18) 2 d28_18 (w35 hw) Via.refl rfl (List.mem_of_getElem? (i := 0) rfl) fun T N => ?_
  refine N.arraylength (pc := 21) xs.length.toInt32 3 d28_21 rfl (by rw [List.length_map, List.length_map]) ?_
  refine N.arraycopy (pc := 22) (O' := [(b, aO .byte (sbA (cs ++ xs)))]) 3 0 0 cs.length xs.length d28_22 (w165 hw) (w168 hw) (w166 hw) (w167 hw) rfl rfl rfl (fun C q => by cases q) rfl (by decide) (n_nat hc31) (n_nneg hc31) (n_nat hx31) (n_nneg hx31) (by simp) (by rw [h16]; exact h) (ud := sbA (cs ++ xs)) (sbA_put h) rfl rfl (Nat.le_of_ble_eq_true rfl) (Nat.le_of_ble_eq_true rfl) fun T N => ?_
  refine N.goto (pc := 25) (pc' := 43) d28_25 rfl ?_
  exact N.retV (pc := 43) [] (List.forall_mem_cons.mpr ⟨List.mem_of_getElem? (i := 0) rfl, (List.forall_mem_nil _)⟩) (List.forall_mem_nil _) (Nat.le_of_ble_eq_true rfl) (Nat.le_of_ble_eq_true rfl) d28_43 rfl ⟨rfl, rfl, rfl⟩

set_option maxRecDepth 65536 in
set_option maxHeartbeats 4000000 in
theorem c_putStringAt {l : Launch} {Z : State} {a0 : Array Value} (G : Glob Z a0) {a b x : Addr} {cs xs : List Int32} (h : cs.length + xs.length ≤ 16) : Con NR ELs l Z (⟨"java/lang/AbstractStringBuilder", "putStringAt", "(ILjava/lang/String;)V"⟩ : MethodName) jdk_68_method_73_code 3 (Option.none : Option Jvm.ClassFile.FieldType) ({ frames := 2, cells := 0, slots := 0, locals := 33 } : Room) [.ref a, .int cs.length.toInt32, .ref x] [(b, aO .byte (sbA cs))] [(a, .inl ("java/lang/StringBuilder", [(("java/lang/AbstractStringBuilder", "value", "[B"), .ref b), (("java/lang/AbstractStringBuilder", "coder", "B"), .int 0), (("java/lang/AbstractStringBuilder", "count", "I"), .int cs.length.toInt32)])), (x, tO xs)] (fun v O' FN => v = none ∧ O' = [(b, aO .byte (sbA (cs ++ xs)))] ∧ FN = []) := by
  have hw := G.1
  refine Con.intro (own := "java/lang/AbstractStringBuilder") (name := "putStringAt") (plainFor_of_name pn8) rfl rfl ⟨_, G.2.1⟩ #[.val (.ref a), .val (.int cs.length.toInt32), .val (.ref x)] rfl ?_
  intro p e s m below meth c T N
  obtain ⟨hc_x, y, N⟩ := N.openR 1 rfl
  replace N := N.cast3 (O' := [(b, aO .byte (sbA cs))]) (RO' := [(a, .inl ("java/lang/StringBuilder", [(("java/lang/AbstractStringBuilder", "value", "[B"), .ref b), (("java/lang/AbstractStringBuilder", "coder", "B"), .int 0), (("java/lang/AbstractStringBuilder", "count", "I"), .int cs.length.toInt32)])), (x, tO xs), (x, sO y), (y, aO .byte (((xs).map by8).map Value.int))]) (FZ' := []) rfl rfl rfl
  refine N.aloadN (pc := 0) d29_0 rfl rfl ?_
  refine N.aloadN (pc := 1) d29_1 rfl rfl ?_
  refine N.callV (pc := 2) (c_inflate G (a := a) (b := b) (x := x) (y := y) (z := cs.length.toInt32)) 1 [] [1, 3] d29_2 (w154 hw) (decl_of (w155 hw) (w158 hw)) (w157 hw) (w155 hw) (w123 hw) (w158 hw) rfl (by decide) pd17 rfl (st := []) rfl rfl rfl (by decide) (by decide) (ltAll rfl) rfl (Nat.le_of_ble_eq_true rfl) (Nat.le_of_ble_eq_true rfl) (Nat.le_of_ble_eq_true rfl) (Nat.le_of_ble_eq_true rfl) fun v O' FN vm T hQ N => ?_
  obtain ⟨rfl, rfl, rfl⟩ := hQ
  replace N := N.cast3 (O' := [(b, aO .byte (sbA cs))]) (RO' := [(a, .inl ("java/lang/StringBuilder", [(("java/lang/AbstractStringBuilder", "value", "[B"), .ref b), (("java/lang/AbstractStringBuilder", "coder", "B"), .int 0), (("java/lang/AbstractStringBuilder", "count", "I"), .int cs.length.toInt32)])), (x, tO xs), (x, sO y), (y, aO .byte (((xs).map by8).map Value.int))]) (FZ' := []) rfl rfl rfl
  show Goes p e below _ (T.setTop (mkF m 5 #[.val (.ref a), .val (.int cs.length.toInt32), .val (.ref x)] []))
  refine N.aloadN (pc := 5) d29_5 rfl rfl ?_
  refine N.aloadN (pc := 6) d29_6 rfl rfl ?_
  refine N.getfield (pc := 7) 1 d29_7 (w127 hw) Via.refl rfl (List.mem_of_getElem? (i := 0) rfl) fun T N => ?_
  refine N.iloadN (pc := 10) d29_10 rfl ?_
  refine N.aloadN (pc := 11) d29_11 rfl rfl ?_
  refine N.getfield (pc := 12) 1 d29_12 (w129 hw) Via.refl rfl (List.mem_of_getElem? (i := 1) rfl) fun T N => ?_
  refine N.callV (pc := 15) (c_getBytes G (b := b) (x := x) (cs := cs) (xs := xs) h) 3 [0] [2] d29_15 (w160 hw) (w161 hw) (w163 hw) (w162 hw) (w10 hw) (w164 hw) rfl (by decide) pd18 rfl (st := []) rfl rfl rfl (by decide) (by decide) (ltAll rfl) rfl (Nat.le_of_ble_eq_true rfl) (Nat.le_of_ble_eq_true rfl) (Nat.le_of_ble_eq_true rfl) (Nat.le_of_ble_eq_true rfl) fun v O' FN vm T hQ N => ?_
  obtain ⟨rfl, rfl, rfl⟩ := hQ
  replace N := N.cast3 (O' := [(b, aO .byte (sbA (cs ++ xs)))]) (RO' := [(a, .inl ("java/lang/StringBuilder", [(("java/lang/AbstractStringBuilder", "value", "[B"), .ref b), (("java/lang/AbstractStringBuilder", "coder", "B"), .int 0), (("java/lang/AbstractStringBuilder", "count", "I"), .int cs.length.toInt32)])), (x, tO xs), (x, sO y), (y, aO .byte (((xs).map by8).map Value.int))]) (FZ' := []) rfl rfl rfl
  show Goes p e below _ (T.setTop (mkF m 18 #[.val (.ref a), .val (.int cs.length.toInt32), .val (.ref x)] []))
  exact N.retV (pc := 18) [] (List.forall_mem_cons.mpr ⟨List.mem_of_getElem? (i := 0) rfl, (List.forall_mem_cons.mpr ⟨List.mem_of_getElem? (i := 1) rfl, (List.forall_mem_nil _)⟩)⟩) (List.forall_mem_nil _) (Nat.le_of_ble_eq_true rfl) (Nat.le_of_ble_eq_true rfl) d29_18 rfl ⟨rfl, rfl, rfl⟩

set_option maxRecDepth 65536 in
set_option maxHeartbeats 4000000 in
theorem c_asbAppend {l : Launch} {Z : State} {a0 : Array Value} (G : Glob Z a0) {a b x : Addr} {cs xs : List Int32} (h : cs.length + xs.length ≤ 16) : Con NR ELs l Z (⟨"java/lang/AbstractStringBuilder", "append", "(Ljava/lang/String;)Ljava/lang/AbstractStringBuilder;"⟩ : MethodName) jdk_68_method_22_code 3 (Option.some (Jvm.ClassFile.FieldType.object "java/lang/AbstractStringBuilder")) ({ frames := 3, cells := 0, slots := 0, locals := 47 } : Room) [.ref a, .ref x] [(a, .inl ("java/lang/StringBuilder", [(("java/lang/AbstractStringBuilder", "value", "[B"), .ref b), (("java/lang/AbstractStringBuilder", "coder", "B"), .int 0), (("java/lang/AbstractStringBuilder", "count", "I"), .int cs.length.toInt32)])), (b, aO .byte (sbA cs))] [(x, tO xs)] (fun v O' FN => v = some (.ref a) ∧ O' = [(a, .inl ("java/lang/StringBuilder", [(("java/lang/AbstractStringBuilder", "value", "[B"), .ref b), (("java/lang/AbstractStringBuilder", "coder", "B"), .int 0), (("java/lang/AbstractStringBuilder", "count", "I"), .int ((cs ++ xs).length.toInt32))])), (b, aO .byte (sbA (cs ++ xs)))] ∧ FN = []) := by
  have hw := G.1
  refine Con.intro (own := "java/lang/AbstractStringBuilder") (name := "append") (plainFor_of_name pn8) rfl rfl ⟨_, G.2.1⟩ #[.val (.ref a), .val (.ref x), .unset] rfl ?_
  intro p e s m below meth c T N
  obtain ⟨hc_x, y, N⟩ := N.openR 0 rfl
  replace N := N.cast3 (O' := [(a, .inl ("java/lang/StringBuilder", [(("java/lang/AbstractStringBuilder", "value", "[B"), .ref b), (("java/lang/AbstractStringBuilder", "coder", "B"), .int 0), (("java/lang/AbstractStringBuilder", "count", "I"), .int cs.length.toInt32)])), (b, aO .byte (sbA cs))]) (RO' := [(x, tO xs), (x, sO y), (y, aO .byte (((xs).map by8).map Value.int))]) (FZ' := []) rfl rfl rfl
  refine N.aloadN (pc := 0) d30_0 rfl rfl ?_
  refine N.ifnonnullT (pc := 1) (pc' := 9) d30_1 rfl ?_
  refine N.aloadN (pc := 9) d30_9 rfl rfl ?_
  refine N.callV (pc := 10) (c_length G (a := x) (cs := xs) rfl) 3 [] [2] d30_10 (w141 hw) (w78 hw) (w80 hw) (w79 hw) (w10 hw) (w81 hw) rfl (by decide) pd9 rfl (st := []) rfl rfl rfl (by decide) (by decide) (ltAll rfl) rfl (Nat.le_of_ble_eq_true rfl) (Nat.le_of_ble_eq_true rfl) (Nat.le_of_ble_eq_true rfl) (Nat.le_of_ble_eq_true rfl) fun v O' FN vm T hQ N => ?_
  obtain ⟨rfl, rfl, rfl⟩ := hQ
  replace N := N.cast3 (O' := [(a, .inl ("java/lang/StringBuilder", [(("java/lang/AbstractStringBuilder", "value", "[B"), .ref b), (("java/lang/AbstractStringBuilder", "coder", "B"), .int 0), (("java/lang/AbstractStringBuilder", "count", "I"), .int cs.length.toInt32)])), (b, aO .byte (sbA cs))]) (RO' := [(x, tO xs), (x, sO y), (y, aO .byte (((xs).map by8).map Value.int))]) (FZ' := []) rfl rfl rfl
  show Goes p e below _ (T.setTop (mkF m 13 #[.val (.ref a), .val (.ref x), .unset] [.int xs.length.toInt32]))
  refine N.istoreN (pc := 13) (l' := #[.val (.ref a), .val (.ref x), .val (.int xs.length.toInt32)]) d30_13 rfl ?_
  refine N.aloadN (pc := 14) d30_14 rfl rfl ?_
  refine N.aloadN (pc := 15) d30_15 rfl rfl ?_
  refine N.getfield (pc := 16) 0 d30_16 (w142 hw) Via.refl rfl (List.mem_of_getElem? (i := 2) rfl) fun T N => ?_
  refine N.iloadN (pc := 19) d30_19 rfl ?_
  refine N.iadd (pc := 20) d30_20 ?_
  rw [n_add]
  refine N.callV (pc := 21) (c_ensure G (a := a) (b := b) (z := cs.length.toInt32) (vs := sbA cs) (n := cs.length + xs.length) (sbA_len (by omega)) h) 0 [] [0, 1] d30_21 (w144 hw) (decl_of (w145 hw) (w148 hw)) (w147 hw) (w145 hw) (w123 hw) (w148 hw) rfl (by decide) pd16 rfl (st := []) rfl rfl rfl (by decide) (by decide) (ltAll rfl) rfl (Nat.le_of_ble_eq_true rfl) (Nat.le_of_ble_eq_true rfl) (Nat.le_of_ble_eq_true rfl) (Nat.le_of_ble_eq_true rfl) fun v O' FN vm T hQ N => ?_
  obtain ⟨rfl, rfl, rfl⟩ := hQ
  replace N := N.cast3 (O' := [(a, .inl ("java/lang/StringBuilder", [(("java/lang/AbstractStringBuilder", "value", "[B"), .ref b), (("java/lang/AbstractStringBuilder", "coder", "B"), .int 0), (("java/lang/AbstractStringBuilder", "count", "I"), .int cs.length.toInt32)])), (b, aO .byte (sbA cs))]) (RO' := [(x, tO xs), (x, sO y), (y, aO .byte (((xs).map by8).map Value.int))]) (FZ' := []) rfl rfl rfl
  show Goes p e below _ (T.setTop (mkF m 24 #[.val (.ref a), .val (.ref x), .val (.int xs.length.toInt32)] []))
  refine N.aloadN (pc := 24) d30_24 rfl rfl ?_
  refine N.aloadN (pc := 25) d30_25 rfl rfl ?_
  refine N.getfield (pc := 26) 0 d30_26 (w142 hw) Via.refl rfl (List.mem_of_getElem? (i := 2) rfl) fun T N => ?_
  refine N.aloadN (pc := 29) d30_29 rfl rfl ?_
  refine N.callV (pc := 30) (c_putStringAt G (a := a) (b := b) (x := x) (cs := cs) (xs := xs) h) 0 [1] [0, 2] d30_30 (w149 hw) (decl_of (w150 hw) (w153 hw)) (w152 hw) (w150 hw) (w123 hw) (w153 hw) rfl (by decide) pd19 rfl (st := []) rfl rfl rfl (by decide) (by decide) (ltAll rfl) rfl (Nat.le_of_ble_eq_true rfl) (Nat.le_of_ble_eq_true rfl) (Nat.le_of_ble_eq_true rfl) (Nat.le_of_ble_eq_true rfl) fun v O' FN vm T hQ N => ?_
  obtain ⟨rfl, rfl, rfl⟩ := hQ
  replace N := N.cast3 (O' := [(a, .inl ("java/lang/StringBuilder", [(("java/lang/AbstractStringBuilder", "value", "[B"), .ref b), (("java/lang/AbstractStringBuilder", "coder", "B"), .int 0), (("java/lang/AbstractStringBuilder", "count", "I"), .int cs.length.toInt32)])), (b, aO .byte (sbA (cs ++ xs)))]) (RO' := [(x, tO xs), (x, sO y), (y, aO .byte (((xs).map by8).map Value.int))]) (FZ' := []) rfl rfl rfl
  show Goes p e below _ (T.setTop (mkF m 33 #[.val (.ref a), .val (.ref x), .val (.int xs.length.toInt32)] []))
  refine N.aloadN (pc := 33) d30_33 rfl rfl ?_
  refine N.dup (pc := 34) d30_34 rfl ?_
  refine N.getfield (pc := 35) 0 d30_35 (w142 hw) Via.refl rfl (List.mem_of_getElem? (i := 2) rfl) fun T N => ?_
  refine N.iloadN (pc := 38) d30_38 rfl ?_
  refine N.iadd (pc := 39) d30_39 ?_
  rw [n_add, ← List.length_append]
  refine N.putfield (pc := 40) (O' := [(a, .inl ("java/lang/StringBuilder", [(("java/lang/AbstractStringBuilder", "value", "[B"), .ref b), (("java/lang/AbstractStringBuilder", "coder", "B"), .int 0), (("java/lang/AbstractStringBuilder", "count", "I"), .int ((cs ++ xs).length.toInt32))])), (b, aO .byte (sbA (cs ++ xs)))]) 0 2 d30_40 (w142 hw) Via.refl (Or.inl (w143 hw)) (w114 hw) rfl rfl (ty := .int) (by decide) rfl rfl rfl fun T N => ?_
  refine N.aloadN (pc := 43) d30_43 rfl rfl ?_
  exact N.areturn (pc := 44) [] (List.forall_mem_cons.mpr ⟨List.mem_of_getElem? (i := 0) rfl, (List.forall_mem_nil _)⟩) (List.forall_mem_nil _) (Nat.le_of_ble_eq_true rfl) (Nat.le_of_ble_eq_true rfl) (t := (.object "java/lang/AbstractStringBuilder")) d30_44 rfl rfl rfl rfl ⟨rfl, rfl, rfl⟩

set_option maxRecDepth 65536 in
set_option maxHeartbeats 4000000 in
theorem c_sbAppend {l : Launch} {Z : State} {a0 : Array Value} (G : Glob Z a0) {a b x : Addr} {cs xs : List Int32} (h : cs.length + xs.length ≤ 16) : Con NR ELs l Z (⟨"java/lang/StringBuilder", "append", "(Ljava/lang/String;)Ljava/lang/StringBuilder;"⟩ : MethodName) jdk_67_method_7_code 2 (Option.some (Jvm.ClassFile.FieldType.object "java/lang/StringBuilder")) ({ frames := 4, cells := 0, slots := 0, locals := 61 } : Room) [.ref a, .ref x] [(a, .inl ("java/lang/StringBuilder", [(("java/lang/AbstractStringBuilder", "value", "[B"), .ref b), (("java/lang/AbstractStringBuilder", "coder", "B"), .int 0), (("java/lang/AbstractStringBuilder", "count", "I"), .int cs.length.toInt32)])), (b, aO .byte (sbA cs))] [(x, tO xs)] (fun v O' FN => v = some (.ref a) ∧ O' = [(a, .inl ("java/lang/StringBuilder", [(("java/lang/AbstractStringBuilder", "value", "[B"), .ref b), (("java/lang/AbstractStringBuilder", "coder", "B"), .int 0), (("java/lang/AbstractStringBuilder", "count", "I"), .int ((cs ++ xs).length.toInt32))])), (b, aO .byte (sbA (cs ++ xs)))] ∧ FN = []) := by
  have hw := G.1
  refine Con.intro (own := "java/lang/StringBuilder") (name := "append") (plainFor_of_name pn9) rfl rfl ⟨_, G.2.1⟩ #[.val (.ref a), .val (.ref x)] rfl ?_
  intro p e s m below meth c T N
  refine N.aloadN (pc := 0) d31_0 rfl rfl ?_
  refine N.aloadN (pc := 1) d31_1 rfl rfl ?_
  refine N.callU (pc := 2) (c_asbAppend G (a := a) (b := b) (x := x) (cs := cs) (xs := xs) h) 0 [0, 1] [2] d31_2 (w136 hw) (w139 hw) (w137 hw) (w138 hw) (u := (⟨"java/lang/AbstractStringBuilder", "getValue", "()[B"⟩ : MethodName)) rfl (w185 hw) (w183 hw) (w122 hw) (by decide) (w123 hw) (w140 hw) rfl (by decide) pd20 rfl (st := []) rfl rfl rfl (by decide) (by decide) (ltAll rfl) rfl (Nat.le_of_ble_eq_true rfl) (Nat.le_of_ble_eq_true rfl) (Nat.le_of_ble_eq_true rfl) (Nat.le_of_ble_eq_true rfl) fun v O' FN vm T hQ N => ?_
  obtain ⟨rfl, rfl, rfl⟩ := hQ
  replace N := N.cast3 (O' := [(a, .inl ("java/lang/StringBuilder", [(("java/lang/AbstractStringBuilder", "value", "[B"), .ref b), (("java/lang/AbstractStringBuilder", "coder", "B"), .int 0), (("java/lang/AbstractStringBuilder", "count", "I"), .int ((cs ++ xs).length.toInt32))])), (b, aO .byte (sbA (cs ++ xs)))]) (RO' := [(x, tO xs)]) (FZ' := []) rfl rfl rfl
  show Goes p e below _ (T.setTop (mkF m 5 #[.val (.ref a), .val (.ref x)] [.ref a]))
  refine N.pop (pc := 5) d31_5 rfl ?_
  refine N.aloadN (pc := 6) d31_6 rfl rfl ?_
  exact N.areturn (pc := 7) [] (fun _ h => h) (List.forall_mem_nil _) (Nat.le_of_ble_eq_true rfl) (Nat.le_of_ble_eq_true rfl) (t := (.object "java/lang/StringBuilder")) d31_7 rfl rfl rfl rfl ⟨rfl, rfl, rfl⟩

set_option maxRecDepth 65536 in
set_option maxHeartbeats 4000000 in
theorem c_getValue {l : Launch} {Z : State} {a0 : Array Value} (G : Glob Z a0) {a b : Addr} {z : Int32} : Con NR ELs l Z (⟨"java/lang/AbstractStringBuilder", "getValue", "()[B"⟩ : MethodName) jdk_68_method_64_code 1 (Option.some (Jvm.ClassFile.FieldType.array Jvm.ClassFile.FieldType.byte)) ({ frames := 0, cells := 0, slots := 0, locals := 0 } : Room) [.ref a] [] [(a, .inl ("java/lang/StringBuilder", [(("java/lang/AbstractStringBuilder", "value", "[B"), .ref b), (("java/lang/AbstractStringBuilder", "coder", "B"), .int 0), (("java/lang/AbstractStringBuilder", "count", "I"), .int z)]))] (fun v O' FN => v = some (.ref b) ∧ O' = [] ∧ FN = []) := by
  have hw := G.1
  refine Con.intro (own := "java/lang/AbstractStringBuilder") (name := "getValue") (plainFor_of_name pn8) rfl rfl ⟨_, G.2.1⟩ #[.val (.ref a)] rfl ?_
  intro p e s m below meth c T N
  refine N.aloadN (pc := 0) d32_0 rfl rfl ?_
  refine N.getfield (pc := 1) 0 d32_1 (w127 hw) Via.refl rfl (List.mem_of_getElem? (i := 0) rfl) fun T N => ?_
  exact N.areturn (pc := 4) [] (fun _ h => h) (List.forall_mem_nil _) (Nat.le_of_ble_eq_true rfl) (Nat.le_of_ble_eq_true rfl) (t := (.array .byte)) d32_4 rfl rfl rfl rfl ⟨rfl, rfl, rfl⟩

set_option maxRecDepth 65536 in
set_option maxHeartbeats 4000000 in
theorem c_asbLength {l : Launch} {Z : State} {a0 : Array Value} (G : Glob Z a0) {a b : Addr} {z : Int32} : Con NR ELs l Z (⟨"java/lang/AbstractStringBuilder", "length", "()I"⟩ : MethodName) jdk_68_method_6_code 1 (Option.some Jvm.ClassFile.FieldType.int) ({ frames := 0, cells := 0, slots := 0, locals := 0 } : Room) [.ref a] [] [(a, .inl ("java/lang/StringBuilder", [(("java/lang/AbstractStringBuilder", "value", "[B"), .ref b), (("java/lang/AbstractStringBuilder", "coder", "B"), .int 0), (("java/lang/AbstractStringBuilder", "count", "I"), .int z)]))] (fun v O' FN => v = some (.int z) ∧ O' = [] ∧ FN = []) := by
  have hw := G.1
  refine Con.intro (own := "java/lang/AbstractStringBuilder") (name := "length") (plainFor_of_name pn8) rfl rfl ⟨_, G.2.1⟩ #[.val (.ref a)] rfl ?_
  intro p e s m below meth c T N
  refine N.aloadN (pc := 0) d33_0 rfl rfl ?_
  refine N.getfield (pc := 1) 0 d33_1 (w142 hw) Via.refl rfl (List.mem_of_getElem? (i := 2) rfl) fun T N => ?_
  exact N.ireturn (pc := 4) [] (fun _ h => h) (List.forall_mem_nil _) (Nat.le_of_ble_eq_true rfl) (Nat.le_of_ble_eq_true rfl) (t := .int) d33_4 rfl (by simp) rfl ⟨rfl, rfl, rfl⟩

set_option maxRecDepth 65536 in
set_option maxHeartbeats 4000000 in
theorem c_sbLength {l : Launch} {Z : State} {a0 : Array Value} (G : Glob Z a0) {a b : Addr} {z : Int32} : Con NR ELs l Z (⟨"java/lang/StringBuilder", "length", "()I"⟩ : MethodName) jdk_67_method_93_code 1 (Option.some Jvm.ClassFile.FieldType.int) ({ frames := 1, cells := 0, slots := 0, locals := 12 } : Room) [.ref a] [] [(a, .inl ("java/lang/StringBuilder", [(("java/lang/AbstractStringBuilder", "value", "[B"), .ref b), (("java/lang/AbstractStringBuilder", "coder", "B"), .int 0), (("java/lang/AbstractStringBuilder", "count", "I"), .int z)]))] (fun v O' FN => v = some (.int z) ∧ O' = [] ∧ FN = []) := by
  have hw := G.1
  refine Con.intro (own := "java/lang/StringBuilder") (name := "length") (plainFor_of_name pn9) rfl rfl ⟨_, G.2.1⟩ #[.val (.ref a)] rfl ?_
  intro p e s m below meth c T N
  refine N.aloadN (pc := 0) d34_0 rfl rfl ?_
  refine N.callU (pc := 1) (c_asbLength G (a := a) (b := b) (z := z)) 0 [] [0] d34_1 (w193 hw) (w188 hw) (w189 hw) (w138 hw) (u := (⟨"java/lang/AbstractStringBuilder", "getValue", "()[B"⟩ : MethodName)) rfl (w185 hw) (w183 hw) (w122 hw) (by decide) (w123 hw) (w194 hw) rfl (by decide) pd9 rfl (st := []) rfl rfl rfl (by decide) (by decide) (ltAll rfl) rfl (Nat.le_of_ble_eq_true rfl) (Nat.le_of_ble_eq_true rfl) (Nat.le_of_ble_eq_true rfl) (Nat.le_of_ble_eq_true rfl) fun v O' FN vm T hQ N => ?_
  obtain ⟨rfl, rfl, rfl⟩ := hQ
  replace N := N.cast3 (O' := []) (RO' := [(a, .inl ("java/lang/StringBuilder", [(("java/lang/AbstractStringBuilder", "value", "[B"), .ref b), (("java/lang/AbstractStringBuilder", "coder", "B"), .int 0), (("java/lang/AbstractStringBuilder", "count", "I"), .int z)]))]) (FZ' := []) rfl rfl rfl
  show Goes p e below _ (T.setTop (mkF m 4 #[.val (.ref a)] [.int z]))
  exact N.ireturn (pc := 4) [] (fun _ h => h) (List.forall_mem_nil _) (Nat.le_of_ble_eq_true rfl) (Nat.le_of_ble_eq_true rfl) (t := .int) d34_4 rfl (by simp) rfl ⟨rfl, rfl, rfl⟩

set_option maxRecDepth 65536 in
set_option maxHeartbeats 4000000 in
theorem c_asbIsLatin1 {l : Launch} {Z : State} {a0 : Array Value} (G : Glob Z a0) {a b : Addr} {z : Int32} : Con NR ELs l Z (⟨"java/lang/AbstractStringBuilder", "isLatin1", "()Z"⟩ : MethodName) jdk_68_method_68_code 1 (Option.some Jvm.ClassFile.FieldType.boolean) ({ frames := 0, cells := 0, slots := 0, locals := 0 } : Room) [.ref a] [] [(a, .inl ("java/lang/StringBuilder", [(("java/lang/AbstractStringBuilder", "value", "[B"), .ref b), (("java/lang/AbstractStringBuilder", "coder", "B"), .int 0), (("java/lang/AbstractStringBuilder", "count", "I"), .int z)]))] (fun v O' FN => v = some (.int 1) ∧ O' = [] ∧ FN = []) := by
  have hw := G.1
  refine Con.intro (own := "java/lang/AbstractStringBuilder") (name := "isLatin1") (plainFor_of_name pn8) rfl rfl ⟨_, G.2.1⟩ #[.val (.ref a)] rfl ?_
  intro p e s m below meth c T N
  obtain ⟨cv, hcv, hS⟩ := G.compact
  refine N.getstatic (pc := 0) d35_0 (w126 hw) Via.refl hS fun T N => ?_
  refine N.ifeqF (pc := 3) d35_3 hcv ?_
  refine N.aloadN (pc := 6) d35_6 rfl rfl ?_
  refine N.getfield (pc := 7) 0 d35_7 (w129 hw) Via.refl rfl (List.mem_of_getElem? (i := 1) rfl) fun T N => ?_
  refine N.ifneF (pc := 10) d35_10 rfl ?_
  refine N.iconst (pc := 13) 1 d35_13 rfl ?_
  refine N.goto (pc := 14) (pc' := 18) d35_14 rfl ?_
  exact N.ireturn (pc := 18) [] (fun _ h => h) (List.forall_mem_nil _) (Nat.le_of_ble_eq_true rfl) (Nat.le_of_ble_eq_true rfl) (t := .boolean) d35_18 rfl (by simp) rfl ⟨rfl, rfl, rfl⟩

set_option maxRecDepth 65536 in
set_option maxHeartbeats 4000000 in
theorem c_initASB {l : Launch} {Z : State} {a0 : Array Value} (G : Glob Z a0) {r a b : Addr} {cs : List Int32} (h : cs.length ≤ 5) : Con NR ELs l Z (⟨"java/lang/String", "<init>", "(Ljava/lang/AbstractStringBuilder;Ljava/lang/Void;)V"⟩ : MethodName) jdk_42_method_150_code 5 (Option.none : Option Jvm.ClassFile.FieldType) ({ frames := 3, cells := 1, slots := 5, locals := 49 } : Room) [.ref r, .ref a, .null] [(r, .inl ("java/lang/String", [(("java/lang/String", "value", "[B"), .null), (("java/lang/String", "coder", "B"), .int 0)]))] [(a, .inl ("java/lang/StringBuilder", [(("java/lang/AbstractStringBuilder", "value", "[B"), .ref b), (("java/lang/AbstractStringBuilder", "coder", "B"), .int 0), (("java/lang/AbstractStringBuilder", "count", "I"), .int cs.length.toInt32)])), (b, aO .byte (sbA cs))] (fun v O' FN => ∃ c', v = none ∧ O' = [(r, .inl ("java/lang/String", [(("java/lang/String", "value", "[B"), .ref c'), (("java/lang/String", "coder", "B"), .int 0)])), (c', aO .byte ((cs.map by8).map Value.int))] ∧ FN = []) := by
  have hw := G.1
  refine Con.intro (own := "java/lang/String") (name := "<init>") (plainFor_of_name pn1) rfl rfl ⟨_, G.2.1⟩ #[.val (.ref r), .val (.ref a), .val (.null), .unset, .unset] rfl ?_
  intro p e s m below meth c T N
  refine N.aloadN (pc := 0) d36_0 rfl rfl ?_
  refine N.objInit (pc := 1) d36_1 (w18 hw) (w19 hw) (w20 hw) rfl (Nat.le_of_ble_eq_true rfl) (Nat.le_of_ble_eq_true rfl) fun T N => ?_
  refine N.aloadN (pc := 4) d36_4 rfl rfl ?_
  refine N.callV (pc := 5) (c_getValue G (a := a) (b := b) (z := cs.length.toInt32)) 1 [] [1] d36_5 (w182 hw) (w183 hw) (w185 hw) (w184 hw) (w123 hw) (w186 hw) rfl (by decide) pd21 rfl (st := []) rfl rfl rfl (by decide) (by decide) (ltAll rfl) rfl (Nat.le_of_ble_eq_true rfl) (Nat.le_of_ble_eq_true rfl) (Nat.le_of_ble_eq_true rfl) (Nat.le_of_ble_eq_true rfl) fun v O' FN vm T hQ N => ?_
  obtain ⟨rfl, rfl, rfl⟩ := hQ
  replace N := N.cast3 (O' := [(r, .inl ("java/lang/String", [(("java/lang/String", "value", "[B"), .null), (("java/lang/String", "coder", "B"), .int 0)]))]) (RO' := [(a, .inl ("java/lang/StringBuilder", [(("java/lang/AbstractStringBuilder", "value", "[B"), .ref b), (("java/lang/AbstractStringBuilder", "coder", "B"), .int 0), (("java/lang/AbstractStringBuilder", "count", "I"), .int cs.length.toInt32)])), (b, aO .byte (sbA cs))]) (FZ' := []) rfl rfl rfl
  show Goes p e below _ (T.setTop (mkF m 8 #[.val (.ref r), .val (.ref a), .val (.null), .unset, .unset] [.ref b]))
  refine N.astoreN (pc := 8) (l' := #[.val (.ref r), .val (.ref a), .val (.null), .val (.ref b), .unset]) d36_8 rfl rfl ?_
  refine N.aloadN (pc := 9) d36_9 rfl rfl ?_
  refine N.callX (pc := 10) (c_sbLength G (a := a) (b := b) (z := cs.length.toInt32)) 1 [] [1] d36_10 (w187 hw) (w188 hw) (w190 hw) (w191 hw) (w115 hw) (w192 hw) (u := (⟨"java/lang/AbstractStringBuilder", "getValue", "()[B"⟩ : MethodName)) rfl (w185 hw) (w183 hw) rfl (by decide) pd9 rfl (st := []) rfl rfl rfl (by decide) (by decide) (ltAll rfl) rfl (Nat.le_of_ble_eq_true rfl) (Nat.le_of_ble_eq_true rfl) (Nat.le_of_ble_eq_true rfl) (Nat.le_of_ble_eq_true rfl) fun v O' FN vm T hQ N => ?_
  obtain ⟨rfl, rfl, rfl⟩ := hQ
  replace N := N.cast3 (O' := [(r, .inl ("java/lang/String", [(("java/lang/String", "value", "[B"), .null), (("java/lang/String", "coder", "B"), .int 0)]))]) (RO' := [(a, .inl ("java/lang/StringBuilder", [(("java/lang/AbstractStringBuilder", "value", "[B"), .ref b), (("java/lang/AbstractStringBuilder", "coder", "B"), .int 0), (("java/lang/AbstractStringBuilder", "count", "I"), .int cs.length.toInt32)])), (b, aO .byte (sbA cs))]) (FZ' := []) rfl rfl rfl
  show Goes p e below _ (T.setTop (mkF m 13 #[.val (.ref r), .val (.ref a), .val (.null), .val (.ref b), .unset] [.int cs.length.toInt32]))
  refine N.istore (pc := 13) (l' := #[.val (.ref r), .val (.ref a), .val (.null), .val (.ref b), .val (.int cs.length.toInt32)]) d36_13 rfl ?_
  refine N.aloadN (pc := 15) d36_15 rfl rfl ?_
  refine N.callV (pc := 16) (c_asbIsLatin1 G (a := a) (b := b) (z := cs.length.toInt32)) 1 [] [1] d36_16 (w195 hw) (w196 hw) (w198 hw) (w197 hw) (w123 hw) (w199 hw) rfl (by decide) pd8 rfl (st := []) rfl rfl rfl (by decide) (by decide) (ltAll rfl) rfl (Nat.le_of_ble_eq_true rfl) (Nat.le_of_ble_eq_true rfl) (Nat.le_of_ble_eq_true rfl) (Nat.le_of_ble_eq_true rfl) fun v O' FN vm T hQ N => ?_
  obtain ⟨rfl, rfl, rfl⟩ := hQ
  replace N := N.cast3 (O' := [(r, .inl ("java/lang/String", [(("java/lang/String", "value", "[B"), .null), (("java/lang/String", "coder", "B"), .int 0)]))]) (RO' := [(a, .inl ("java/lang/StringBuilder", [(("java/lang/AbstractStringBuilder", "value", "[B"), .ref b), (("java/lang/AbstractStringBuilder", "coder", "B"), .int 0), (("java/lang/AbstractStringBuilder", "count", "I"), .int cs.length.toInt32)])), (b, aO .byte (sbA cs))]) (FZ' := []) rfl rfl rfl
  show Goes p e below _ (T.setTop (mkF m 19 #[.val (.ref r), .val (.ref a), .val (.null), .val (.ref b), .val (.int cs.length.toInt32)] [.int 1]))
  refine N.ifeqF (pc := 19) d36_19 (by decide) ?_
  refine N.aloadN (pc := 22) d36_22 rfl rfl ?_
  refine N.iconst (pc := 23) 0 d36_23 rfl ?_
  refine N.putfield (pc := 24) (O' := [(r, .inl ("java/lang/String", [(("java/lang/String", "value", "[B"), .null), (("java/lang/String", "coder", "B"), .int 0)]))]) 0 1 d36_24 (w33 hw) Via.refl (Or.inr ⟨(w34 hw), rfl, rfl⟩) (w9 hw) rfl rfl (ty := .byte) (by decide) rfl rfl rfl fun T N => ?_
  refine N.aloadN (pc := 27) d36_27 rfl rfl ?_
  refine N.aloadN (pc := 28) d36_28 rfl rfl ?_
  refine N.iconst (pc := 29) 0 d36_29 rfl ?_
  refine N.iload (pc := 30) d36_30 rfl ?_
  refine N.callS (pc := 32) (c_copyR G (b := b) (vs := sbA cs) (k := cs.length) (by rw [sbA_len (by omega)]; omega) h) [] [2] d36_32 (w200 hw) (w201 hw) (w202 hw) (w203 hw) (by decide) pd11 rfl (st := [.ref r]) rfl rfl rfl (by decide) (by decide) (ltAll rfl) rfl (Nat.le_of_ble_eq_true rfl) (Nat.le_of_ble_eq_true rfl) (Nat.le_of_ble_eq_true rfl) (Nat.le_of_ble_eq_true rfl) fun v O' FN vm T hQ N => ?_
  obtain ⟨c', rfl, rfl, rfl⟩ := hQ
  replace N := N.cast3 (O' := [(r, .inl ("java/lang/String", [(("java/lang/String", "value", "[B"), .null), (("java/lang/String", "coder", "B"), .int 0)])), (c', aO .byte ((sbA cs).take cs.length))]) (RO' := [(a, .inl ("java/lang/StringBuilder", [(("java/lang/AbstractStringBuilder", "value", "[B"), .ref b), (("java/lang/AbstractStringBuilder", "coder", "B"), .int 0), (("java/lang/AbstractStringBuilder", "count", "I"), .int cs.length.toInt32)])), (b, aO .byte (sbA cs))]) (FZ' := []) rfl rfl rfl
  show Goes p e below _ (T.setTop (mkF m 35 #[.val (.ref r), .val (.ref a), .val (.null), .val (.ref b), .val (.int cs.length.toInt32)] [.ref c', .ref r]))
  rw [sbA_take] at N
  refine N.putfield (pc := 35) (O' := [(r, .inl ("java/lang/String", [(("java/lang/String", "value", "[B"), .ref c'), (("java/lang/String", "coder", "B"), .int 0)])), (c', aO .byte ((cs.map by8).map Value.int))]) 0 0 d36_35 (w35 hw) Via.refl (Or.inr ⟨(w36 hw), rfl, rfl⟩) (w9 hw) rfl rfl (ty := (.array .byte)) (by decide) rfl rfl rfl fun T N => ?_
  refine N.goto (pc := 38) (pc' := 97) d36_38 rfl ?_
  exact N.retV (pc := 97) [] (fun _ h => h) (List.forall_mem_nil _) (Nat.le_of_ble_eq_true rfl) (Nat.le_of_ble_eq_true rfl) d36_97 rfl ⟨_, rfl, rfl, rfl⟩

set_option maxRecDepth 65536 in
set_option maxHeartbeats 4000000 in
theorem c_initSB {l : Launch} {Z : State} {a0 : Array Value} (G : Glob Z a0) {r a b : Addr} {cs : List Int32} (h : cs.length ≤ 5) : Con NR ELs l Z (⟨"java/lang/String", "<init>", "(Ljava/lang/StringBuilder;)V"⟩ : MethodName) jdk_42_method_53_code 2 (Option.none : Option Jvm.ClassFile.FieldType) ({ frames := 4, cells := 1, slots := 5, locals := 65 } : Room) [.ref r, .ref a] [(r, .inl ("java/lang/String", [(("java/lang/String", "value", "[B"), .null), (("java/lang/String", "coder", "B"), .int 0)]))] [(a, .inl ("java/lang/StringBuilder", [(("java/lang/AbstractStringBuilder", "value", "[B"), .ref b), (("java/lang/AbstractStringBuilder", "coder", "B"), .int 0), (("java/lang/AbstractStringBuilder", "count", "I"), .int cs.length.toInt32)])), (b, aO .byte (sbA cs))] (fun v O' FN => ∃ c', v = none ∧ O' = [(r, .inl ("java/lang/String", [(("java/lang/String", "value", "[B"), .ref c'), (("java/lang/String", "coder", "B"), .int 0)])), (c', aO .byte ((cs.map by8).map Value.int))] ∧ FN = []) := by
  have hw := G.1
  refine Con.intro (own := "java/lang/String") (name := "<init>") (plainFor_of_name pn1) rfl rfl ⟨_, G.2.1⟩ #[.val (.ref r), .val (.ref a)] rfl ?_
  intro p e s m below meth c T N
  refine N.aloadN (pc := 0) d37_0 rfl rfl ?_
  refine N.aloadN (pc := 1) d37_1 rfl rfl ?_
  refine N.aconst (pc := 2) d37_2 ?_
  refine N.callI (pc := 3) (c_initASB G (r := r) (a := a) (b := b) (cs := cs) h) [0] [1, 2] d37_3 rfl (w179 hw) (w180 hw) (w10 hw) (w181 hw) (by decide) pd22 rfl (st := []) rfl rfl rfl (by decide) (by decide) (ltAll rfl) rfl (Nat.le_of_ble_eq_true rfl) (Nat.le_of_ble_eq_true rfl) (Nat.le_of_ble_eq_true rfl) (Nat.le_of_ble_eq_true rfl) fun v O' FN vm T hQ N => ?_
  obtain ⟨c', rfl, rfl, rfl⟩ := hQ
  replace N := N.cast3 (O' := [(r, .inl ("java/lang/String", [(("java/lang/String", "value", "[B"), .ref c'), (("java/lang/String", "coder", "B"), .int 0)])), (c', aO .byte ((cs.map by8).map Value.int))]) (RO' := [(a, .inl ("java/lang/StringBuilder", [(("java/lang/AbstractStringBuilder", "value", "[B"), .ref b), (("java/lang/AbstractStringBuilder", "coder", "B"), .int 0), (("java/lang/AbstractStringBuilder", "count", "I"), .int cs.length.toInt32)])), (b, aO .byte (sbA cs))]) (FZ' := []) rfl rfl rfl
  show Goes p e below _ (T.setTop (mkF m 6 #[.val (.ref r), .val (.ref a)] []))
  exact N.retV (pc := 6) [] (fun _ h => h) (List.forall_mem_nil _) (Nat.le_of_ble_eq_true rfl) (Nat.le_of_ble_eq_true rfl) d37_6 rfl ⟨_, rfl, rfl, rfl⟩

set_option maxRecDepth 65536 in
set_option maxHeartbeats 4000000 in
theorem c_sbToString {l : Launch} {Z : State} {a0 : Array Value} (G : Glob Z a0) {a b : Addr} {cs : List Int32} (h : cs.length ≤ 5) (hc : ∀ x ∈ cs, Lat x) : Con NR ELs l Z (⟨"java/lang/StringBuilder", "toString", "()Ljava/lang/String;"⟩ : MethodName) jdk_67_method_42_code 1 (Option.some (Jvm.ClassFile.FieldType.object "java/lang/String")) ({ frames := 5, cells := 2, slots := 9, locals := 79 } : Room) [.ref a] [] [(a, .inl ("java/lang/StringBuilder", [(("java/lang/AbstractStringBuilder", "value", "[B"), .ref b), (("java/lang/AbstractStringBuilder", "coder", "B"), .int 0), (("java/lang/AbstractStringBuilder", "count", "I"), .int cs.length.toInt32)])), (b, aO .byte (sbA cs))] (fun v O' FN => ∃ r, v = some (.ref r) ∧ O' = [] ∧ FN = [(r, tO cs)]) := by
  have hw := G.1
  refine Con.intro (own := "java/lang/StringBuilder") (name := "toString") (plainFor_of_name pn9) rfl rfl ⟨_, G.2.1⟩ #[.val (.ref a)] rfl ?_
  intro p e s m below meth c T N
  refine N.new (pc := 0) d38_0 (w175 hw) (w9 hw) (w10 hw) (lay_java_lang_String hw) (Nat.le_of_ble_eq_true rfl) (Nat.le_of_ble_eq_true rfl) fun a16 T l_a16 N => ?_
  replace N := N.cast (O' := [(a16, .inl ("java/lang/String", [(("java/lang/String", "value", "[B"), .null), (("java/lang/String", "coder", "B"), .int 0)]))]) rfl
  refine N.dup (pc := 3) d38_3 rfl ?_
  refine N.aloadN (pc := 4) d38_4 rfl rfl ?_
  refine N.callI (pc := 5) (c_initSB G (r := a16) (a := a) (b := b) (cs := cs) h) [0] [1, 2] d38_5 rfl (w176 hw) (w177 hw) (w10 hw) (w178 hw) (by decide) pd23 rfl (st := [.ref a16]) rfl rfl rfl (by decide) (by decide) (ltAll rfl) rfl (Nat.le_of_ble_eq_true rfl) (Nat.le_of_ble_eq_true rfl) (Nat.le_of_ble_eq_true rfl) (Nat.le_of_ble_eq_true rfl) fun v O' FN vm T hQ N => ?_
  obtain ⟨c', rfl, rfl, rfl⟩ := hQ
  replace N := N.cast3 (O' := [(a16, .inl ("java/lang/String", [(("java/lang/String", "value", "[B"), .ref c'), (("java/lang/String", "coder", "B"), .int 0)])), (c', aO .byte ((cs.map by8).map Value.int))]) (RO' := [(a, .inl ("java/lang/StringBuilder", [(("java/lang/AbstractStringBuilder", "value", "[B"), .ref b), (("java/lang/AbstractStringBuilder", "coder", "B"), .int 0), (("java/lang/AbstractStringBuilder", "count", "I"), .int cs.length.toInt32)])), (b, aO .byte (sbA cs))]) (FZ' := []) rfl rfl rfl
  show Goes p e below _ (T.setTop (mkF m 8 #[.val (.ref a)] [.ref a16]))
  replace N := N.freeze (O' := [(c', aO .byte ((cs.map by8).map Value.int))]) 0 rfl (Nat.le_of_ble_eq_true rfl) rfl
  replace N := N.freeze (O' := []) 0 rfl (Nat.le_of_ble_eq_true rfl) rfl
  replace N := N.str (cs := cs) 0 1 rfl rfl hc
  replace N := N.cast3 (O' := []) (RO' := [(a, .inl ("java/lang/StringBuilder", [(("java/lang/AbstractStringBuilder", "value", "[B"), .ref b), (("java/lang/AbstractStringBuilder", "coder", "B"), .int 0), (("java/lang/AbstractStringBuilder", "count", "I"), .int cs.length.toInt32)])), (b, aO .byte (sbA cs))]) (FZ' := [(a16, .inl ("java/lang/String", [(("java/lang/String", "value", "[B"), .ref c'), (("java/lang/String", "coder", "B"), .int 0)])), (c', aO .byte ((cs.map by8).map Value.int)), (a16, tO cs)]) rfl rfl rfl
  show Goes p e below _ (T.setTop (mkF m 8 #[.val (.ref a)] [.ref a16]))
  exact N.areturn (pc := 8) [(a16, tO cs)] (fun _ h => h) (List.forall_mem_cons.mpr ⟨List.mem_of_getElem? (i := 2) rfl, (List.forall_mem_nil _)⟩) (Nat.le_of_ble_eq_true rfl) (Nat.le_of_ble_eq_true rfl) (t := (.object "java/lang/String")) d38_8 rfl rfl rfl rfl ⟨_, rfl, rfl, rfl⟩

theorem lat3 {ks gs : List Int32} (h1 : ∀ x ∈ ks, Lat x) (h2 : ∀ x ∈ gs, Lat x) : ∀ x ∈ ([] ++ ks ++ [58] ++ gs : List Int32), Lat x := fun x hx => by
  simp only [List.nil_append, List.mem_append, List.mem_singleton] at hx
  rcases hx with (q | q) | q
  · exact h1 x q
  · rw [q]; exact lat58
  · exact h2 x q
set_option maxRecDepth 65536 in
set_option maxHeartbeats 4000000 in
theorem c_tsToString {l : Launch} {Z : State} {a0 : Array Value} (G : Glob Z a0) {a ak ag : Addr} {ks gs : List Int32} (h1 : ks.length ≤ 2) (h2 : gs.length ≤ 2) : Con NR ELs l Z (⟨"com/example/shoalwork/shoalwork/task/TaskSpec", "toString", "()Ljava/lang/String;"⟩ : MethodName) prog_31_method_3_code 1 (Option.some (Jvm.ClassFile.FieldType.object "java/lang/String")) ({ frames := 6, cells := 6, slots := 37, locals := 91 } : Room) [.ref a] [] [(a, .inl ("com/example/shoalwork/shoalwork/task/TaskSpec", [(("com/example/shoalwork/shoalwork/task/TaskSpec", "kind", "Ljava/lang/String;"), .ref ak), (("com/example/shoalwork/shoalwork/task/TaskSpec", "argument", "Ljava/lang/String;"), .ref ag)])), (ak, tO ks), (ag, tO gs)] (fun v O' FN => ∃ r, v = some (.ref r) ∧ O' = [] ∧ FN = [(r, tO (ks ++ [58] ++ gs))]) := by
  have hw := G.1
  refine Con.intro (own := "com/example/shoalwork/shoalwork/task/TaskSpec") (name := "toString") (plainFor_of_name pn7) rfl rfl ⟨_, G.2.1⟩ #[.val (.ref a)] rfl ?_
  intro p e s m below meth c T N
  obtain ⟨hc_ak, bk, N⟩ := N.openR 1 rfl
  replace N := N.cast3 (O' := []) (RO' := [(a, .inl ("com/example/shoalwork/shoalwork/task/TaskSpec", [(("com/example/shoalwork/shoalwork/task/TaskSpec", "kind", "Ljava/lang/String;"), .ref ak), (("com/example/shoalwork/shoalwork/task/TaskSpec", "argument", "Ljava/lang/String;"), .ref ag)])), (ak, tO ks), (ag, tO gs), (ak, sO bk), (bk, aO .byte (((ks).map by8).map Value.int))]) (FZ' := []) rfl rfl rfl
  obtain ⟨hc_ag, bg, N⟩ := N.openR 2 rfl
  replace N := N.cast3 (O' := []) (RO' := [(a, .inl ("com/example/shoalwork/shoalwork/task/TaskSpec", [(("com/example/shoalwork/shoalwork/task/TaskSpec", "kind", "Ljava/lang/String;"), .ref ak), (("com/example/shoalwork/shoalwork/task/TaskSpec", "argument", "Ljava/lang/String;"), .ref ag)])), (ak, tO ks), (ag, tO gs), (ak, sO bk), (bk, aO .byte (((ks).map by8).map Value.int)), (ag, sO bg), (bg, aO .byte (((gs).map by8).map Value.int))]) (FZ' := []) rfl rfl rfl
  refine N.new (pc := 0) d39_0 (w113 hw) (w114 hw) (w115 hw) (lay_java_lang_StringBuilder hw) (Nat.le_of_ble_eq_true rfl) (Nat.le_of_ble_eq_true rfl) fun a17 T l_a17 N => ?_
  replace N := N.cast (O' := [(a17, .inl ("java/lang/StringBuilder", [(("java/lang/AbstractStringBuilder", "value", "[B"), .null), (("java/lang/AbstractStringBuilder", "coder", "B"), .int 0), (("java/lang/AbstractStringBuilder", "count", "I"), .int 0)]))]) rfl
  refine N.dup (pc := 3) d39_3 rfl ?_
  refine N.callI (pc := 4) (c_sbInit G (a := a17)) [0] [] d39_4 rfl (w116 hw) (w117 hw) (w115 hw) (w118 hw) (by decide) pd13 rfl (st := [.ref a17]) rfl rfl rfl (by decide) (by decide) (ltAll rfl) rfl (Nat.le_of_ble_eq_true rfl) (Nat.le_of_ble_eq_true rfl) (Nat.le_of_ble_eq_true rfl) (Nat.le_of_ble_eq_true rfl) fun v O' FN vm T hQ N => ?_
  obtain ⟨b, rfl, rfl, rfl⟩ := hQ
  replace N := N.cast3 (O' := [(a17, .inl ("java/lang/StringBuilder", [(("java/lang/AbstractStringBuilder", "value", "[B"), .ref b), (("java/lang/AbstractStringBuilder", "coder", "B"), .int 0), (("java/lang/AbstractStringBuilder", "count", "I"), .int 0)])), (b, aO .byte (sbA []))]) (RO' := [(a, .inl ("com/example/shoalwork/shoalwork/task/TaskSpec", [(("com/example/shoalwork/shoalwork/task/TaskSpec", "kind", "Ljava/lang/String;"), .ref ak), (("com/example/shoalwork/shoalwork/task/TaskSpec", "argument", "Ljava/lang/String;"), .ref ag)])), (ak, tO ks), (ag, tO gs), (ak, sO bk), (bk, aO .byte (((ks).map by8).map Value.int)), (ag, sO bg), (bg, aO .byte (((gs).map by8).map Value.int))]) (FZ' := []) rfl rfl rfl
  show Goes p e below _ (T.setTop (mkF m 7 #[.val (.ref a)] [.ref a17]))
  replace N := N.cast (O' := [(a17, .inl ("java/lang/StringBuilder", [(("java/lang/AbstractStringBuilder", "value", "[B"), .ref b), (("java/lang/AbstractStringBuilder", "coder", "B"), .int 0), (("java/lang/AbstractStringBuilder", "count", "I"), .int (([] : List Int32).length.toInt32))])), (b, aO .byte (sbA []))]) rfl
  refine N.aloadN (pc := 7) d39_7 rfl rfl ?_
  refine N.getfield (pc := 8) 2 d39_8 (w104 hw) Via.refl rfl (List.mem_of_getElem? (i := 0) rfl) fun T N => ?_
  refine N.callV (pc := 11) (c_sbAppend G (a := a17) (b := b) (x := ak) (cs := []) (xs := ks) (by simp; omega)) 0 [0, 1] [3] d39_11 (w131 hw) (w132 hw) (w134 hw) (w133 hw) (w115 hw) (w135 hw) rfl (by decide) pd24 rfl (st := []) rfl rfl rfl (by decide) (by decide) (ltAll rfl) rfl (Nat.le_of_ble_eq_true rfl) (Nat.le_of_ble_eq_true rfl) (Nat.le_of_ble_eq_true rfl) (Nat.le_of_ble_eq_true rfl) fun v O' FN vm T hQ N => ?_
  obtain ⟨rfl, rfl, rfl⟩ := hQ
  replace N := N.cast3 (O' := [(a17, .inl ("java/lang/StringBuilder", [(("java/lang/AbstractStringBuilder", "value", "[B"), .ref b), (("java/lang/AbstractStringBuilder", "coder", "B"), .int 0), (("java/lang/AbstractStringBuilder", "count", "I"), .int (([] ++ ks).length.toInt32))])), (b, aO .byte (sbA ([] ++ ks)))]) (RO' := [(a, .inl ("com/example/shoalwork/shoalwork/task/TaskSpec", [(("com/example/shoalwork/shoalwork/task/TaskSpec", "kind", "Ljava/lang/String;"), .ref ak), (("com/example/shoalwork/shoalwork/task/TaskSpec", "argument", "Ljava/lang/String;"), .ref ag)])), (ak, tO ks), (ag, tO gs), (ak, sO bk), (bk, aO .byte (((ks).map by8).map Value.int)), (ag, sO bg), (bg, aO .byte (((gs).map by8).map Value.int))]) (FZ' := []) rfl rfl rfl
  show Goes p e below _ (T.setTop (mkF m 14 #[.val (.ref a)] [.ref a17]))
  refine N.ldc (pc := 14) (nn := 4) (text := ":") (vs := [.int 58]) (z := 1) d39_14 (w169 hw) G.wS G.2.1 (List.mem_of_getElem? (i := 2) rfl) rfl G.sl ⟨by decide +kernel, by decide +kernel⟩ (by decide) rfl (by decide +kernel) (by decide) (Nat.le_of_ble_eq_true rfl) (Nat.le_of_ble_eq_true rfl) fun s18 t19 vm T N => ?_
  replace N := N.cast3 (O' := [(a17, .inl ("java/lang/StringBuilder", [(("java/lang/AbstractStringBuilder", "value", "[B"), .ref b), (("java/lang/AbstractStringBuilder", "coder", "B"), .int 0), (("java/lang/AbstractStringBuilder", "count", "I"), .int (([] ++ ks).length.toInt32))])), (b, aO .byte (sbA ([] ++ ks)))]) (RO' := [(a, .inl ("com/example/shoalwork/shoalwork/task/TaskSpec", [(("com/example/shoalwork/shoalwork/task/TaskSpec", "kind", "Ljava/lang/String;"), .ref ak), (("com/example/shoalwork/shoalwork/task/TaskSpec", "argument", "Ljava/lang/String;"), .ref ag)])), (ak, tO ks), (ag, tO gs), (ak, sO bk), (bk, aO .byte (((ks).map by8).map Value.int)), (ag, sO bg), (bg, aO .byte (((gs).map by8).map Value.int))]) (FZ' := [(s18, sO t19), (t19, aO .byte [.int 58])]) rfl rfl rfl
  replace N := N.str (cs := [58]) 0 1 rfl rfl (List.forall_mem_cons.mpr ⟨lat58, fun _ h => nomatch h⟩)
  replace N := N.cast3 (O' := [(a17, .inl ("java/lang/StringBuilder", [(("java/lang/AbstractStringBuilder", "value", "[B"), .ref b), (("java/lang/AbstractStringBuilder", "coder", "B"), .int 0), (("java/lang/AbstractStringBuilder", "count", "I"), .int (([] ++ ks).length.toInt32))])), (b, aO .byte (sbA ([] ++ ks)))]) (RO' := [(a, .inl ("com/example/shoalwork/shoalwork/task/TaskSpec", [(("com/example/shoalwork/shoalwork/task/TaskSpec", "kind", "Ljava/lang/String;"), .ref ak), (("com/example/shoalwork/shoalwork/task/TaskSpec", "argument", "Ljava/lang/String;"), .ref ag)])), (ak, tO ks), (ag, tO gs), (ak, sO bk), (bk, aO .byte (((ks).map by8).map Value.int)), (ag, sO bg), (bg, aO .byte (((gs).map by8).map Value.int))]) (FZ' := [(s18, sO t19), (t19, aO .byte [.int 58]), (s18, tO ([58]))]) rfl rfl rfl
  show Goes p e below _ (T.setTop (mkF m 16 #[.val (.ref a)] [.ref s18, .ref a17]))
  refine N.callV (pc := 16) (c_sbAppend G (a := a17) (b := b) (x := s18) (cs := ([] ++ ks)) (xs := [58]) (by simp; omega)) 0 [0, 1] [11] d39_16 (w131 hw) (w132 hw) (w134 hw) (w133 hw) (w115 hw) (w135 hw) rfl (by decide) pd24 rfl (st := []) rfl rfl rfl (by decide) (by decide) (ltAll rfl) rfl (Nat.le_of_ble_eq_true rfl) (Nat.le_of_ble_eq_true rfl) (Nat.le_of_ble_eq_true rfl) (Nat.le_of_ble_eq_true rfl) fun v O' FN vm T hQ N => ?_
  obtain ⟨rfl, rfl, rfl⟩ := hQ
  replace N := N.cast3 (O' := [(a17, .inl ("java/lang/StringBuilder", [(("java/lang/AbstractStringBuilder", "value", "[B"), .ref b), (("java/lang/AbstractStringBuilder", "coder", "B"), .int 0), (("java/lang/AbstractStringBuilder", "count", "I"), .int ((([] ++ ks) ++ [58]).length.toInt32))])), (b, aO .byte (sbA (([] ++ ks) ++ [58])))]) (RO' := [(a, .inl ("com/example/shoalwork/shoalwork/task/TaskSpec", [(("com/example/shoalwork/shoalwork/task/TaskSpec", "kind", "Ljava/lang/String;"), .ref ak), (("com/example/shoalwork/shoalwork/task/TaskSpec", "argument", "Ljava/lang/String;"), .ref ag)])), (ak, tO ks), (ag, tO gs), (ak, sO bk), (bk, aO .byte (((ks).map by8).map Value.int)), (ag, sO bg), (bg, aO .byte (((gs).map by8).map Value.int))]) (FZ' := [(s18, sO t19), (t19, aO .byte [.int 58]), (s18, tO ([58]))]) rfl rfl rfl
  show Goes p e below _ (T.setTop (mkF m 19 #[.val (.ref a)] [.ref a17]))
  refine N.aloadN (pc := 19) d39_19 rfl rfl ?_
  refine N.getfield (pc := 20) 2 d39_20 (w106 hw) Via.refl rfl (List.mem_of_getElem? (i := 1) rfl) fun T N => ?_
  refine N.callV (pc := 23) (c_sbAppend G (a := a17) (b := b) (x := ag) (cs := ([] ++ ks ++ [58])) (xs := gs) (by simp; omega)) 0 [0, 1] [4] d39_23 (w131 hw) (w132 hw) (w134 hw) (w133 hw) (w115 hw) (w135 hw) rfl (by decide) pd24 rfl (st := []) rfl rfl rfl (by decide) (by decide) (ltAll rfl) rfl (Nat.le_of_ble_eq_true rfl) (Nat.le_of_ble_eq_true rfl) (Nat.le_of_ble_eq_true rfl) (Nat.le_of_ble_eq_true rfl) fun v O' FN vm T hQ N => ?_
  obtain ⟨rfl, rfl, rfl⟩ := hQ
  replace N := N.cast3 (O' := [(a17, .inl ("java/lang/StringBuilder", [(("java/lang/AbstractStringBuilder", "value", "[B"), .ref b), (("java/lang/AbstractStringBuilder", "coder", "B"), .int 0), (("java/lang/AbstractStringBuilder", "count", "I"), .int ((([] ++ ks ++ [58]) ++ gs).length.toInt32))])), (b, aO .byte (sbA (([] ++ ks ++ [58]) ++ gs)))]) (RO' := [(a, .inl ("com/example/shoalwork/shoalwork/task/TaskSpec", [(("com/example/shoalwork/shoalwork/task/TaskSpec", "kind", "Ljava/lang/String;"), .ref ak), (("com/example/shoalwork/shoalwork/task/TaskSpec", "argument", "Ljava/lang/String;"), .ref ag)])), (ak, tO ks), (ag, tO gs), (ak, sO bk), (bk, aO .byte (((ks).map by8).map Value.int)), (ag, sO bg), (bg, aO .byte (((gs).map by8).map Value.int))]) (FZ' := [(s18, sO t19), (t19, aO .byte [.int 58]), (s18, tO ([58]))]) rfl rfl rfl
  show Goes p e below _ (T.setTop (mkF m 26 #[.val (.ref a)] [.ref a17]))
  refine N.callV (pc := 26) (c_sbToString G (a := a17) (b := b) (cs := ([] ++ ks ++ [58] ++ gs)) (by simp; omega) (lat3 hc_ak hc_ag)) 0 [] [0, 1] d39_26 (w170 hw) (w171 hw) (w173 hw) (w172 hw) (w115 hw) (w174 hw) rfl (by decide) pd25 rfl (st := []) rfl rfl rfl (by decide) (by decide) (ltAll rfl) rfl (Nat.le_of_ble_eq_true rfl) (Nat.le_of_ble_eq_true rfl) (Nat.le_of_ble_eq_true rfl) (Nat.le_of_ble_eq_true rfl) fun v O' FN vm T hQ N => ?_
  obtain ⟨r, rfl, rfl, rfl⟩ := hQ
  replace N := N.cast3 (O' := [(a17, .inl ("java/lang/StringBuilder", [(("java/lang/AbstractStringBuilder", "value", "[B"), .ref b), (("java/lang/AbstractStringBuilder", "coder", "B"), .int 0), (("java/lang/AbstractStringBuilder", "count", "I"), .int ((([] ++ ks ++ [58]) ++ gs).length.toInt32))])), (b, aO .byte (sbA (([] ++ ks ++ [58]) ++ gs)))]) (RO' := [(a, .inl ("com/example/shoalwork/shoalwork/task/TaskSpec", [(("com/example/shoalwork/shoalwork/task/TaskSpec", "kind", "Ljava/lang/String;"), .ref ak), (("com/example/shoalwork/shoalwork/task/TaskSpec", "argument", "Ljava/lang/String;"), .ref ag)])), (ak, tO ks), (ag, tO gs), (ak, sO bk), (bk, aO .byte (((ks).map by8).map Value.int)), (ag, sO bg), (bg, aO .byte (((gs).map by8).map Value.int))]) (FZ' := [(s18, sO t19), (t19, aO .byte [.int 58]), (s18, tO ([58])), (r, tO ([] ++ ks ++ [58] ++ gs))]) rfl rfl rfl
  show Goes p e below _ (T.setTop (mkF m 29 #[.val (.ref a)] [.ref r]))
  replace N := N.freeze (O' := [(b, aO .byte (sbA (([] ++ ks ++ [58]) ++ gs)))]) 0 rfl (Nat.le_of_ble_eq_true rfl) rfl
  replace N := N.freeze (O' := []) 0 rfl (Nat.le_of_ble_eq_true rfl) rfl
  show Goes p e below _ (T.setTop (mkF m 29 #[.val (.ref a)] [.ref r]))
  exact N.areturn (pc := 29) [(r, tO ([] ++ ks ++ [58] ++ gs))] (List.forall_mem_cons.mpr ⟨List.mem_of_getElem? (i := 0) rfl, (List.forall_mem_cons.mpr ⟨List.mem_of_getElem? (i := 1) rfl, (List.forall_mem_cons.mpr ⟨List.mem_of_getElem? (i := 2) rfl, (List.forall_mem_nil _)⟩)⟩)⟩) (List.forall_mem_cons.mpr ⟨List.mem_of_getElem? (i := 3) rfl, (List.forall_mem_nil _)⟩) (Nat.le_of_ble_eq_true rfl) (Nat.le_of_ble_eq_true rfl) (t := (.object "java/lang/String")) d39_29 rfl rfl rfl rfl ⟨_, rfl, rfl, by rw [List.nil_append]⟩

set_option maxRecDepth 65536 in
set_option maxHeartbeats 4000000 in
theorem c_checkIxn {l : Launch} {Z : State} {a0 : Array Value} (G : Glob Z a0) {x y : Int32} (h0 : ¬ x < 0) (h1 : x < y) : Con NR ELs l Z (⟨"jdk/internal/util/Preconditions", "checkIndex", "(IILjava/util/function/BiFunction;)I"⟩ : MethodName) jdk_41_method_11_code 3 (Option.some Jvm.ClassFile.FieldType.int) ({ frames := 0, cells := 0, slots := 0, locals := 0 } : Room) [.int x, .int y, .null] [] [] (fun v O' FN => v = some (.int x) ∧ O' = [] ∧ FN = []) := by
  have hw := G.1
  refine Con.intro (own := "jdk/internal/util/Preconditions") (name := "checkIndex") (plainFor_of_name pn10) rfl rfl ⟨_, G.2.1⟩ #[.val (.int x), .val (.int y), .val (.null)] rfl ?_
  intro p e s m below meth c T N
  refine N.iloadN (pc := 0) d40_0 rfl ?_
  refine N.ifltF (pc := 1) d40_1 h0 ?_
  refine N.iloadN (pc := 4) d40_4 rfl ?_
  refine N.iloadN (pc := 5) d40_5 rfl ?_
  refine N.icmpltT (pc := 6) (pc' := 16) d40_6 rfl h1 ?_
  refine N.iloadN (pc := 16) d40_16 rfl ?_
  exact N.ireturn (pc := 17) [] (fun _ h => h) (List.forall_mem_nil _) (Nat.le_of_ble_eq_true rfl) (Nat.le_of_ble_eq_true rfl) (t := .int) d40_17 rfl (by simp) rfl ⟨rfl, rfl, rfl⟩

set_option maxRecDepth 65536 in
set_option maxHeartbeats 4000000 in
theorem c_checkIx {l : Launch} {Z : State} {a0 : Array Value} (G : Glob Z a0) {x y : Int32} {f : Addr} (h0 : ¬ x < 0) (h1 : x < y) : Con NR ELs l Z (⟨"jdk/internal/util/Preconditions", "checkIndex", "(IILjava/util/function/BiFunction;)I"⟩ : MethodName) jdk_41_method_11_code 3 (Option.some Jvm.ClassFile.FieldType.int) ({ frames := 0, cells := 0, slots := 0, locals := 0 } : Room) [.int x, .int y, .ref f] [] [] (fun v O' FN => v = some (.int x) ∧ O' = [] ∧ FN = []) := by
  have hw := G.1
  refine Con.intro (own := "jdk/internal/util/Preconditions") (name := "checkIndex") (plainFor_of_name pn10) rfl rfl ⟨_, G.2.1⟩ #[.val (.int x), .val (.int y), .val (.ref f)] rfl ?_
  intro p e s m below meth c T N
  refine N.iloadN (pc := 0) d40_0 rfl ?_
  refine N.ifltF (pc := 1) d40_1 h0 ?_
  refine N.iloadN (pc := 4) d40_4 rfl ?_
  refine N.iloadN (pc := 5) d40_5 rfl ?_
  refine N.icmpltT (pc := 6) (pc' := 16) d40_6 rfl h1 ?_
  refine N.iloadN (pc := 16) d40_16 rfl ?_
  exact N.ireturn (pc := 17) [] (fun _ h => h) (List.forall_mem_nil _) (Nat.le_of_ble_eq_true rfl) (Nat.le_of_ble_eq_true rfl) (t := .int) d40_17 rfl (by simp) rfl ⟨rfl, rfl, rfl⟩

set_option maxRecDepth 65536 in
set_option maxHeartbeats 4000000 in
theorem c_checkIndex {l : Launch} {Z : State} {a0 : Array Value} (G : Glob Z a0) {x y : Int32} (h0 : ¬ x < 0) (h1 : x < y) : Con NR ELs l Z (⟨"java/lang/String", "checkIndex", "(II)V"⟩ : MethodName) jdk_42_method_155_code 2 (Option.none : Option Jvm.ClassFile.FieldType) ({ frames := 1, cells := 0, slots := 0, locals := 14 } : Room) [.int x, .int y] [] [] (fun v O' FN => v = none ∧ O' = [] ∧ FN = []) := by
  have hw := G.1
  refine Con.intro (own := "java/lang/String") (name := "checkIndex") (plainFor_of_name pn1) rfl rfl ⟨_, G.2.1⟩ #[.val (.int x), .val (.int y)] rfl ?_
  intro p e s m below meth c T N
  refine N.iloadN (pc := 0) d41_0 rfl ?_
  refine N.iloadN (pc := 1) d41_1 rfl ?_
  obtain ⟨fv, hfv, hS⟩ := G.fmt
  refine N.getstatic (pc := 2) d41_2 (w224 hw) Via.refl hS fun T N => ?_
  obtain rfl | ⟨fa, rfl⟩ : fv = .null ∨ ∃ fa, fv = .ref fa := by cases fv <;> simp [Value.isRef] at hfv ⊢
  · refine N.callS (pc := 5) (c_checkIxn G (x := x) (y := y) h0 h1) [] [] d41_5 (w226 hw) (w227 hw) (w225 hw) (w228 hw) (by decide) pd26 rfl (st := []) rfl rfl rfl (by decide) (by decide) (ltAll rfl) rfl (Nat.le_of_ble_eq_true rfl) (Nat.le_of_ble_eq_true rfl) (Nat.le_of_ble_eq_true rfl) (Nat.le_of_ble_eq_true rfl) fun v O' FN vm T hQ N => ?_
    obtain ⟨rfl, rfl, rfl⟩ := hQ
    replace N := N.cast3 (O' := []) (RO' := []) (FZ' := []) rfl rfl rfl
    show Goes p e below _ (T.setTop (mkF m 8 #[.val (.int x), .val (.int y)] [.int x]))
    refine N.pop (pc := 8) d41_8 rfl ?_
    exact N.retV (pc := 9) [] (fun _ h => h) (List.forall_mem_nil _) (Nat.le_of_ble_eq_true rfl) (Nat.le_of_ble_eq_true rfl) d41_9 rfl ⟨rfl, rfl, rfl⟩
  · refine N.callS (pc := 5) (c_checkIx G (x := x) (y := y) h0 h1 (f := fa)) [] [] d41_5 (w226 hw) (w227 hw) (w225 hw) (w228 hw) (by decide) pd26 rfl (st := []) rfl rfl rfl (by decide) (by decide) (ltAll rfl) rfl (Nat.le_of_ble_eq_true rfl) (Nat.le_of_ble_eq_true rfl) (Nat.le_of_ble_eq_true rfl) (Nat.le_of_ble_eq_true rfl) fun v O' FN vm T hQ N => ?_
    obtain ⟨rfl, rfl, rfl⟩ := hQ
    replace N := N.cast3 (O' := []) (RO' := []) (FZ' := []) rfl rfl rfl
    show Goes p e below _ (T.setTop (mkF m 8 #[.val (.int x), .val (.int y)] [.int x]))
    refine N.pop (pc := 8) d41_8 rfl ?_
    exact N.retV (pc := 9) [] (fun _ h => h) (List.forall_mem_nil _) (Nat.le_of_ble_eq_true rfl) (Nat.le_of_ble_eq_true rfl) d41_9 rfl ⟨rfl, rfl, rfl⟩

set_option maxRecDepth 65536 in
set_option maxHeartbeats 4000000 in
theorem c_lat1CharAt {l : Launch} {Z : State} {a0 : Array Value} (G : Glob Z a0) {cs : List Int32} {i : Nat} {x : Int32} (hi : i < cs.length) (hx : cs[i] = x) {b : Addr} (hc : ∀ x ∈ cs, Lat x) : Con NR ELs l Z (⟨"java/lang/StringLatin1", "charAt", "([BI)C"⟩ : MethodName) jdk_43_method_2_code 2 (Option.some Jvm.ClassFile.FieldType.char) ({ frames := 2, cells := 0, slots := 0, locals := 27 } : Room) [.ref b, .int i.toInt32] [] [(b, aO .byte ((cs.map by8).map Value.int))] (fun v O' FN => v = some (.int x) ∧ O' = [] ∧ FN = []) := by
  have hw := G.1
  refine Con.intro (own := "java/lang/StringLatin1") (name := "charAt") (plainFor_of_name pn2) rfl rfl ⟨_, G.2.1⟩ #[.val (.ref b), .val (.int i.toInt32)] rfl ?_
  intro p e s m below meth c T N
  have hl : cs.length < 2 ^ 31 := len_str (N.is (i := 0) rfl)
  have hi31 : i < 2 ^ 31 := by omega
  have lx : Lat x := hx ▸ hc _ (List.getElem_mem hi)
  refine N.iloadN (pc := 0) d42_0 rfl ?_
  refine N.aloadN (pc := 1) d42_1 rfl rfl ?_
  refine N.arraylength (pc := 2) cs.length.toInt32 0 d42_2 rfl (by rw [List.length_map, List.length_map]) ?_
  refine N.callS (pc := 3) (c_checkIndex G (x := i.toInt32) (y := cs.length.toInt32) (n_nneg hi31) ((n_lt hi31 hl).mpr hi)) [] [] d42_3 (w221 hw) (w222 hw) (w10 hw) (w223 hw) (by decide) pd10 rfl (st := []) rfl rfl rfl (by decide) (by decide) (ltAll rfl) rfl (Nat.le_of_ble_eq_true rfl) (Nat.le_of_ble_eq_true rfl) (Nat.le_of_ble_eq_true rfl) (Nat.le_of_ble_eq_true rfl) fun v O' FN vm T hQ N => ?_
  obtain ⟨rfl, rfl, rfl⟩ := hQ
  replace N := N.cast3 (O' := []) (RO' := [(b, aO .byte ((cs.map by8).map Value.int))]) (FZ' := []) rfl rfl rfl
  show Goes p e below _ (T.setTop (mkF m 6 #[.val (.ref b), .val (.int i.toInt32)] []))
  refine N.aloadN (pc := 6) d42_6 rfl rfl ?_
  refine N.iloadN (pc := 7) d42_7 rfl ?_
  refine N.baload (pc := 8) (v := .int (by8 x)) 0 i d42_8 rfl (n_nat hi31) (n_nneg hi31) (by simp [hi, hx]) ?_
  refine N.sipush (pc := 9) 255 d42_9 rfl ?_
  refine N.iand (pc := 12) d42_12 ?_
  rw [by8_and lx]
  refine N.i2c (pc := 13) d42_13 ?_
  rw [i2c_lat lx]
  exact N.ireturn (pc := 14) [] (fun _ h => h) (List.forall_mem_nil _) (Nat.le_of_ble_eq_true rfl) (Nat.le_of_ble_eq_true rfl) (t := .char) d42_14 rfl (by simp) (narrow_lat lx) ⟨rfl, rfl, rfl⟩

set_option maxRecDepth 65536 in
set_option maxHeartbeats 4000000 in
theorem c_charAt {l : Launch} {Z : State} {a0 : Array Value} (G : Glob Z a0) {cs : List Int32} {i : Nat} {x : Int32} (hi : i < cs.length) (hx : cs[i] = x) {a : Addr} : Con NR ELs l Z (⟨"java/lang/String", "charAt", "(I)C"⟩ : MethodName) jdk_42_method_56_code 2 (Option.some Jvm.ClassFile.FieldType.char) ({ frames := 3, cells := 0, slots := 0, locals := 40 } : Room) [.ref a, .int i.toInt32] [] [(a, tO cs)] (fun v O' FN => v = some (.int x) ∧ O' = [] ∧ FN = []) := by
  have hw := G.1
  refine Con.intro (own := "java/lang/String") (name := "charAt") (plainFor_of_name pn1) rfl rfl ⟨_, G.2.1⟩ #[.val (.ref a), .val (.int i.toInt32)] rfl ?_
  intro p e s m below meth c T N
  obtain ⟨hc_a, b, N⟩ := N.openR 0 rfl
  replace N := N.cast3 (O' := []) (RO' := [(a, tO cs), (a, sO b), (b, aO .byte (((cs).map by8).map Value.int))]) (FZ' := []) rfl rfl rfl
  have lx : Lat x := hx ▸ hc_a _ (List.getElem_mem hi)
  refine N.aloadN (pc := 0) d43_0 rfl rfl ?_
  refine N.callV (pc := 1) (c_isLatin1 G (a := a) (b := b)) 1 [] [1] d43_1 (w72 hw) (w73 hw) (w75 hw) (w74 hw) (w10 hw) (w76 hw) rfl (by decide) pd8 rfl (st := []) rfl rfl rfl (by decide) (by decide) (ltAll rfl) rfl (Nat.le_of_ble_eq_true rfl) (Nat.le_of_ble_eq_true rfl) (Nat.le_of_ble_eq_true rfl) (Nat.le_of_ble_eq_true rfl) fun v O' FN vm T hQ N => ?_
  obtain ⟨rfl, rfl, rfl⟩ := hQ
  replace N := N.cast3 (O' := []) (RO' := [(a, tO cs), (a, sO b), (b, aO .byte (((cs).map by8).map Value.int))]) (FZ' := []) rfl rfl rfl
  show Goes p e below _ (T.setTop (mkF m 4 #[.val (.ref a), .val (.int i.toInt32)] [.int 1]))
  refine N.ifeqF (pc := 4) d43_4 (by decide) ?_
  refine N.aloadN (pc := 7) d43_7 rfl rfl ?_
  refine N.getfield (pc := 8) 1 d43_8 (w35 hw) Via.refl rfl (List.mem_of_getElem? (i := 0) rfl) fun T N => ?_
  refine N.iloadN (pc := 11) d43_11 rfl ?_
  refine N.callS (pc := 12) (c_lat1CharAt G (cs := cs) (i := i) (x := x) hi hx (b := b) hc_a) [] [2] d43_12 (w218 hw) (w219 hw) (w89 hw) (w220 hw) (by decide) pd27 rfl (st := []) rfl rfl rfl (by decide) (by decide) (ltAll rfl) rfl (Nat.le_of_ble_eq_true rfl) (Nat.le_of_ble_eq_true rfl) (Nat.le_of_ble_eq_true rfl) (Nat.le_of_ble_eq_true rfl) fun v O' FN vm T hQ N => ?_
  obtain ⟨rfl, rfl, rfl⟩ := hQ
  replace N := N.cast3 (O' := []) (RO' := [(a, tO cs), (a, sO b), (b, aO .byte (((cs).map by8).map Value.int))]) (FZ' := []) rfl rfl rfl
  show Goes p e below _ (T.setTop (mkF m 15 #[.val (.ref a), .val (.int i.toInt32)] [.int x]))
  exact N.ireturn (pc := 15) [] (List.forall_mem_cons.mpr ⟨List.mem_of_getElem? (i := 0) rfl, (List.forall_mem_nil _)⟩) (List.forall_mem_nil _) (Nat.le_of_ble_eq_true rfl) (Nat.le_of_ble_eq_true rfl) (t := .char) d43_15 rfl (by simp) (narrow_lat lx) ⟨rfl, rfl, rfl⟩

set_option maxRecDepth 65536 in
set_option maxHeartbeats 4000000 in
theorem c_law {l : Launch} {Z : State} {a0 : Array Value} (G : Glob Z a0) (i0 i1 i2 : Int32) : ConW NR ELs l Z tables_1 x code maxLocals ret room_1 [.int i0, .int i1, .int i2] [] [] (fun v O' FN => v = some (.int 1)) := by
  have hw := G.1
  refine Con.intro (own := "com/example/shoalwork/shoalwork/task/TaskSpecToStringPinLaw") (name := "law") (plainFor_of_name pn4) rfl rfl ⟨_, G.2.1⟩ #[.val (.int i0), .val (.int i1), .val (.int i2), .unset, .unset, .unset, .unset, .unset, .unset, .unset, .unset, .unset, .unset] rfl ?_
  intro p e s m below meth c T N
  refine N.iconst (pc := 0) 1 at_0 rfl ?_
  refine N.iloadN (pc := 1) at_1 rfl ?_
  refine N.iconst (pc := 2) 1 at_2 rfl ?_
  refine N.iand (pc := 3) at_3 ?_
  refine N.iadd (pc := 4) at_4 ?_
  obtain ⟨p2, hp2, e2⟩ := mod3 (lat_and (ushr i2 1))
  rcases and1 i2 with e1 | e1
  · rw [show (1 : Int32) + (i2 &&& 1) = 1 from by rw [e1]; decide]
    refine N.istoreN (pc := 5) (l' := #[.val (.int i0), .val (.int i1), .val (.int i2), .val (.int 1), .unset, .unset, .unset, .unset, .unset, .unset, .unset, .unset, .unset]) at_5 rfl ?_
    refine N.iloadN (pc := 6) at_6 rfl ?_
    refine N.iconst (pc := 7) 1 at_7 rfl ?_
    refine N.iushr (pc := 8) at_8 ?_
    refine N.sipush (pc := 9) 255 at_9 rfl ?_
    refine N.iand (pc := 12) at_12 ?_
    refine N.iconst (pc := 13) 3 at_13 rfl ?_
    refine N.irem (pc := 14) at_14 (by decide) ?_
    rw [e2]
    obtain rfl | rfl | rfl : p2 = 0 ∨ p2 = 1 ∨ p2 = 2 := by omega
    · show Goes p e below _ (T.setTop (mkF m 15 #[.val (.int i0), .val (.int i1), .val (.int i2), .val (.int 1), .unset, .unset, .unset, .unset, .unset, .unset, .unset, .unset, .unset] [.int 0]))
      refine N.istore (pc := 15) (l' := #[.val (.int i0), .val (.int i1), .val (.int i2), .val (.int 1), .val (.int 0), .unset, .unset, .unset, .unset, .unset, .unset, .unset, .unset]) at_15 rfl ?_
      refine N.iloadN (pc := 17) at_17 rfl ?_
      refine N.callS (pc := 18) (c_kindChar G (x := i0)) [] [] at_18 (w0 hw) (w1 hw) (w2 hw) (w3 hw) (by decide) pd28 rfl (st := []) rfl rfl rfl (by decide) (by decide) (ltAll rfl) rfl (Nat.le_of_ble_eq_true rfl) (Nat.le_of_ble_eq_true rfl) (Nat.le_of_ble_eq_true rfl) (Nat.le_of_ble_eq_true rfl) fun v O' FN vm T hQ N => ?_
      obtain ⟨rfl, rfl, rfl⟩ := hQ
      replace N := N.cast3 (O' := []) (RO' := []) (FZ' := []) rfl rfl rfl
      show Goes p e below _ (T.setTop (mkF m 21 #[.val (.int i0), .val (.int i1), .val (.int i2), .val (.int 1), .val (.int 0), .unset, .unset, .unset, .unset, .unset, .unset, .unset, .unset] [.int (kc i0)]))
      refine N.istore (pc := 21) (l' := #[.val (.int i0), .val (.int i1), .val (.int i2), .val (.int 1), .val (.int 0), .val (.int (kc i0)), .unset, .unset, .unset, .unset, .unset, .unset, .unset]) at_21 rfl ?_
      refine N.iloadN (pc := 23) at_23 rfl ?_
      refine N.bipush (pc := 24) 8 at_24 rfl ?_
      refine N.iushr (pc := 26) at_26 ?_
      refine N.callS (pc := 27) (c_kindChar G (x := ushr i0 8)) [] [] at_27 (w0 hw) (w1 hw) (w2 hw) (w3 hw) (by decide) pd28 rfl (st := []) rfl rfl rfl (by decide) (by decide) (ltAll rfl) rfl (Nat.le_of_ble_eq_true rfl) (Nat.le_of_ble_eq_true rfl) (Nat.le_of_ble_eq_true rfl) (Nat.le_of_ble_eq_true rfl) fun v O' FN vm T hQ N => ?_
      obtain ⟨rfl, rfl, rfl⟩ := hQ
      replace N := N.cast3 (O' := []) (RO' := []) (FZ' := []) rfl rfl rfl
      show Goes p e below _ (T.setTop (mkF m 30 #[.val (.int i0), .val (.int i1), .val (.int i2), .val (.int 1), .val (.int 0), .val (.int (kc i0)), .unset, .unset, .unset, .unset, .unset, .unset, .unset] [.int (kc (ushr i0 8))]))
      refine N.istore (pc := 30) (l' := #[.val (.int i0), .val (.int i1), .val (.int i2), .val (.int 1), .val (.int 0), .val (.int (kc i0)), .val (.int (kc (ushr i0 8))), .unset, .unset, .unset, .unset, .unset, .unset]) at_30 rfl ?_
      refine N.iloadN (pc := 32) at_32 rfl ?_
      refine N.sipush (pc := 33) 255 at_33 rfl ?_
      refine N.iand (pc := 36) at_36 ?_
      refine N.i2c (pc := 37) at_37 ?_
      rw [i2c_mask]
      refine N.istore (pc := 38) (l' := #[.val (.int i0), .val (.int i1), .val (.int i2), .val (.int 1), .val (.int 0), .val (.int (kc i0)), .val (.int (kc (ushr i0 8))), .val (.int (i1 &&& 255)), .unset, .unset, .unset, .unset, .unset]) at_38 rfl ?_
      refine N.iloadN (pc := 40) at_40 rfl ?_
      refine N.bipush (pc := 41) 8 at_41 rfl ?_
      refine N.iushr (pc := 43) at_43 ?_
      refine N.sipush (pc := 44) 255 at_44 rfl ?_
      refine N.iand (pc := 47) at_47 ?_
      refine N.i2c (pc := 48) at_48 ?_
      rw [i2c_mask]
      refine N.istore (pc := 49) (l' := #[.val (.int i0), .val (.int i1), .val (.int i2), .val (.int 1), .val (.int 0), .val (.int (kc i0)), .val (.int (kc (ushr i0 8))), .val (.int (i1 &&& 255)), .val (.int ((ushr i1 8) &&& 255)), .unset, .unset, .unset, .unset]) at_49 rfl ?_
      refine N.iloadN (pc := 51) at_51 rfl ?_
      refine N.iload (pc := 52) at_52 rfl ?_
      refine N.iload (pc := 54) at_54 rfl ?_
      refine N.callS (pc := 56) (c_make1 G (x1 := kc i0) (x2 := kc (ushr i0 8)) (lat_kc _) (lat_kc _)) [] [] at_56 (w4 hw) (w5 hw) (w2 hw) (w6 hw) (by decide) pd29 rfl (st := []) rfl rfl rfl (by decide) (by decide) (ltAll rfl) rfl (Nat.le_of_ble_eq_true rfl) (Nat.le_of_ble_eq_true rfl) (Nat.le_of_ble_eq_true rfl) (Nat.le_of_ble_eq_true rfl) fun v O' FN vm T hQ N => ?_
      obtain ⟨r20, rfl, rfl, rfl⟩ := hQ
      replace N := N.cast3 (O' := []) (RO' := []) (FZ' := [(r20, tO ([kc i0]))]) rfl rfl rfl
      show Goes p e below _ (T.setTop (mkF m 59 #[.val (.int i0), .val (.int i1), .val (.int i2), .val (.int 1), .val (.int 0), .val (.int (kc i0)), .val (.int (kc (ushr i0 8))), .val (.int (i1 &&& 255)), .val (.int ((ushr i1 8) &&& 255)), .unset, .unset, .unset, .unset] [.ref r20]))
      refine N.astore (pc := 59) (l' := #[.val (.int i0), .val (.int i1), .val (.int i2), .val (.int 1), .val (.int 0), .val (.int (kc i0)), .val (.int (kc (ushr i0 8))), .val (.int (i1 &&& 255)), .val (.int ((ushr i1 8) &&& 255)), .val (.ref r20), .unset, .unset, .unset]) at_59 rfl rfl ?_
      refine N.iload (pc := 61) at_61 rfl ?_
      refine N.iload (pc := 63) at_63 rfl ?_
      refine N.iload (pc := 65) at_65 rfl ?_
      refine N.callS (pc := 67) (c_make0 G (x1 := i1 &&& 255) (x2 := (ushr i1 8) &&& 255) (lat_and _) (lat_and _)) [] [] at_67 (w4 hw) (w5 hw) (w2 hw) (w6 hw) (by decide) pd29 rfl (st := []) rfl rfl rfl (by decide) (by decide) (ltAll rfl) rfl (Nat.le_of_ble_eq_true rfl) (Nat.le_of_ble_eq_true rfl) (Nat.le_of_ble_eq_true rfl) (Nat.le_of_ble_eq_true rfl) fun v O' FN vm T hQ N => ?_
      obtain ⟨r21, rfl, rfl, rfl⟩ := hQ
      replace N := N.cast3 (O' := []) (RO' := []) (FZ' := [(r20, tO ([kc i0])), (r21, tO ([]))]) rfl rfl rfl
      show Goes p e below _ (T.setTop (mkF m 70 #[.val (.int i0), .val (.int i1), .val (.int i2), .val (.int 1), .val (.int 0), .val (.int (kc i0)), .val (.int (kc (ushr i0 8))), .val (.int (i1 &&& 255)), .val (.int ((ushr i1 8) &&& 255)), .val (.ref r20), .unset, .unset, .unset] [.ref r21]))
      refine N.astore (pc := 70) (l' := #[.val (.int i0), .val (.int i1), .val (.int i2), .val (.int 1), .val (.int 0), .val (.int (kc i0)), .val (.int (kc (ushr i0 8))), .val (.int (i1 &&& 255)), .val (.int ((ushr i1 8) &&& 255)), .val (.ref r20), .val (.ref r21), .unset, .unset]) at_70 rfl rfl ?_
      refine N.new (pc := 72) at_72 (w37 hw) (w38 hw) (w39 hw) (lay_com_example_shoalwork_shoalwork_task_TaskSpec hw) (Nat.le_of_ble_eq_true rfl) (Nat.le_of_ble_eq_true rfl) fun a22 T l_a22 N => ?_
      replace N := N.cast (O' := [(a22, .inl ("com/example/shoalwork/shoalwork/task/TaskSpec", [(("com/example/shoalwork/shoalwork/task/TaskSpec", "kind", "Ljava/lang/String;"), .null), (("com/example/shoalwork/shoalwork/task/TaskSpec", "argument", "Ljava/lang/String;"), .null)]))]) rfl
      refine N.dup (pc := 75) at_75 rfl ?_
      refine N.aload (pc := 76) at_76 rfl rfl ?_
      refine N.aload (pc := 78) at_78 rfl rfl ?_
      refine N.callI (pc := 80) (c_tsInit G (a := a22) (ak := r20) (ag := r21) (ks := [kc i0]) (gs := []) (by simp) (List.forall_mem_cons.mpr ⟨kc_ne _, fun _ h => nomatch h⟩)) [0] [1, 2] at_80 rfl (w40 hw) (w41 hw) (w39 hw) (w42 hw) (by decide) pd30 rfl (st := [.ref a22]) rfl rfl rfl (by decide) (by decide) (ltAll rfl) rfl (Nat.le_of_ble_eq_true rfl) (Nat.le_of_ble_eq_true rfl) (Nat.le_of_ble_eq_true rfl) (Nat.le_of_ble_eq_true rfl) fun v O' FN vm T hQ N => ?_
      obtain ⟨rfl, rfl, rfl⟩ := hQ
      replace N := N.cast3 (O' := [(a22, .inl ("com/example/shoalwork/shoalwork/task/TaskSpec", [(("com/example/shoalwork/shoalwork/task/TaskSpec", "kind", "Ljava/lang/String;"), .ref r20), (("com/example/shoalwork/shoalwork/task/TaskSpec", "argument", "Ljava/lang/String;"), .ref r21)]))]) (RO' := []) (FZ' := [(r20, tO ([kc i0])), (r21, tO ([]))]) rfl rfl rfl
      show Goes p e below _ (T.setTop (mkF m 83 #[.val (.int i0), .val (.int i1), .val (.int i2), .val (.int 1), .val (.int 0), .val (.int (kc i0)), .val (.int (kc (ushr i0 8))), .val (.int (i1 &&& 255)), .val (.int ((ushr i1 8) &&& 255)), .val (.ref r20), .val (.ref r21), .unset, .unset] [.ref a22]))
      refine N.astore (pc := 83) (l' := #[.val (.int i0), .val (.int i1), .val (.int i2), .val (.int 1), .val (.int 0), .val (.int (kc i0)), .val (.int (kc (ushr i0 8))), .val (.int (i1 &&& 255)), .val (.int ((ushr i1 8) &&& 255)), .val (.ref r20), .val (.ref r21), .val (.ref a22), .unset]) at_83 rfl rfl ?_
      refine N.aload (pc := 85) at_85 rfl rfl ?_
      refine N.callV (pc := 87) (c_tsToString G (a := a22) (ak := r20) (ag := r21) (ks := [kc i0]) (gs := []) (by simp) (by simp)) 0 [] [0, 1, 2] at_87 (w108 hw) (w109 hw) (w111 hw) (w110 hw) (w39 hw) (w112 hw) rfl (by decide) pd25 rfl (st := []) rfl rfl rfl (by decide) (by decide) (ltAll rfl) rfl (Nat.le_of_ble_eq_true rfl) (Nat.le_of_ble_eq_true rfl) (Nat.le_of_ble_eq_true rfl) (Nat.le_of_ble_eq_true rfl) fun v O' FN vm T hQ N => ?_
      obtain ⟨r23, rfl, rfl, rfl⟩ := hQ
      replace N := N.cast3 (O' := [(a22, .inl ("com/example/shoalwork/shoalwork/task/TaskSpec", [(("com/example/shoalwork/shoalwork/task/TaskSpec", "kind", "Ljava/lang/String;"), .ref r20), (("com/example/shoalwork/shoalwork/task/TaskSpec", "argument", "Ljava/lang/String;"), .ref r21)]))]) (RO' := []) (FZ' := [(r20, tO ([kc i0])), (r21, tO ([])), (r23, tO ([kc i0, 58]))]) rfl rfl rfl
      show Goes p e below _ (T.setTop (mkF m 90 #[.val (.int i0), .val (.int i1), .val (.int i2), .val (.int 1), .val (.int 0), .val (.int (kc i0)), .val (.int (kc (ushr i0 8))), .val (.int (i1 &&& 255)), .val (.int ((ushr i1 8) &&& 255)), .val (.ref r20), .val (.ref r21), .val (.ref a22), .unset] [.ref r23]))
      obtain ⟨hc_r23, bx, N⟩ := N.openF 2 rfl
      replace N := N.cast3 (O' := [(a22, .inl ("com/example/shoalwork/shoalwork/task/TaskSpec", [(("com/example/shoalwork/shoalwork/task/TaskSpec", "kind", "Ljava/lang/String;"), .ref r20), (("com/example/shoalwork/shoalwork/task/TaskSpec", "argument", "Ljava/lang/String;"), .ref r21)]))]) (RO' := []) (FZ' := [(r20, tO ([kc i0])), (r21, tO ([])), (r23, tO ([kc i0, 58])), (r23, sO bx), (bx, aO .byte ((([kc i0, 58]).map by8).map Value.int))]) rfl rfl rfl
      refine N.astore (pc := 90) (l' := #[.val (.int i0), .val (.int i1), .val (.int i2), .val (.int 1), .val (.int 0), .val (.int (kc i0)), .val (.int (kc (ushr i0 8))), .val (.int (i1 &&& 255)), .val (.int ((ushr i1 8) &&& 255)), .val (.ref r20), .val (.ref r21), .val (.ref a22), .val (.ref r23)]) at_90 rfl rfl ?_
      refine N.aload (pc := 92) at_92 rfl rfl ?_
      refine N.ifnonnullT (pc := 94) (pc' := 99) at_94 rfl ?_
      refine N.aload (pc := 99) at_99 rfl rfl ?_
      refine N.callV (pc := 101) (c_length G (a := r23) (cs := [kc i0, 58]) (z := 2) rfl) 4 [] [3] at_101 (w212 hw) (w78 hw) (w80 hw) (w79 hw) (w10 hw) (w81 hw) rfl (by decide) pd9 rfl (st := []) rfl rfl rfl (by decide) (by decide) (ltAll rfl) rfl (Nat.le_of_ble_eq_true rfl) (Nat.le_of_ble_eq_true rfl) (Nat.le_of_ble_eq_true rfl) (Nat.le_of_ble_eq_true rfl) fun v O' FN vm T hQ N => ?_
      obtain ⟨rfl, rfl, rfl⟩ := hQ
      replace N := N.cast3 (O' := [(a22, .inl ("com/example/shoalwork/shoalwork/task/TaskSpec", [(("com/example/shoalwork/shoalwork/task/TaskSpec", "kind", "Ljava/lang/String;"), .ref r20), (("com/example/shoalwork/shoalwork/task/TaskSpec", "argument", "Ljava/lang/String;"), .ref r21)]))]) (RO' := []) (FZ' := [(r20, tO ([kc i0])), (r21, tO ([])), (r23, tO ([kc i0, 58])), (r23, sO bx), (bx, aO .byte ((([kc i0, 58]).map by8).map Value.int))]) rfl rfl rfl
      show Goes p e below _ (T.setTop (mkF m 104 #[.val (.int i0), .val (.int i1), .val (.int i2), .val (.int 1), .val (.int 0), .val (.int (kc i0)), .val (.int (kc (ushr i0 8))), .val (.int (i1 &&& 255)), .val (.int ((ushr i1 8) &&& 255)), .val (.ref r20), .val (.ref r21), .val (.ref a22), .val (.ref r23)] [.int 2]))
      refine N.iloadN (pc := 104) at_104 rfl ?_
      refine N.iconst (pc := 105) 1 at_105 rfl ?_
      refine N.iadd (pc := 106) at_106 ?_
      refine N.iload (pc := 107) at_107 rfl ?_
      refine N.iadd (pc := 109) at_109 ?_
      refine N.icmpeqT (pc := 110) (pc' := 115) at_110 rfl rfl ?_
      refine N.aload (pc := 115) at_115 rfl rfl ?_
      refine N.iconst (pc := 117) 0 at_117 rfl ?_
      show Goes p e below _ (T.setTop (mkF m 118 #[.val (.int i0), .val (.int i1), .val (.int i2), .val (.int 1), .val (.int 0), .val (.int (kc i0)), .val (.int (kc (ushr i0 8))), .val (.int (i1 &&& 255)), .val (.int ((ushr i1 8) &&& 255)), .val (.ref r20), .val (.ref r21), .val (.ref a22), .val (.ref r23)] [.int 0, .ref r23]))
      refine N.callV (pc := 118) (c_charAt G (cs := [kc i0, 58]) (i := 0) (x := kc i0) (by simp) rfl (a := r23)) 4 [] [3] at_118 (w213 hw) (w214 hw) (w216 hw) (w215 hw) (w10 hw) (w217 hw) rfl (by decide) pd28 rfl (st := []) rfl rfl rfl (by decide) (by decide) (ltAll rfl) rfl (Nat.le_of_ble_eq_true rfl) (Nat.le_of_ble_eq_true rfl) (Nat.le_of_ble_eq_true rfl) (Nat.le_of_ble_eq_true rfl) fun v O' FN vm T hQ N => ?_
      obtain ⟨rfl, rfl, rfl⟩ := hQ
      replace N := N.cast3 (O' := [(a22, .inl ("com/example/shoalwork/shoalwork/task/TaskSpec", [(("com/example/shoalwork/shoalwork/task/TaskSpec", "kind", "Ljava/lang/String;"), .ref r20), (("com/example/shoalwork/shoalwork/task/TaskSpec", "argument", "Ljava/lang/String;"), .ref r21)]))]) (RO' := []) (FZ' := [(r20, tO ([kc i0])), (r21, tO ([])), (r23, tO ([kc i0, 58])), (r23, sO bx), (bx, aO .byte ((([kc i0, 58]).map by8).map Value.int))]) rfl rfl rfl
      show Goes p e below _ (T.setTop (mkF m 121 #[.val (.int i0), .val (.int i1), .val (.int i2), .val (.int 1), .val (.int 0), .val (.int (kc i0)), .val (.int (kc (ushr i0 8))), .val (.int (i1 &&& 255)), .val (.int ((ushr i1 8) &&& 255)), .val (.ref r20), .val (.ref r21), .val (.ref a22), .val (.ref r23)] [.int (kc i0)]))
      refine N.iload (pc := 121) at_121 rfl ?_
      refine N.icmpeqT (pc := 123) (pc' := 128) at_123 rfl rfl ?_
      refine N.iloadN (pc := 128) at_128 rfl ?_
      refine N.iconst (pc := 129) 2 at_129 rfl ?_
      refine N.icmpneT (pc := 130) (pc' := 146) at_130 rfl (by decide) ?_
      refine N.aload (pc := 146) at_146 rfl rfl ?_
      refine N.iloadN (pc := 148) at_148 rfl ?_
      show Goes p e below _ (T.setTop (mkF m 149 #[.val (.int i0), .val (.int i1), .val (.int i2), .val (.int 1), .val (.int 0), .val (.int (kc i0)), .val (.int (kc (ushr i0 8))), .val (.int (i1 &&& 255)), .val (.int ((ushr i1 8) &&& 255)), .val (.ref r20), .val (.ref r21), .val (.ref a22), .val (.ref r23)] [.int 1, .ref r23]))
      refine N.callV (pc := 149) (c_charAt G (cs := [kc i0, 58]) (i := 1) (x := 58) (by simp) rfl (a := r23)) 4 [] [3] at_149 (w213 hw) (w214 hw) (w216 hw) (w215 hw) (w10 hw) (w217 hw) rfl (by decide) pd28 rfl (st := []) rfl rfl rfl (by decide) (by decide) (ltAll rfl) rfl (Nat.le_of_ble_eq_true rfl) (Nat.le_of_ble_eq_true rfl) (Nat.le_of_ble_eq_true rfl) (Nat.le_of_ble_eq_true rfl) fun v O' FN vm T hQ N => ?_
      obtain ⟨rfl, rfl, rfl⟩ := hQ
      replace N := N.cast3 (O' := [(a22, .inl ("com/example/shoalwork/shoalwork/task/TaskSpec", [(("com/example/shoalwork/shoalwork/task/TaskSpec", "kind", "Ljava/lang/String;"), .ref r20), (("com/example/shoalwork/shoalwork/task/TaskSpec", "argument", "Ljava/lang/String;"), .ref r21)]))]) (RO' := []) (FZ' := [(r20, tO ([kc i0])), (r21, tO ([])), (r23, tO ([kc i0, 58])), (r23, sO bx), (bx, aO .byte ((([kc i0, 58]).map by8).map Value.int))]) rfl rfl rfl
      show Goes p e below _ (T.setTop (mkF m 152 #[.val (.int i0), .val (.int i1), .val (.int i2), .val (.int 1), .val (.int 0), .val (.int (kc i0)), .val (.int (kc (ushr i0 8))), .val (.int (i1 &&& 255)), .val (.int ((ushr i1 8) &&& 255)), .val (.ref r20), .val (.ref r21), .val (.ref a22), .val (.ref r23)] [.int 58]))
      refine N.bipush (pc := 152) 58 at_152 rfl ?_
      refine N.icmpeqT (pc := 154) (pc' := 159) at_154 rfl rfl ?_
      refine N.iload (pc := 159) at_159 rfl ?_
      refine N.iconst (pc := 161) 1 at_161 rfl ?_
      refine N.icmpltT (pc := 162) (pc' := 180) at_162 rfl (by decide) ?_
      refine N.iload (pc := 180) at_180 rfl ?_
      refine N.iconst (pc := 182) 2 at_182 rfl ?_
      refine N.icmpneT (pc := 183) (pc' := 201) at_183 rfl (by decide) ?_
      refine N.iconst (pc := 201) 1 at_201 rfl ?_
      exact N.ireturn (pc := 202) [] (fun _ h => h) (List.forall_mem_nil _) (Nat.le_of_ble_eq_true rfl) (Nat.le_of_ble_eq_true rfl) (t := .boolean) at_202 rfl (by simp) rfl rfl
    · show Goes p e below _ (T.setTop (mkF m 15 #[.val (.int i0), .val (.int i1), .val (.int i2), .val (.int 1), .unset, .unset, .unset, .unset, .unset, .unset, .unset, .unset, .unset] [.int 1]))
      refine N.istore (pc := 15) (l' := #[.val (.int i0), .val (.int i1), .val (.int i2), .val (.int 1), .val (.int 1), .unset, .unset, .unset, .unset, .unset, .unset, .unset, .unset]) at_15 rfl ?_
      refine N.iloadN (pc := 17) at_17 rfl ?_
      refine N.callS (pc := 18) (c_kindChar G (x := i0)) [] [] at_18 (w0 hw) (w1 hw) (w2 hw) (w3 hw) (by decide) pd28 rfl (st := []) rfl rfl rfl (by decide) (by decide) (ltAll rfl) rfl (Nat.le_of_ble_eq_true rfl) (Nat.le_of_ble_eq_true rfl) (Nat.le_of_ble_eq_true rfl) (Nat.le_of_ble_eq_true rfl) fun v O' FN vm T hQ N => ?_
      obtain ⟨rfl, rfl, rfl⟩ := hQ
      replace N := N.cast3 (O' := []) (RO' := []) (FZ' := []) rfl rfl rfl
      show Goes p e below _ (T.setTop (mkF m 21 #[.val (.int i0), .val (.int i1), .val (.int i2), .val (.int 1), .val (.int 1), .unset, .unset, .unset, .unset, .unset, .unset, .unset, .unset] [.int (kc i0)]))
      refine N.istore (pc := 21) (l' := #[.val (.int i0), .val (.int i1), .val (.int i2), .val (.int 1), .val (.int 1), .val (.int (kc i0)), .unset, .unset, .unset, .unset, .unset, .unset, .unset]) at_21 rfl ?_
      refine N.iloadN (pc := 23) at_23 rfl ?_
      refine N.bipush (pc := 24) 8 at_24 rfl ?_
      refine N.iushr (pc := 26) at_26 ?_
      refine N.callS (pc := 27) (c_kindChar G (x := ushr i0 8)) [] [] at_27 (w0 hw) (w1 hw) (w2 hw) (w3 hw) (by decide) pd28 rfl (st := []) rfl rfl rfl (by decide) (by decide) (ltAll rfl) rfl (Nat.le_of_ble_eq_true rfl) (Nat.le_of_ble_eq_true rfl) (Nat.le_of_ble_eq_true rfl) (Nat.le_of_ble_eq_true rfl) fun v O' FN vm T hQ N => ?_
      obtain ⟨rfl, rfl, rfl⟩ := hQ
      replace N := N.cast3 (O' := []) (RO' := []) (FZ' := []) rfl rfl rfl
      show Goes p e below _ (T.setTop (mkF m 30 #[.val (.int i0), .val (.int i1), .val (.int i2), .val (.int 1), .val (.int 1), .val (.int (kc i0)), .unset, .unset, .unset, .unset, .unset, .unset, .unset] [.int (kc (ushr i0 8))]))
      refine N.istore (pc := 30) (l' := #[.val (.int i0), .val (.int i1), .val (.int i2), .val (.int 1), .val (.int 1), .val (.int (kc i0)), .val (.int (kc (ushr i0 8))), .unset, .unset, .unset, .unset, .unset, .unset]) at_30 rfl ?_
      refine N.iloadN (pc := 32) at_32 rfl ?_
      refine N.sipush (pc := 33) 255 at_33 rfl ?_
      refine N.iand (pc := 36) at_36 ?_
      refine N.i2c (pc := 37) at_37 ?_
      rw [i2c_mask]
      refine N.istore (pc := 38) (l' := #[.val (.int i0), .val (.int i1), .val (.int i2), .val (.int 1), .val (.int 1), .val (.int (kc i0)), .val (.int (kc (ushr i0 8))), .val (.int (i1 &&& 255)), .unset, .unset, .unset, .unset, .unset]) at_38 rfl ?_
      refine N.iloadN (pc := 40) at_40 rfl ?_
      refine N.bipush (pc := 41) 8 at_41 rfl ?_
      refine N.iushr (pc := 43) at_43 ?_
      refine N.sipush (pc := 44) 255 at_44 rfl ?_
      refine N.iand (pc := 47) at_47 ?_
      refine N.i2c (pc := 48) at_48 ?_
      rw [i2c_mask]
      refine N.istore (pc := 49) (l' := #[.val (.int i0), .val (.int i1), .val (.int i2), .val (.int 1), .val (.int 1), .val (.int (kc i0)), .val (.int (kc (ushr i0 8))), .val (.int (i1 &&& 255)), .val (.int ((ushr i1 8) &&& 255)), .unset, .unset, .unset, .unset]) at_49 rfl ?_
      refine N.iloadN (pc := 51) at_51 rfl ?_
      refine N.iload (pc := 52) at_52 rfl ?_
      refine N.iload (pc := 54) at_54 rfl ?_
      refine N.callS (pc := 56) (c_make1 G (x1 := kc i0) (x2 := kc (ushr i0 8)) (lat_kc _) (lat_kc _)) [] [] at_56 (w4 hw) (w5 hw) (w2 hw) (w6 hw) (by decide) pd29 rfl (st := []) rfl rfl rfl (by decide) (by decide) (ltAll rfl) rfl (Nat.le_of_ble_eq_true rfl) (Nat.le_of_ble_eq_true rfl) (Nat.le_of_ble_eq_true rfl) (Nat.le_of_ble_eq_true rfl) fun v O' FN vm T hQ N => ?_
      obtain ⟨r24, rfl, rfl, rfl⟩ := hQ
      replace N := N.cast3 (O' := []) (RO' := []) (FZ' := [(r24, tO ([kc i0]))]) rfl rfl rfl
      show Goes p e below _ (T.setTop (mkF m 59 #[.val (.int i0), .val (.int i1), .val (.int i2), .val (.int 1), .val (.int 1), .val (.int (kc i0)), .val (.int (kc (ushr i0 8))), .val (.int (i1 &&& 255)), .val (.int ((ushr i1 8) &&& 255)), .unset, .unset, .unset, .unset] [.ref r24]))
      refine N.astore (pc := 59) (l' := #[.val (.int i0), .val (.int i1), .val (.int i2), .val (.int 1), .val (.int 1), .val (.int (kc i0)), .val (.int (kc (ushr i0 8))), .val (.int (i1 &&& 255)), .val (.int ((ushr i1 8) &&& 255)), .val (.ref r24), .unset, .unset, .unset]) at_59 rfl rfl ?_
      refine N.iload (pc := 61) at_61 rfl ?_
      refine N.iload (pc := 63) at_63 rfl ?_
      refine N.iload (pc := 65) at_65 rfl ?_
      refine N.callS (pc := 67) (c_make1 G (x1 := i1 &&& 255) (x2 := (ushr i1 8) &&& 255) (lat_and _) (lat_and _)) [] [] at_67 (w4 hw) (w5 hw) (w2 hw) (w6 hw) (by decide) pd29 rfl (st := []) rfl rfl rfl (by decide) (by decide) (ltAll rfl) rfl (Nat.le_of_ble_eq_true rfl) (Nat.le_of_ble_eq_true rfl) (Nat.le_of_ble_eq_true rfl) (Nat.le_of_ble_eq_true rfl) fun v O' FN vm T hQ N => ?_
      obtain ⟨r25, rfl, rfl, rfl⟩ := hQ
      replace N := N.cast3 (O' := []) (RO' := []) (FZ' := [(r24, tO ([kc i0])), (r25, tO ([i1 &&& 255]))]) rfl rfl rfl
      show Goes p e below _ (T.setTop (mkF m 70 #[.val (.int i0), .val (.int i1), .val (.int i2), .val (.int 1), .val (.int 1), .val (.int (kc i0)), .val (.int (kc (ushr i0 8))), .val (.int (i1 &&& 255)), .val (.int ((ushr i1 8) &&& 255)), .val (.ref r24), .unset, .unset, .unset] [.ref r25]))
      refine N.astore (pc := 70) (l' := #[.val (.int i0), .val (.int i1), .val (.int i2), .val (.int 1), .val (.int 1), .val (.int (kc i0)), .val (.int (kc (ushr i0 8))), .val (.int (i1 &&& 255)), .val (.int ((ushr i1 8) &&& 255)), .val (.ref r24), .val (.ref r25), .unset, .unset]) at_70 rfl rfl ?_
      refine N.new (pc := 72) at_72 (w37 hw) (w38 hw) (w39 hw) (lay_com_example_shoalwork_shoalwork_task_TaskSpec hw) (Nat.le_of_ble_eq_true rfl) (Nat.le_of_ble_eq_true rfl) fun a26 T l_a26 N => ?_
      replace N := N.cast (O' := [(a26, .inl ("com/example/shoalwork/shoalwork/task/TaskSpec", [(("com/example/shoalwork/shoalwork/task/TaskSpec", "kind", "Ljava/lang/String;"), .null), (("com/example/shoalwork/shoalwork/task/TaskSpec", "argument", "Ljava/lang/String;"), .null)]))]) rfl
      refine N.dup (pc := 75) at_75 rfl ?_
      refine N.aload (pc := 76) at_76 rfl rfl ?_
      refine N.aload (pc := 78) at_78 rfl rfl ?_
      refine N.callI (pc := 80) (c_tsInit G (a := a26) (ak := r24) (ag := r25) (ks := [kc i0]) (gs := [i1 &&& 255]) (by simp) (List.forall_mem_cons.mpr ⟨kc_ne _, fun _ h => nomatch h⟩)) [0] [1, 2] at_80 rfl (w40 hw) (w41 hw) (w39 hw) (w42 hw) (by decide) pd30 rfl (st := [.ref a26]) rfl rfl rfl (by decide) (by decide) (ltAll rfl) rfl (Nat.le_of_ble_eq_true rfl) (Nat.le_of_ble_eq_true rfl) (Nat.le_of_ble_eq_true rfl) (Nat.le_of_ble_eq_true rfl) fun v O' FN vm T hQ N => ?_
      obtain ⟨rfl, rfl, rfl⟩ := hQ
      replace N := N.cast3 (O' := [(a26, .inl ("com/example/shoalwork/shoalwork/task/TaskSpec", [(("com/example/shoalwork/shoalwork/task/TaskSpec", "kind", "Ljava/lang/String;"), .ref r24), (("com/example/shoalwork/shoalwork/task/TaskSpec", "argument", "Ljava/lang/String;"), .ref r25)]))]) (RO' := []) (FZ' := [(r24, tO ([kc i0])), (r25, tO ([i1 &&& 255]))]) rfl rfl rfl
      show Goes p e below _ (T.setTop (mkF m 83 #[.val (.int i0), .val (.int i1), .val (.int i2), .val (.int 1), .val (.int 1), .val (.int (kc i0)), .val (.int (kc (ushr i0 8))), .val (.int (i1 &&& 255)), .val (.int ((ushr i1 8) &&& 255)), .val (.ref r24), .val (.ref r25), .unset, .unset] [.ref a26]))
      refine N.astore (pc := 83) (l' := #[.val (.int i0), .val (.int i1), .val (.int i2), .val (.int 1), .val (.int 1), .val (.int (kc i0)), .val (.int (kc (ushr i0 8))), .val (.int (i1 &&& 255)), .val (.int ((ushr i1 8) &&& 255)), .val (.ref r24), .val (.ref r25), .val (.ref a26), .unset]) at_83 rfl rfl ?_
      refine N.aload (pc := 85) at_85 rfl rfl ?_
      refine N.callV (pc := 87) (c_tsToString G (a := a26) (ak := r24) (ag := r25) (ks := [kc i0]) (gs := [i1 &&& 255]) (by simp) (by simp)) 0 [] [0, 1, 2] at_87 (w108 hw) (w109 hw) (w111 hw) (w110 hw) (w39 hw) (w112 hw) rfl (by decide) pd25 rfl (st := []) rfl rfl rfl (by decide) (by decide) (ltAll rfl) rfl (Nat.le_of_ble_eq_true rfl) (Nat.le_of_ble_eq_true rfl) (Nat.le_of_ble_eq_true rfl) (Nat.le_of_ble_eq_true rfl) fun v O' FN vm T hQ N => ?_
      obtain ⟨r27, rfl, rfl, rfl⟩ := hQ
      replace N := N.cast3 (O' := [(a26, .inl ("com/example/shoalwork/shoalwork/task/TaskSpec", [(("com/example/shoalwork/shoalwork/task/TaskSpec", "kind", "Ljava/lang/String;"), .ref r24), (("com/example/shoalwork/shoalwork/task/TaskSpec", "argument", "Ljava/lang/String;"), .ref r25)]))]) (RO' := []) (FZ' := [(r24, tO ([kc i0])), (r25, tO ([i1 &&& 255])), (r27, tO ([kc i0, 58, i1 &&& 255]))]) rfl rfl rfl
      show Goes p e below _ (T.setTop (mkF m 90 #[.val (.int i0), .val (.int i1), .val (.int i2), .val (.int 1), .val (.int 1), .val (.int (kc i0)), .val (.int (kc (ushr i0 8))), .val (.int (i1 &&& 255)), .val (.int ((ushr i1 8) &&& 255)), .val (.ref r24), .val (.ref r25), .val (.ref a26), .unset] [.ref r27]))
      obtain ⟨hc_r27, bx, N⟩ := N.openF 2 rfl
      replace N := N.cast3 (O' := [(a26, .inl ("com/example/shoalwork/shoalwork/task/TaskSpec", [(("com/example/shoalwork/shoalwork/task/TaskSpec", "kind", "Ljava/lang/String;"), .ref r24), (("com/example/shoalwork/shoalwork/task/TaskSpec", "argument", "Ljava/lang/String;"), .ref r25)]))]) (RO' := []) (FZ' := [(r24, tO ([kc i0])), (r25, tO ([i1 &&& 255])), (r27, tO ([kc i0, 58, i1 &&& 255])), (r27, sO bx), (bx, aO .byte ((([kc i0, 58, i1 &&& 255]).map by8).map Value.int))]) rfl rfl rfl
      refine N.astore (pc := 90) (l' := #[.val (.int i0), .val (.int i1), .val (.int i2), .val (.int 1), .val (.int 1), .val (.int (kc i0)), .val (.int (kc (ushr i0 8))), .val (.int (i1 &&& 255)), .val (.int ((ushr i1 8) &&& 255)), .val (.ref r24), .val (.ref r25), .val (.ref a26), .val (.ref r27)]) at_90 rfl rfl ?_
      refine N.aload (pc := 92) at_92 rfl rfl ?_
      refine N.ifnonnullT (pc := 94) (pc' := 99) at_94 rfl ?_
      refine N.aload (pc := 99) at_99 rfl rfl ?_
      refine N.callV (pc := 101) (c_length G (a := r27) (cs := [kc i0, 58, i1 &&& 255]) (z := 3) rfl) 4 [] [3] at_101 (w212 hw) (w78 hw) (w80 hw) (w79 hw) (w10 hw) (w81 hw) rfl (by decide) pd9 rfl (st := []) rfl rfl rfl (by decide) (by decide) (ltAll rfl) rfl (Nat.le_of_ble_eq_true rfl) (Nat.le_of_ble_eq_true rfl) (Nat.le_of_ble_eq_true rfl) (Nat.le_of_ble_eq_true rfl) fun v O' FN vm T hQ N => ?_
      obtain ⟨rfl, rfl, rfl⟩ := hQ
      replace N := N.cast3 (O' := [(a26, .inl ("com/example/shoalwork/shoalwork/task/TaskSpec", [(("com/example/shoalwork/shoalwork/task/TaskSpec", "kind", "Ljava/lang/String;"), .ref r24), (("com/example/shoalwork/shoalwork/task/TaskSpec", "argument", "Ljava/lang/String;"), .ref r25)]))]) (RO' := []) (FZ' := [(r24, tO ([kc i0])), (r25, tO ([i1 &&& 255])), (r27, tO ([kc i0, 58, i1 &&& 255])), (r27, sO bx), (bx, aO .byte ((([kc i0, 58, i1 &&& 255]).map by8).map Value.int))]) rfl rfl rfl
      show Goes p e below _ (T.setTop (mkF m 104 #[.val (.int i0), .val (.int i1), .val (.int i2), .val (.int 1), .val (.int 1), .val (.int (kc i0)), .val (.int (kc (ushr i0 8))), .val (.int (i1 &&& 255)), .val (.int ((ushr i1 8) &&& 255)), .val (.ref r24), .val (.ref r25), .val (.ref a26), .val (.ref r27)] [.int 3]))
      refine N.iloadN (pc := 104) at_104 rfl ?_
      refine N.iconst (pc := 105) 1 at_105 rfl ?_
      refine N.iadd (pc := 106) at_106 ?_
      refine N.iload (pc := 107) at_107 rfl ?_
      refine N.iadd (pc := 109) at_109 ?_
      refine N.icmpeqT (pc := 110) (pc' := 115) at_110 rfl rfl ?_
      refine N.aload (pc := 115) at_115 rfl rfl ?_
      refine N.iconst (pc := 117) 0 at_117 rfl ?_
      show Goes p e below _ (T.setTop (mkF m 118 #[.val (.int i0), .val (.int i1), .val (.int i2), .val (.int 1), .val (.int 1), .val (.int (kc i0)), .val (.int (kc (ushr i0 8))), .val (.int (i1 &&& 255)), .val (.int ((ushr i1 8) &&& 255)), .val (.ref r24), .val (.ref r25), .val (.ref a26), .val (.ref r27)] [.int 0, .ref r27]))
      refine N.callV (pc := 118) (c_charAt G (cs := [kc i0, 58, i1 &&& 255]) (i := 0) (x := kc i0) (by simp) rfl (a := r27)) 4 [] [3] at_118 (w213 hw) (w214 hw) (w216 hw) (w215 hw) (w10 hw) (w217 hw) rfl (by decide) pd28 rfl (st := []) rfl rfl rfl (by decide) (by decide) (ltAll rfl) rfl (Nat.le_of_ble_eq_true rfl) (Nat.le_of_ble_eq_true rfl) (Nat.le_of_ble_eq_true rfl) (Nat.le_of_ble_eq_true rfl) fun v O' FN vm T hQ N => ?_
      obtain ⟨rfl, rfl, rfl⟩ := hQ
      replace N := N.cast3 (O' := [(a26, .inl ("com/example/shoalwork/shoalwork/task/TaskSpec", [(("com/example/shoalwork/shoalwork/task/TaskSpec", "kind", "Ljava/lang/String;"), .ref r24), (("com/example/shoalwork/shoalwork/task/TaskSpec", "argument", "Ljava/lang/String;"), .ref r25)]))]) (RO' := []) (FZ' := [(r24, tO ([kc i0])), (r25, tO ([i1 &&& 255])), (r27, tO ([kc i0, 58, i1 &&& 255])), (r27, sO bx), (bx, aO .byte ((([kc i0, 58, i1 &&& 255]).map by8).map Value.int))]) rfl rfl rfl
      show Goes p e below _ (T.setTop (mkF m 121 #[.val (.int i0), .val (.int i1), .val (.int i2), .val (.int 1), .val (.int 1), .val (.int (kc i0)), .val (.int (kc (ushr i0 8))), .val (.int (i1 &&& 255)), .val (.int ((ushr i1 8) &&& 255)), .val (.ref r24), .val (.ref r25), .val (.ref a26), .val (.ref r27)] [.int (kc i0)]))
      refine N.iload (pc := 121) at_121 rfl ?_
      refine N.icmpeqT (pc := 123) (pc' := 128) at_123 rfl rfl ?_
      refine N.iloadN (pc := 128) at_128 rfl ?_
      refine N.iconst (pc := 129) 2 at_129 rfl ?_
      refine N.icmpneT (pc := 130) (pc' := 146) at_130 rfl (by decide) ?_
      refine N.aload (pc := 146) at_146 rfl rfl ?_
      refine N.iloadN (pc := 148) at_148 rfl ?_
      show Goes p e below _ (T.setTop (mkF m 149 #[.val (.int i0), .val (.int i1), .val (.int i2), .val (.int 1), .val (.int 1), .val (.int (kc i0)), .val (.int (kc (ushr i0 8))), .val (.int (i1 &&& 255)), .val (.int ((ushr i1 8) &&& 255)), .val (.ref r24), .val (.ref r25), .val (.ref a26), .val (.ref r27)] [.int 1, .ref r27]))
      refine N.callV (pc := 149) (c_charAt G (cs := [kc i0, 58, i1 &&& 255]) (i := 1) (x := 58) (by simp) rfl (a := r27)) 4 [] [3] at_149 (w213 hw) (w214 hw) (w216 hw) (w215 hw) (w10 hw) (w217 hw) rfl (by decide) pd28 rfl (st := []) rfl rfl rfl (by decide) (by decide) (ltAll rfl) rfl (Nat.le_of_ble_eq_true rfl) (Nat.le_of_ble_eq_true rfl) (Nat.le_of_ble_eq_true rfl) (Nat.le_of_ble_eq_true rfl) fun v O' FN vm T hQ N => ?_
      obtain ⟨rfl, rfl, rfl⟩ := hQ
      replace N := N.cast3 (O' := [(a26, .inl ("com/example/shoalwork/shoalwork/task/TaskSpec", [(("com/example/shoalwork/shoalwork/task/TaskSpec", "kind", "Ljava/lang/String;"), .ref r24), (("com/example/shoalwork/shoalwork/task/TaskSpec", "argument", "Ljava/lang/String;"), .ref r25)]))]) (RO' := []) (FZ' := [(r24, tO ([kc i0])), (r25, tO ([i1 &&& 255])), (r27, tO ([kc i0, 58, i1 &&& 255])), (r27, sO bx), (bx, aO .byte ((([kc i0, 58, i1 &&& 255]).map by8).map Value.int))]) rfl rfl rfl
      show Goes p e below _ (T.setTop (mkF m 152 #[.val (.int i0), .val (.int i1), .val (.int i2), .val (.int 1), .val (.int 1), .val (.int (kc i0)), .val (.int (kc (ushr i0 8))), .val (.int (i1 &&& 255)), .val (.int ((ushr i1 8) &&& 255)), .val (.ref r24), .val (.ref r25), .val (.ref a26), .val (.ref r27)] [.int 58]))
      refine N.bipush (pc := 152) 58 at_152 rfl ?_
      refine N.icmpeqT (pc := 154) (pc' := 159) at_154 rfl rfl ?_
      refine N.iload (pc := 159) at_159 rfl ?_
      refine N.iconst (pc := 161) 1 at_161 rfl ?_
      refine N.icmpltF (pc := 162) at_162 (by decide) ?_
      refine N.aload (pc := 165) at_165 rfl rfl ?_
      refine N.iloadN (pc := 167) at_167 rfl ?_
      refine N.iconst (pc := 168) 1 at_168 rfl ?_
      refine N.iadd (pc := 169) at_169 ?_
      show Goes p e below _ (T.setTop (mkF m 170 #[.val (.int i0), .val (.int i1), .val (.int i2), .val (.int 1), .val (.int 1), .val (.int (kc i0)), .val (.int (kc (ushr i0 8))), .val (.int (i1 &&& 255)), .val (.int ((ushr i1 8) &&& 255)), .val (.ref r24), .val (.ref r25), .val (.ref a26), .val (.ref r27)] [.int 2, .ref r27]))
      refine N.callV (pc := 170) (c_charAt G (cs := [kc i0, 58, i1 &&& 255]) (i := 2) (x := i1 &&& 255) (by simp) rfl (a := r27)) 4 [] [3] at_170 (w213 hw) (w214 hw) (w216 hw) (w215 hw) (w10 hw) (w217 hw) rfl (by decide) pd28 rfl (st := []) rfl rfl rfl (by decide) (by decide) (ltAll rfl) rfl (Nat.le_of_ble_eq_true rfl) (Nat.le_of_ble_eq_true rfl) (Nat.le_of_ble_eq_true rfl) (Nat.le_of_ble_eq_true rfl) fun v O' FN vm T hQ N => ?_
      obtain ⟨rfl, rfl, rfl⟩ := hQ
      replace N := N.cast3 (O' := [(a26, .inl ("com/example/shoalwork/shoalwork/task/TaskSpec", [(("com/example/shoalwork/shoalwork/task/TaskSpec", "kind", "Ljava/lang/String;"), .ref r24), (("com/example/shoalwork/shoalwork/task/TaskSpec", "argument", "Ljava/lang/String;"), .ref r25)]))]) (RO' := []) (FZ' := [(r24, tO ([kc i0])), (r25, tO ([i1 &&& 255])), (r27, tO ([kc i0, 58, i1 &&& 255])), (r27, sO bx), (bx, aO .byte ((([kc i0, 58, i1 &&& 255]).map by8).map Value.int))]) rfl rfl rfl
      show Goes p e below _ (T.setTop (mkF m 173 #[.val (.int i0), .val (.int i1), .val (.int i2), .val (.int 1), .val (.int 1), .val (.int (kc i0)), .val (.int (kc (ushr i0 8))), .val (.int (i1 &&& 255)), .val (.int ((ushr i1 8) &&& 255)), .val (.ref r24), .val (.ref r25), .val (.ref a26), .val (.ref r27)] [.int (i1 &&& 255)]))
      refine N.iload (pc := 173) at_173 rfl ?_
      refine N.icmpeqT (pc := 175) (pc' := 180) at_175 rfl rfl ?_
      refine N.iload (pc := 180) at_180 rfl ?_
      refine N.iconst (pc := 182) 2 at_182 rfl ?_
      refine N.icmpneT (pc := 183) (pc' := 201) at_183 rfl (by decide) ?_
      refine N.iconst (pc := 201) 1 at_201 rfl ?_
      exact N.ireturn (pc := 202) [] (fun _ h => h) (List.forall_mem_nil _) (Nat.le_of_ble_eq_true rfl) (Nat.le_of_ble_eq_true rfl) (t := .boolean) at_202 rfl (by simp) rfl rfl
    · show Goes p e below _ (T.setTop (mkF m 15 #[.val (.int i0), .val (.int i1), .val (.int i2), .val (.int 1), .unset, .unset, .unset, .unset, .unset, .unset, .unset, .unset, .unset] [.int 2]))
      refine N.istore (pc := 15) (l' := #[.val (.int i0), .val (.int i1), .val (.int i2), .val (.int 1), .val (.int 2), .unset, .unset, .unset, .unset, .unset, .unset, .unset, .unset]) at_15 rfl ?_
      refine N.iloadN (pc := 17) at_17 rfl ?_
      refine N.callS (pc := 18) (c_kindChar G (x := i0)) [] [] at_18 (w0 hw) (w1 hw) (w2 hw) (w3 hw) (by decide) pd28 rfl (st := []) rfl rfl rfl (by decide) (by decide) (ltAll rfl) rfl (Nat.le_of_ble_eq_true rfl) (Nat.le_of_ble_eq_true rfl) (Nat.le_of_ble_eq_true rfl) (Nat.le_of_ble_eq_true rfl) fun v O' FN vm T hQ N => ?_
      obtain ⟨rfl, rfl, rfl⟩ := hQ
      replace N := N.cast3 (O' := []) (RO' := []) (FZ' := []) rfl rfl rfl
      show Goes p e below _ (T.setTop (mkF m 21 #[.val (.int i0), .val (.int i1), .val (.int i2), .val (.int 1), .val (.int 2), .unset, .unset, .unset, .unset, .unset, .unset, .unset, .unset] [.int (kc i0)]))
      refine N.istore (pc := 21) (l' := #[.val (.int i0), .val (.int i1), .val (.int i2), .val (.int 1), .val (.int 2), .val (.int (kc i0)), .unset, .unset, .unset, .unset, .unset, .unset, .unset]) at_21 rfl ?_
      refine N.iloadN (pc := 23) at_23 rfl ?_
      refine N.bipush (pc := 24) 8 at_24 rfl ?_
      refine N.iushr (pc := 26) at_26 ?_
      refine N.callS (pc := 27) (c_kindChar G (x := ushr i0 8)) [] [] at_27 (w0 hw) (w1 hw) (w2 hw) (w3 hw) (by decide) pd28 rfl (st := []) rfl rfl rfl (by decide) (by decide) (ltAll rfl) rfl (Nat.le_of_ble_eq_true rfl) (Nat.le_of_ble_eq_true rfl) (Nat.le_of_ble_eq_true rfl) (Nat.le_of_ble_eq_true rfl) fun v O' FN vm T hQ N => ?_
      obtain ⟨rfl, rfl, rfl⟩ := hQ
      replace N := N.cast3 (O' := []) (RO' := []) (FZ' := []) rfl rfl rfl
      show Goes p e below _ (T.setTop (mkF m 30 #[.val (.int i0), .val (.int i1), .val (.int i2), .val (.int 1), .val (.int 2), .val (.int (kc i0)), .unset, .unset, .unset, .unset, .unset, .unset, .unset] [.int (kc (ushr i0 8))]))
      refine N.istore (pc := 30) (l' := #[.val (.int i0), .val (.int i1), .val (.int i2), .val (.int 1), .val (.int 2), .val (.int (kc i0)), .val (.int (kc (ushr i0 8))), .unset, .unset, .unset, .unset, .unset, .unset]) at_30 rfl ?_
      refine N.iloadN (pc := 32) at_32 rfl ?_
      refine N.sipush (pc := 33) 255 at_33 rfl ?_
      refine N.iand (pc := 36) at_36 ?_
      refine N.i2c (pc := 37) at_37 ?_
      rw [i2c_mask]
      refine N.istore (pc := 38) (l' := #[.val (.int i0), .val (.int i1), .val (.int i2), .val (.int 1), .val (.int 2), .val (.int (kc i0)), .val (.int (kc (ushr i0 8))), .val (.int (i1 &&& 255)), .unset, .unset, .unset, .unset, .unset]) at_38 rfl ?_
      refine N.iloadN (pc := 40) at_40 rfl ?_
      refine N.bipush (pc := 41) 8 at_41 rfl ?_
      refine N.iushr (pc := 43) at_43 ?_
      refine N.sipush (pc := 44) 255 at_44 rfl ?_
      refine N.iand (pc := 47) at_47 ?_
      refine N.i2c (pc := 48) at_48 ?_
      rw [i2c_mask]
      refine N.istore (pc := 49) (l' := #[.val (.int i0), .val (.int i1), .val (.int i2), .val (.int 1), .val (.int 2), .val (.int (kc i0)), .val (.int (kc (ushr i0 8))), .val (.int (i1 &&& 255)), .val (.int ((ushr i1 8) &&& 255)), .unset, .unset, .unset, .unset]) at_49 rfl ?_
      refine N.iloadN (pc := 51) at_51 rfl ?_
      refine N.iload (pc := 52) at_52 rfl ?_
      refine N.iload (pc := 54) at_54 rfl ?_
      refine N.callS (pc := 56) (c_make1 G (x1 := kc i0) (x2 := kc (ushr i0 8)) (lat_kc _) (lat_kc _)) [] [] at_56 (w4 hw) (w5 hw) (w2 hw) (w6 hw) (by decide) pd29 rfl (st := []) rfl rfl rfl (by decide) (by decide) (ltAll rfl) rfl (Nat.le_of_ble_eq_true rfl) (Nat.le_of_ble_eq_true rfl) (Nat.le_of_ble_eq_true rfl) (Nat.le_of_ble_eq_true rfl) fun v O' FN vm T hQ N => ?_
      obtain ⟨r28, rfl, rfl, rfl⟩ := hQ
      replace N := N.cast3 (O' := []) (RO' := []) (FZ' := [(r28, tO ([kc i0]))]) rfl rfl rfl
      show Goes p e below _ (T.setTop (mkF m 59 #[.val (.int i0), .val (.int i1), .val (.int i2), .val (.int 1), .val (.int 2), .val (.int (kc i0)), .val (.int (kc (ushr i0 8))), .val (.int (i1 &&& 255)), .val (.int ((ushr i1 8) &&& 255)), .unset, .unset, .unset, .unset] [.ref r28]))
      refine N.astore (pc := 59) (l' := #[.val (.int i0), .val (.int i1), .val (.int i2), .val (.int 1), .val (.int 2), .val (.int (kc i0)), .val (.int (kc (ushr i0 8))), .val (.int (i1 &&& 255)), .val (.int ((ushr i1 8) &&& 255)), .val (.ref r28), .unset, .unset, .unset]) at_59 rfl rfl ?_
      refine N.iload (pc := 61) at_61 rfl ?_
      refine N.iload (pc := 63) at_63 rfl ?_
      refine N.iload (pc := 65) at_65 rfl ?_
      refine N.callS (pc := 67) (c_make2 G (x1 := i1 &&& 255) (x2 := (ushr i1 8) &&& 255) (lat_and _) (lat_and _)) [] [] at_67 (w4 hw) (w5 hw) (w2 hw) (w6 hw) (by decide) pd29 rfl (st := []) rfl rfl rfl (by decide) (by decide) (ltAll rfl) rfl (Nat.le_of_ble_eq_true rfl) (Nat.le_of_ble_eq_true rfl) (Nat.le_of_ble_eq_true rfl) (Nat.le_of_ble_eq_true rfl) fun v O' FN vm T hQ N => ?_
      obtain ⟨r29, rfl, rfl, rfl⟩ := hQ
      replace N := N.cast3 (O' := []) (RO' := []) (FZ' := [(r28, tO ([kc i0])), (r29, tO ([i1 &&& 255, (ushr i1 8) &&& 255]))]) rfl rfl rfl
      show Goes p e below _ (T.setTop (mkF m 70 #[.val (.int i0), .val (.int i1), .val (.int i2), .val (.int 1), .val (.int 2), .val (.int (kc i0)), .val (.int (kc (ushr i0 8))), .val (.int (i1 &&& 255)), .val (.int ((ushr i1 8) &&& 255)), .val (.ref r28), .unset, .unset, .unset] [.ref r29]))
      refine N.astore (pc := 70) (l' := #[.val (.int i0), .val (.int i1), .val (.int i2), .val (.int 1), .val (.int 2), .val (.int (kc i0)), .val (.int (kc (ushr i0 8))), .val (.int (i1 &&& 255)), .val (.int ((ushr i1 8) &&& 255)), .val (.ref r28), .val (.ref r29), .unset, .unset]) at_70 rfl rfl ?_
      refine N.new (pc := 72) at_72 (w37 hw) (w38 hw) (w39 hw) (lay_com_example_shoalwork_shoalwork_task_TaskSpec hw) (Nat.le_of_ble_eq_true rfl) (Nat.le_of_ble_eq_true rfl) fun a30 T l_a30 N => ?_
      replace N := N.cast (O' := [(a30, .inl ("com/example/shoalwork/shoalwork/task/TaskSpec", [(("com/example/shoalwork/shoalwork/task/TaskSpec", "kind", "Ljava/lang/String;"), .null), (("com/example/shoalwork/shoalwork/task/TaskSpec", "argument", "Ljava/lang/String;"), .null)]))]) rfl
      refine N.dup (pc := 75) at_75 rfl ?_
      refine N.aload (pc := 76) at_76 rfl rfl ?_
      refine N.aload (pc := 78) at_78 rfl rfl ?_
      refine N.callI (pc := 80) (c_tsInit G (a := a30) (ak := r28) (ag := r29) (ks := [kc i0]) (gs := [i1 &&& 255, (ushr i1 8) &&& 255]) (by simp) (List.forall_mem_cons.mpr ⟨kc_ne _, fun _ h => nomatch h⟩)) [0] [1, 2] at_80 rfl (w40 hw) (w41 hw) (w39 hw) (w42 hw) (by decide) pd30 rfl (st := [.ref a30]) rfl rfl rfl (by decide) (by decide) (ltAll rfl) rfl (Nat.le_of_ble_eq_true rfl) (Nat.le_of_ble_eq_true rfl) (Nat.le_of_ble_eq_true rfl) (Nat.le_of_ble_eq_true rfl) fun v O' FN vm T hQ N => ?_
      obtain ⟨rfl, rfl, rfl⟩ := hQ
      replace N := N.cast3 (O' := [(a30, .inl ("com/example/shoalwork/shoalwork/task/TaskSpec", [(("com/example/shoalwork/shoalwork/task/TaskSpec", "kind", "Ljava/lang/String;"), .ref r28), (("com/example/shoalwork/shoalwork/task/TaskSpec", "argument", "Ljava/lang/String;"), .ref r29)]))]) (RO' := []) (FZ' := [(r28, tO ([kc i0])), (r29, tO ([i1 &&& 255, (ushr i1 8) &&& 255]))]) rfl rfl rfl
      show Goes p e below _ (T.setTop (mkF m 83 #[.val (.int i0), .val (.int i1), .val (.int i2), .val (.int 1), .val (.int 2), .val (.int (kc i0)), .val (.int (kc (ushr i0 8))), .val (.int (i1 &&& 255)), .val (.int ((ushr i1 8) &&& 255)), .val (.ref r28), .val (.ref r29), .unset, .unset] [.ref a30]))
      refine N.astore (pc := 83) (l' := #[.val (.int i0), .val (.int i1), .val (.int i2), .val (.int 1), .val (.int 2), .val (.int (kc i0)), .val (.int (kc (ushr i0 8))), .val (.int (i1 &&& 255)), .val (.int ((ushr i1 8) &&& 255)), .val (.ref r28), .val (.ref r29), .val (.ref a30), .unset]) at_83 rfl rfl ?_
      refine N.aload (pc := 85) at_85 rfl rfl ?_
      refine N.callV (pc := 87) (c_tsToString G (a := a30) (ak := r28) (ag := r29) (ks := [kc i0]) (gs := [i1 &&& 255, (ushr i1 8) &&& 255]) (by simp) (by simp)) 0 [] [0, 1, 2] at_87 (w108 hw) (w109 hw) (w111 hw) (w110 hw) (w39 hw) (w112 hw) rfl (by decide) pd25 rfl (st := []) rfl rfl rfl (by decide) (by decide) (ltAll rfl) rfl (Nat.le_of_ble_eq_true rfl) (Nat.le_of_ble_eq_true rfl) (Nat.le_of_ble_eq_true rfl) (Nat.le_of_ble_eq_true rfl) fun v O' FN vm T hQ N => ?_
      obtain ⟨r31, rfl, rfl, rfl⟩ := hQ
      replace N := N.cast3 (O' := [(a30, .inl ("com/example/shoalwork/shoalwork/task/TaskSpec", [(("com/example/shoalwork/shoalwork/task/TaskSpec", "kind", "Ljava/lang/String;"), .ref r28), (("com/example/shoalwork/shoalwork/task/TaskSpec", "argument", "Ljava/lang/String;"), .ref r29)]))]) (RO' := []) (FZ' := [(r28, tO ([kc i0])), (r29, tO ([i1 &&& 255, (ushr i1 8) &&& 255])), (r31, tO ([kc i0, 58, i1 &&& 255, (ushr i1 8) &&& 255]))]) rfl rfl rfl
      show Goes p e below _ (T.setTop (mkF m 90 #[.val (.int i0), .val (.int i1), .val (.int i2), .val (.int 1), .val (.int 2), .val (.int (kc i0)), .val (.int (kc (ushr i0 8))), .val (.int (i1 &&& 255)), .val (.int ((ushr i1 8) &&& 255)), .val (.ref r28), .val (.ref r29), .val (.ref a30), .unset] [.ref r31]))
      obtain ⟨hc_r31, bx, N⟩ := N.openF 2 rfl
      replace N := N.cast3 (O' := [(a30, .inl ("com/example/shoalwork/shoalwork/task/TaskSpec", [(("com/example/shoalwork/shoalwork/task/TaskSpec", "kind", "Ljava/lang/String;"), .ref r28), (("com/example/shoalwork/shoalwork/task/TaskSpec", "argument", "Ljava/lang/String;"), .ref r29)]))]) (RO' := []) (FZ' := [(r28, tO ([kc i0])), (r29, tO ([i1 &&& 255, (ushr i1 8) &&& 255])), (r31, tO ([kc i0, 58, i1 &&& 255, (ushr i1 8) &&& 255])), (r31, sO bx), (bx, aO .byte ((([kc i0, 58, i1 &&& 255, (ushr i1 8) &&& 255]).map by8).map Value.int))]) rfl rfl rfl
      refine N.astore (pc := 90) (l' := #[.val (.int i0), .val (.int i1), .val (.int i2), .val (.int 1), .val (.int 2), .val (.int (kc i0)), .val (.int (kc (ushr i0 8))), .val (.int (i1 &&& 255)), .val (.int ((ushr i1 8) &&& 255)), .val (.ref r28), .val (.ref r29), .val (.ref a30), .val (.ref r31)]) at_90 rfl rfl ?_
      refine N.aload (pc := 92) at_92 rfl rfl ?_
      refine N.ifnonnullT (pc := 94) (pc' := 99) at_94 rfl ?_
      refine N.aload (pc := 99) at_99 rfl rfl ?_
      refine N.callV (pc := 101) (c_length G (a := r31) (cs := [kc i0, 58, i1 &&& 255, (ushr i1 8) &&& 255]) (z := 4) rfl) 4 [] [3] at_101 (w212 hw) (w78 hw) (w80 hw) (w79 hw) (w10 hw) (w81 hw) rfl (by decide) pd9 rfl (st := []) rfl rfl rfl (by decide) (by decide) (ltAll rfl) rfl (Nat.le_of_ble_eq_true rfl) (Nat.le_of_ble_eq_true rfl) (Nat.le_of_ble_eq_true rfl) (Nat.le_of_ble_eq_true rfl) fun v O' FN vm T hQ N => ?_
      obtain ⟨rfl, rfl, rfl⟩ := hQ
      replace N := N.cast3 (O' := [(a30, .inl ("com/example/shoalwork/shoalwork/task/TaskSpec", [(("com/example/shoalwork/shoalwork/task/TaskSpec", "kind", "Ljava/lang/String;"), .ref r28), (("com/example/shoalwork/shoalwork/task/TaskSpec", "argument", "Ljava/lang/String;"), .ref r29)]))]) (RO' := []) (FZ' := [(r28, tO ([kc i0])), (r29, tO ([i1 &&& 255, (ushr i1 8) &&& 255])), (r31, tO ([kc i0, 58, i1 &&& 255, (ushr i1 8) &&& 255])), (r31, sO bx), (bx, aO .byte ((([kc i0, 58, i1 &&& 255, (ushr i1 8) &&& 255]).map by8).map Value.int))]) rfl rfl rfl
      show Goes p e below _ (T.setTop (mkF m 104 #[.val (.int i0), .val (.int i1), .val (.int i2), .val (.int 1), .val (.int 2), .val (.int (kc i0)), .val (.int (kc (ushr i0 8))), .val (.int (i1 &&& 255)), .val (.int ((ushr i1 8) &&& 255)), .val (.ref r28), .val (.ref r29), .val (.ref a30), .val (.ref r31)] [.int 4]))
      refine N.iloadN (pc := 104) at_104 rfl ?_
      refine N.iconst (pc := 105) 1 at_105 rfl ?_
      refine N.iadd (pc := 106) at_106 ?_
      refine N.iload (pc := 107) at_107 rfl ?_
      refine N.iadd (pc := 109) at_109 ?_
      refine N.icmpeqT (pc := 110) (pc' := 115) at_110 rfl rfl ?_
      refine N.aload (pc := 115) at_115 rfl rfl ?_
      refine N.iconst (pc := 117) 0 at_117 rfl ?_
      show Goes p e below _ (T.setTop (mkF m 118 #[.val (.int i0), .val (.int i1), .val (.int i2), .val (.int 1), .val (.int 2), .val (.int (kc i0)), .val (.int (kc (ushr i0 8))), .val (.int (i1 &&& 255)), .val (.int ((ushr i1 8) &&& 255)), .val (.ref r28), .val (.ref r29), .val (.ref a30), .val (.ref r31)] [.int 0, .ref r31]))
      refine N.callV (pc := 118) (c_charAt G (cs := [kc i0, 58, i1 &&& 255, (ushr i1 8) &&& 255]) (i := 0) (x := kc i0) (by simp) rfl (a := r31)) 4 [] [3] at_118 (w213 hw) (w214 hw) (w216 hw) (w215 hw) (w10 hw) (w217 hw) rfl (by decide) pd28 rfl (st := []) rfl rfl rfl (by decide) (by decide) (ltAll rfl) rfl (Nat.le_of_ble_eq_true rfl) (Nat.le_of_ble_eq_true rfl) (Nat.le_of_ble_eq_true rfl) (Nat.le_of_ble_eq_true rfl) fun v O' FN vm T hQ N => ?_
      obtain ⟨rfl, rfl, rfl⟩ := hQ
      replace N := N.cast3 (O' := [(a30, .inl ("com/example/shoalwork/shoalwork/task/TaskSpec", [(("com/example/shoalwork/shoalwork/task/TaskSpec", "kind", "Ljava/lang/String;"), .ref r28), (("com/example/shoalwork/shoalwork/task/TaskSpec", "argument", "Ljava/lang/String;"), .ref r29)]))]) (RO' := []) (FZ' := [(r28, tO ([kc i0])), (r29, tO ([i1 &&& 255, (ushr i1 8) &&& 255])), (r31, tO ([kc i0, 58, i1 &&& 255, (ushr i1 8) &&& 255])), (r31, sO bx), (bx, aO .byte ((([kc i0, 58, i1 &&& 255, (ushr i1 8) &&& 255]).map by8).map Value.int))]) rfl rfl rfl
      show Goes p e below _ (T.setTop (mkF m 121 #[.val (.int i0), .val (.int i1), .val (.int i2), .val (.int 1), .val (.int 2), .val (.int (kc i0)), .val (.int (kc (ushr i0 8))), .val (.int (i1 &&& 255)), .val (.int ((ushr i1 8) &&& 255)), .val (.ref r28), .val (.ref r29), .val (.ref a30), .val (.ref r31)] [.int (kc i0)]))
      refine N.iload (pc := 121) at_121 rfl ?_
      refine N.icmpeqT (pc := 123) (pc' := 128) at_123 rfl rfl ?_
      refine N.iloadN (pc := 128) at_128 rfl ?_
      refine N.iconst (pc := 129) 2 at_129 rfl ?_
      refine N.icmpneT (pc := 130) (pc' := 146) at_130 rfl (by decide) ?_
      refine N.aload (pc := 146) at_146 rfl rfl ?_
      refine N.iloadN (pc := 148) at_148 rfl ?_
      show Goes p e below _ (T.setTop (mkF m 149 #[.val (.int i0), .val (.int i1), .val (.int i2), .val (.int 1), .val (.int 2), .val (.int (kc i0)), .val (.int (kc (ushr i0 8))), .val (.int (i1 &&& 255)), .val (.int ((ushr i1 8) &&& 255)), .val (.ref r28), .val (.ref r29), .val (.ref a30), .val (.ref r31)] [.int 1, .ref r31]))
      refine N.callV (pc := 149) (c_charAt G (cs := [kc i0, 58, i1 &&& 255, (ushr i1 8) &&& 255]) (i := 1) (x := 58) (by simp) rfl (a := r31)) 4 [] [3] at_149 (w213 hw) (w214 hw) (w216 hw) (w215 hw) (w10 hw) (w217 hw) rfl (by decide) pd28 rfl (st := []) rfl rfl rfl (by decide) (by decide) (ltAll rfl) rfl (Nat.le_of_ble_eq_true rfl) (Nat.le_of_ble_eq_true rfl) (Nat.le_of_ble_eq_true rfl) (Nat.le_of_ble_eq_true rfl) fun v O' FN vm T hQ N => ?_
      obtain ⟨rfl, rfl, rfl⟩ := hQ
      replace N := N.cast3 (O' := [(a30, .inl ("com/example/shoalwork/shoalwork/task/TaskSpec", [(("com/example/shoalwork/shoalwork/task/TaskSpec", "kind", "Ljava/lang/String;"), .ref r28), (("com/example/shoalwork/shoalwork/task/TaskSpec", "argument", "Ljava/lang/String;"), .ref r29)]))]) (RO' := []) (FZ' := [(r28, tO ([kc i0])), (r29, tO ([i1 &&& 255, (ushr i1 8) &&& 255])), (r31, tO ([kc i0, 58, i1 &&& 255, (ushr i1 8) &&& 255])), (r31, sO bx), (bx, aO .byte ((([kc i0, 58, i1 &&& 255, (ushr i1 8) &&& 255]).map by8).map Value.int))]) rfl rfl rfl
      show Goes p e below _ (T.setTop (mkF m 152 #[.val (.int i0), .val (.int i1), .val (.int i2), .val (.int 1), .val (.int 2), .val (.int (kc i0)), .val (.int (kc (ushr i0 8))), .val (.int (i1 &&& 255)), .val (.int ((ushr i1 8) &&& 255)), .val (.ref r28), .val (.ref r29), .val (.ref a30), .val (.ref r31)] [.int 58]))
      refine N.bipush (pc := 152) 58 at_152 rfl ?_
      refine N.icmpeqT (pc := 154) (pc' := 159) at_154 rfl rfl ?_
      refine N.iload (pc := 159) at_159 rfl ?_
      refine N.iconst (pc := 161) 1 at_161 rfl ?_
      refine N.icmpltF (pc := 162) at_162 (by decide) ?_
      refine N.aload (pc := 165) at_165 rfl rfl ?_
      refine N.iloadN (pc := 167) at_167 rfl ?_
      refine N.iconst (pc := 168) 1 at_168 rfl ?_
      refine N.iadd (pc := 169) at_169 ?_
      show Goes p e below _ (T.setTop (mkF m 170 #[.val (.int i0), .val (.int i1), .val (.int i2), .val (.int 1), .val (.int 2), .val (.int (kc i0)), .val (.int (kc (ushr i0 8))), .val (.int (i1 &&& 255)), .val (.int ((ushr i1 8) &&& 255)), .val (.ref r28), .val (.ref r29), .val (.ref a30), .val (.ref r31)] [.int 2, .ref r31]))
      refine N.callV (pc := 170) (c_charAt G (cs := [kc i0, 58, i1 &&& 255, (ushr i1 8) &&& 255]) (i := 2) (x := i1 &&& 255) (by simp) rfl (a := r31)) 4 [] [3] at_170 (w213 hw) (w214 hw) (w216 hw) (w215 hw) (w10 hw) (w217 hw) rfl (by decide) pd28 rfl (st := []) rfl rfl rfl (by decide) (by decide) (ltAll rfl) rfl (Nat.le_of_ble_eq_true rfl) (Nat.le_of_ble_eq_true rfl) (Nat.le_of_ble_eq_true rfl) (Nat.le_of_ble_eq_true rfl) fun v O' FN vm T hQ N => ?_
      obtain ⟨rfl, rfl, rfl⟩ := hQ
      replace N := N.cast3 (O' := [(a30, .inl ("com/example/shoalwork/shoalwork/task/TaskSpec", [(("com/example/shoalwork/shoalwork/task/TaskSpec", "kind", "Ljava/lang/String;"), .ref r28), (("com/example/shoalwork/shoalwork/task/TaskSpec", "argument", "Ljava/lang/String;"), .ref r29)]))]) (RO' := []) (FZ' := [(r28, tO ([kc i0])), (r29, tO ([i1 &&& 255, (ushr i1 8) &&& 255])), (r31, tO ([kc i0, 58, i1 &&& 255, (ushr i1 8) &&& 255])), (r31, sO bx), (bx, aO .byte ((([kc i0, 58, i1 &&& 255, (ushr i1 8) &&& 255]).map by8).map Value.int))]) rfl rfl rfl
      show Goes p e below _ (T.setTop (mkF m 173 #[.val (.int i0), .val (.int i1), .val (.int i2), .val (.int 1), .val (.int 2), .val (.int (kc i0)), .val (.int (kc (ushr i0 8))), .val (.int (i1 &&& 255)), .val (.int ((ushr i1 8) &&& 255)), .val (.ref r28), .val (.ref r29), .val (.ref a30), .val (.ref r31)] [.int (i1 &&& 255)]))
      refine N.iload (pc := 173) at_173 rfl ?_
      refine N.icmpeqT (pc := 175) (pc' := 180) at_175 rfl rfl ?_
      refine N.iload (pc := 180) at_180 rfl ?_
      refine N.iconst (pc := 182) 2 at_182 rfl ?_
      refine N.icmpneF (pc := 183) at_183 rfl ?_
      refine N.aload (pc := 186) at_186 rfl rfl ?_
      refine N.iloadN (pc := 188) at_188 rfl ?_
      refine N.iconst (pc := 189) 2 at_189 rfl ?_
      refine N.iadd (pc := 190) at_190 ?_
      show Goes p e below _ (T.setTop (mkF m 191 #[.val (.int i0), .val (.int i1), .val (.int i2), .val (.int 1), .val (.int 2), .val (.int (kc i0)), .val (.int (kc (ushr i0 8))), .val (.int (i1 &&& 255)), .val (.int ((ushr i1 8) &&& 255)), .val (.ref r28), .val (.ref r29), .val (.ref a30), .val (.ref r31)] [.int 3, .ref r31]))
      refine N.callV (pc := 191) (c_charAt G (cs := [kc i0, 58, i1 &&& 255, (ushr i1 8) &&& 255]) (i := 3) (x := (ushr i1 8) &&& 255) (by simp) rfl (a := r31)) 4 [] [3] at_191 (w213 hw) (w214 hw) (w216 hw) (w215 hw) (w10 hw) (w217 hw) rfl (by decide) pd28 rfl (st := []) rfl rfl rfl (by decide) (by decide) (ltAll rfl) rfl (Nat.le_of_ble_eq_true rfl) (Nat.le_of_ble_eq_true rfl) (Nat.le_of_ble_eq_true rfl) (Nat.le_of_ble_eq_true rfl) fun v O' FN vm T hQ N => ?_
      obtain ⟨rfl, rfl, rfl⟩ := hQ
      replace N := N.cast3 (O' := [(a30, .inl ("com/example/shoalwork/shoalwork/task/TaskSpec", [(("com/example/shoalwork/shoalwork/task/TaskSpec", "kind", "Ljava/lang/String;"), .ref r28), (("com/example/shoalwork/shoalwork/task/TaskSpec", "argument", "Ljava/lang/String;"), .ref r29)]))]) (RO' := []) (FZ' := [(r28, tO ([kc i0])), (r29, tO ([i1 &&& 255, (ushr i1 8) &&& 255])), (r31, tO ([kc i0, 58, i1 &&& 255, (ushr i1 8) &&& 255])), (r31, sO bx), (bx, aO .byte ((([kc i0, 58, i1 &&& 255, (ushr i1 8) &&& 255]).map by8).map Value.int))]) rfl rfl rfl
      show Goes p e below _ (T.setTop (mkF m 194 #[.val (.int i0), .val (.int i1), .val (.int i2), .val (.int 1), .val (.int 2), .val (.int (kc i0)), .val (.int (kc (ushr i0 8))), .val (.int (i1 &&& 255)), .val (.int ((ushr i1 8) &&& 255)), .val (.ref r28), .val (.ref r29), .val (.ref a30), .val (.ref r31)] [.int ((ushr i1 8) &&& 255)]))
      refine N.iload (pc := 194) at_194 rfl ?_
      refine N.icmpeqT (pc := 196) (pc' := 201) at_196 rfl rfl ?_
      refine N.iconst (pc := 201) 1 at_201 rfl ?_
      exact N.ireturn (pc := 202) [] (fun _ h => h) (List.forall_mem_nil _) (Nat.le_of_ble_eq_true rfl) (Nat.le_of_ble_eq_true rfl) (t := .boolean) at_202 rfl (by simp) rfl rfl
  · rw [show (1 : Int32) + (i2 &&& 1) = 2 from by rw [e1]; decide]
    refine N.istoreN (pc := 5) (l' := #[.val (.int i0), .val (.int i1), .val (.int i2), .val (.int 2), .unset, .unset, .unset, .unset, .unset, .unset, .unset, .unset, .unset]) at_5 rfl ?_
    refine N.iloadN (pc := 6) at_6 rfl ?_
    refine N.iconst (pc := 7) 1 at_7 rfl ?_
    refine N.iushr (pc := 8) at_8 ?_
    refine N.sipush (pc := 9) 255 at_9 rfl ?_
    refine N.iand (pc := 12) at_12 ?_
    refine N.iconst (pc := 13) 3 at_13 rfl ?_
    refine N.irem (pc := 14) at_14 (by decide) ?_
    rw [e2]
    obtain rfl | rfl | rfl : p2 = 0 ∨ p2 = 1 ∨ p2 = 2 := by omega
    · show Goes p e below _ (T.setTop (mkF m 15 #[.val (.int i0), .val (.int i1), .val (.int i2), .val (.int 2), .unset, .unset, .unset, .unset, .unset, .unset, .unset, .unset, .unset] [.int 0]))
      refine N.istore (pc := 15) (l' := #[.val (.int i0), .val (.int i1), .val (.int i2), .val (.int 2), .val (.int 0), .unset, .unset, .unset, .unset, .unset, .unset, .unset, .unset]) at_15 rfl ?_
      refine N.iloadN (pc := 17) at_17 rfl ?_
      refine N.callS (pc := 18) (c_kindChar G (x := i0)) [] [] at_18 (w0 hw) (w1 hw) (w2 hw) (w3 hw) (by decide) pd28 rfl (st := []) rfl rfl rfl (by decide) (by decide) (ltAll rfl) rfl (Nat.le_of_ble_eq_true rfl) (Nat.le_of_ble_eq_true rfl) (Nat.le_of_ble_eq_true rfl) (Nat.le_of_ble_eq_true rfl) fun v O' FN vm T hQ N => ?_
      obtain ⟨rfl, rfl, rfl⟩ := hQ
      replace N := N.cast3 (O' := []) (RO' := []) (FZ' := []) rfl rfl rfl
      show Goes p e below _ (T.setTop (mkF m 21 #[.val (.int i0), .val (.int i1), .val (.int i2), .val (.int 2), .val (.int 0), .unset, .unset, .unset, .unset, .unset, .unset, .unset, .unset] [.int (kc i0)]))
      refine N.istore (pc := 21) (l' := #[.val (.int i0), .val (.int i1), .val (.int i2), .val (.int 2), .val (.int 0), .val (.int (kc i0)), .unset, .unset, .unset, .unset, .unset, .unset, .unset]) at_21 rfl ?_
      refine N.iloadN (pc := 23) at_23 rfl ?_
      refine N.bipush (pc := 24) 8 at_24 rfl ?_
      refine N.iushr (pc := 26) at_26 ?_
      refine N.callS (pc := 27) (c_kindChar G (x := ushr i0 8)) [] [] at_27 (w0 hw) (w1 hw) (w2 hw) (w3 hw) (by decide) pd28 rfl (st := []) rfl rfl rfl (by decide) (by decide) (ltAll rfl) rfl (Nat.le_of_ble_eq_true rfl) (Nat.le_of_ble_eq_true rfl) (Nat.le_of_ble_eq_true rfl) (Nat.le_of_ble_eq_true rfl) fun v O' FN vm T hQ N => ?_
      obtain ⟨rfl, rfl, rfl⟩ := hQ
      replace N := N.cast3 (O' := []) (RO' := []) (FZ' := []) rfl rfl rfl
      show Goes p e below _ (T.setTop (mkF m 30 #[.val (.int i0), .val (.int i1), .val (.int i2), .val (.int 2), .val (.int 0), .val (.int (kc i0)), .unset, .unset, .unset, .unset, .unset, .unset, .unset] [.int (kc (ushr i0 8))]))
      refine N.istore (pc := 30) (l' := #[.val (.int i0), .val (.int i1), .val (.int i2), .val (.int 2), .val (.int 0), .val (.int (kc i0)), .val (.int (kc (ushr i0 8))), .unset, .unset, .unset, .unset, .unset, .unset]) at_30 rfl ?_
      refine N.iloadN (pc := 32) at_32 rfl ?_
      refine N.sipush (pc := 33) 255 at_33 rfl ?_
      refine N.iand (pc := 36) at_36 ?_
      refine N.i2c (pc := 37) at_37 ?_
      rw [i2c_mask]
      refine N.istore (pc := 38) (l' := #[.val (.int i0), .val (.int i1), .val (.int i2), .val (.int 2), .val (.int 0), .val (.int (kc i0)), .val (.int (kc (ushr i0 8))), .val (.int (i1 &&& 255)), .unset, .unset, .unset, .unset, .unset]) at_38 rfl ?_
      refine N.iloadN (pc := 40) at_40 rfl ?_
      refine N.bipush (pc := 41) 8 at_41 rfl ?_
      refine N.iushr (pc := 43) at_43 ?_
      refine N.sipush (pc := 44) 255 at_44 rfl ?_
      refine N.iand (pc := 47) at_47 ?_
      refine N.i2c (pc := 48) at_48 ?_
      rw [i2c_mask]
      refine N.istore (pc := 49) (l' := #[.val (.int i0), .val (.int i1), .val (.int i2), .val (.int 2), .val (.int 0), .val (.int (kc i0)), .val (.int (kc (ushr i0 8))), .val (.int (i1 &&& 255)), .val (.int ((ushr i1 8) &&& 255)), .unset, .unset, .unset, .unset]) at_49 rfl ?_
      refine N.iloadN (pc := 51) at_51 rfl ?_
      refine N.iload (pc := 52) at_52 rfl ?_
      refine N.iload (pc := 54) at_54 rfl ?_
      refine N.callS (pc := 56) (c_make2 G (x1 := kc i0) (x2 := kc (ushr i0 8)) (lat_kc _) (lat_kc _)) [] [] at_56 (w4 hw) (w5 hw) (w2 hw) (w6 hw) (by decide) pd29 rfl (st := []) rfl rfl rfl (by decide) (by decide) (ltAll rfl) rfl (Nat.le_of_ble_eq_true rfl) (Nat.le_of_ble_eq_true rfl) (Nat.le_of_ble_eq_true rfl) (Nat.le_of_ble_eq_true rfl) fun v O' FN vm T hQ N => ?_
      obtain ⟨r32, rfl, rfl, rfl⟩ := hQ
      replace N := N.cast3 (O' := []) (RO' := []) (FZ' := [(r32, tO ([kc i0, kc (ushr i0 8)]))]) rfl rfl rfl
      show Goes p e below _ (T.setTop (mkF m 59 #[.val (.int i0), .val (.int i1), .val (.int i2), .val (.int 2), .val (.int 0), .val (.int (kc i0)), .val (.int (kc (ushr i0 8))), .val (.int (i1 &&& 255)), .val (.int ((ushr i1 8) &&& 255)), .unset, .unset, .unset, .unset] [.ref r32]))
      refine N.astore (pc := 59) (l' := #[.val (.int i0), .val (.int i1), .val (.int i2), .val (.int 2), .val (.int 0), .val (.int (kc i0)), .val (.int (kc (ushr i0 8))), .val (.int (i1 &&& 255)), .val (.int ((ushr i1 8) &&& 255)), .val (.ref r32), .unset, .unset, .unset]) at_59 rfl rfl ?_
      refine N.iload (pc := 61) at_61 rfl ?_
      refine N.iload (pc := 63) at_63 rfl ?_
      refine N.iload (pc := 65) at_65 rfl ?_
      refine N.callS (pc := 67) (c_make0 G (x1 := i1 &&& 255) (x2 := (ushr i1 8) &&& 255) (lat_and _) (lat_and _)) [] [] at_67 (w4 hw) (w5 hw) (w2 hw) (w6 hw) (by decide) pd29 rfl (st := []) rfl rfl rfl (by decide) (by decide) (ltAll rfl) rfl (Nat.le_of_ble_eq_true rfl) (Nat.le_of_ble_eq_true rfl) (Nat.le_of_ble_eq_true rfl) (Nat.le_of_ble_eq_true rfl) fun v O' FN vm T hQ N => ?_
      obtain ⟨r33, rfl, rfl, rfl⟩ := hQ
      replace N := N.cast3 (O' := []) (RO' := []) (FZ' := [(r32, tO ([kc i0, kc (ushr i0 8)])), (r33, tO ([]))]) rfl rfl rfl
      show Goes p e below _ (T.setTop (mkF m 70 #[.val (.int i0), .val (.int i1), .val (.int i2), .val (.int 2), .val (.int 0), .val (.int (kc i0)), .val (.int (kc (ushr i0 8))), .val (.int (i1 &&& 255)), .val (.int ((ushr i1 8) &&& 255)), .val (.ref r32), .unset, .unset, .unset] [.ref r33]))
      refine N.astore (pc := 70) (l' := #[.val (.int i0), .val (.int i1), .val (.int i2), .val (.int 2), .val (.int 0), .val (.int (kc i0)), .val (.int (kc (ushr i0 8))), .val (.int (i1 &&& 255)), .val (.int ((ushr i1 8) &&& 255)), .val (.ref r32), .val (.ref r33), .unset, .unset]) at_70 rfl rfl ?_
      refine N.new (pc := 72) at_72 (w37 hw) (w38 hw) (w39 hw) (lay_com_example_shoalwork_shoalwork_task_TaskSpec hw) (Nat.le_of_ble_eq_true rfl) (Nat.le_of_ble_eq_true rfl) fun a34 T l_a34 N => ?_
      replace N := N.cast (O' := [(a34, .inl ("com/example/shoalwork/shoalwork/task/TaskSpec", [(("com/example/shoalwork/shoalwork/task/TaskSpec", "kind", "Ljava/lang/String;"), .null), (("com/example/shoalwork/shoalwork/task/TaskSpec", "argument", "Ljava/lang/String;"), .null)]))]) rfl
      refine N.dup (pc := 75) at_75 rfl ?_
      refine N.aload (pc := 76) at_76 rfl rfl ?_
      refine N.aload (pc := 78) at_78 rfl rfl ?_
      refine N.callI (pc := 80) (c_tsInit G (a := a34) (ak := r32) (ag := r33) (ks := [kc i0, kc (ushr i0 8)]) (gs := []) (by simp) (List.forall_mem_cons.mpr ⟨kc_ne _, List.forall_mem_cons.mpr ⟨kc_ne _, fun _ h => nomatch h⟩⟩)) [0] [1, 2] at_80 rfl (w40 hw) (w41 hw) (w39 hw) (w42 hw) (by decide) pd30 rfl (st := [.ref a34]) rfl rfl rfl (by decide) (by decide) (ltAll rfl) rfl (Nat.le_of_ble_eq_true rfl) (Nat.le_of_ble_eq_true rfl) (Nat.le_of_ble_eq_true rfl) (Nat.le_of_ble_eq_true rfl) fun v O' FN vm T hQ N => ?_
      obtain ⟨rfl, rfl, rfl⟩ := hQ
      replace N := N.cast3 (O' := [(a34, .inl ("com/example/shoalwork/shoalwork/task/TaskSpec", [(("com/example/shoalwork/shoalwork/task/TaskSpec", "kind", "Ljava/lang/String;"), .ref r32), (("com/example/shoalwork/shoalwork/task/TaskSpec", "argument", "Ljava/lang/String;"), .ref r33)]))]) (RO' := []) (FZ' := [(r32, tO ([kc i0, kc (ushr i0 8)])), (r33, tO ([]))]) rfl rfl rfl
      show Goes p e below _ (T.setTop (mkF m 83 #[.val (.int i0), .val (.int i1), .val (.int i2), .val (.int 2), .val (.int 0), .val (.int (kc i0)), .val (.int (kc (ushr i0 8))), .val (.int (i1 &&& 255)), .val (.int ((ushr i1 8) &&& 255)), .val (.ref r32), .val (.ref r33), .unset, .unset] [.ref a34]))
      refine N.astore (pc := 83) (l' := #[.val (.int i0), .val (.int i1), .val (.int i2), .val (.int 2), .val (.int 0), .val (.int (kc i0)), .val (.int (kc (ushr i0 8))), .val (.int (i1 &&& 255)), .val (.int ((ushr i1 8) &&& 255)), .val (.ref r32), .val (.ref r33), .val (.ref a34), .unset]) at_83 rfl rfl ?_
      refine N.aload (pc := 85) at_85 rfl rfl ?_
      refine N.callV (pc := 87) (c_tsToString G (a := a34) (ak := r32) (ag := r33) (ks := [kc i0, kc (ushr i0 8)]) (gs := []) (by simp) (by simp)) 0 [] [0, 1, 2] at_87 (w108 hw) (w109 hw) (w111 hw) (w110 hw) (w39 hw) (w112 hw) rfl (by decide) pd25 rfl (st := []) rfl rfl rfl (by decide) (by decide) (ltAll rfl) rfl (Nat.le_of_ble_eq_true rfl) (Nat.le_of_ble_eq_true rfl) (Nat.le_of_ble_eq_true rfl) (Nat.le_of_ble_eq_true rfl) fun v O' FN vm T hQ N => ?_
      obtain ⟨r35, rfl, rfl, rfl⟩ := hQ
      replace N := N.cast3 (O' := [(a34, .inl ("com/example/shoalwork/shoalwork/task/TaskSpec", [(("com/example/shoalwork/shoalwork/task/TaskSpec", "kind", "Ljava/lang/String;"), .ref r32), (("com/example/shoalwork/shoalwork/task/TaskSpec", "argument", "Ljava/lang/String;"), .ref r33)]))]) (RO' := []) (FZ' := [(r32, tO ([kc i0, kc (ushr i0 8)])), (r33, tO ([])), (r35, tO ([kc i0, kc (ushr i0 8), 58]))]) rfl rfl rfl
      show Goes p e below _ (T.setTop (mkF m 90 #[.val (.int i0), .val (.int i1), .val (.int i2), .val (.int 2), .val (.int 0), .val (.int (kc i0)), .val (.int (kc (ushr i0 8))), .val (.int (i1 &&& 255)), .val (.int ((ushr i1 8) &&& 255)), .val (.ref r32), .val (.ref r33), .val (.ref a34), .unset] [.ref r35]))
      obtain ⟨hc_r35, bx, N⟩ := N.openF 2 rfl
      replace N := N.cast3 (O' := [(a34, .inl ("com/example/shoalwork/shoalwork/task/TaskSpec", [(("com/example/shoalwork/shoalwork/task/TaskSpec", "kind", "Ljava/lang/String;"), .ref r32), (("com/example/shoalwork/shoalwork/task/TaskSpec", "argument", "Ljava/lang/String;"), .ref r33)]))]) (RO' := []) (FZ' := [(r32, tO ([kc i0, kc (ushr i0 8)])), (r33, tO ([])), (r35, tO ([kc i0, kc (ushr i0 8), 58])), (r35, sO bx), (bx, aO .byte ((([kc i0, kc (ushr i0 8), 58]).map by8).map Value.int))]) rfl rfl rfl
      refine N.astore (pc := 90) (l' := #[.val (.int i0), .val (.int i1), .val (.int i2), .val (.int 2), .val (.int 0), .val (.int (kc i0)), .val (.int (kc (ushr i0 8))), .val (.int (i1 &&& 255)), .val (.int ((ushr i1 8) &&& 255)), .val (.ref r32), .val (.ref r33), .val (.ref a34), .val (.ref r35)]) at_90 rfl rfl ?_
      refine N.aload (pc := 92) at_92 rfl rfl ?_
      refine N.ifnonnullT (pc := 94) (pc' := 99) at_94 rfl ?_
      refine N.aload (pc := 99) at_99 rfl rfl ?_
      refine N.callV (pc := 101) (c_length G (a := r35) (cs := [kc i0, kc (ushr i0 8), 58]) (z := 3) rfl) 4 [] [3] at_101 (w212 hw) (w78 hw) (w80 hw) (w79 hw) (w10 hw) (w81 hw) rfl (by decide) pd9 rfl (st := []) rfl rfl rfl (by decide) (by decide) (ltAll rfl) rfl (Nat.le_of_ble_eq_true rfl) (Nat.le_of_ble_eq_true rfl) (Nat.le_of_ble_eq_true rfl) (Nat.le_of_ble_eq_true rfl) fun v O' FN vm T hQ N => ?_
      obtain ⟨rfl, rfl, rfl⟩ := hQ
      replace N := N.cast3 (O' := [(a34, .inl ("com/example/shoalwork/shoalwork/task/TaskSpec", [(("com/example/shoalwork/shoalwork/task/TaskSpec", "kind", "Ljava/lang/String;"), .ref r32), (("com/example/shoalwork/shoalwork/task/TaskSpec", "argument", "Ljava/lang/String;"), .ref r33)]))]) (RO' := []) (FZ' := [(r32, tO ([kc i0, kc (ushr i0 8)])), (r33, tO ([])), (r35, tO ([kc i0, kc (ushr i0 8), 58])), (r35, sO bx), (bx, aO .byte ((([kc i0, kc (ushr i0 8), 58]).map by8).map Value.int))]) rfl rfl rfl
      show Goes p e below _ (T.setTop (mkF m 104 #[.val (.int i0), .val (.int i1), .val (.int i2), .val (.int 2), .val (.int 0), .val (.int (kc i0)), .val (.int (kc (ushr i0 8))), .val (.int (i1 &&& 255)), .val (.int ((ushr i1 8) &&& 255)), .val (.ref r32), .val (.ref r33), .val (.ref a34), .val (.ref r35)] [.int 3]))
      refine N.iloadN (pc := 104) at_104 rfl ?_
      refine N.iconst (pc := 105) 1 at_105 rfl ?_
      refine N.iadd (pc := 106) at_106 ?_
      refine N.iload (pc := 107) at_107 rfl ?_
      refine N.iadd (pc := 109) at_109 ?_
      refine N.icmpeqT (pc := 110) (pc' := 115) at_110 rfl rfl ?_
      refine N.aload (pc := 115) at_115 rfl rfl ?_
      refine N.iconst (pc := 117) 0 at_117 rfl ?_
      show Goes p e below _ (T.setTop (mkF m 118 #[.val (.int i0), .val (.int i1), .val (.int i2), .val (.int 2), .val (.int 0), .val (.int (kc i0)), .val (.int (kc (ushr i0 8))), .val (.int (i1 &&& 255)), .val (.int ((ushr i1 8) &&& 255)), .val (.ref r32), .val (.ref r33), .val (.ref a34), .val (.ref r35)] [.int 0, .ref r35]))
      refine N.callV (pc := 118) (c_charAt G (cs := [kc i0, kc (ushr i0 8), 58]) (i := 0) (x := kc i0) (by simp) rfl (a := r35)) 4 [] [3] at_118 (w213 hw) (w214 hw) (w216 hw) (w215 hw) (w10 hw) (w217 hw) rfl (by decide) pd28 rfl (st := []) rfl rfl rfl (by decide) (by decide) (ltAll rfl) rfl (Nat.le_of_ble_eq_true rfl) (Nat.le_of_ble_eq_true rfl) (Nat.le_of_ble_eq_true rfl) (Nat.le_of_ble_eq_true rfl) fun v O' FN vm T hQ N => ?_
      obtain ⟨rfl, rfl, rfl⟩ := hQ
      replace N := N.cast3 (O' := [(a34, .inl ("com/example/shoalwork/shoalwork/task/TaskSpec", [(("com/example/shoalwork/shoalwork/task/TaskSpec", "kind", "Ljava/lang/String;"), .ref r32), (("com/example/shoalwork/shoalwork/task/TaskSpec", "argument", "Ljava/lang/String;"), .ref r33)]))]) (RO' := []) (FZ' := [(r32, tO ([kc i0, kc (ushr i0 8)])), (r33, tO ([])), (r35, tO ([kc i0, kc (ushr i0 8), 58])), (r35, sO bx), (bx, aO .byte ((([kc i0, kc (ushr i0 8), 58]).map by8).map Value.int))]) rfl rfl rfl
      show Goes p e below _ (T.setTop (mkF m 121 #[.val (.int i0), .val (.int i1), .val (.int i2), .val (.int 2), .val (.int 0), .val (.int (kc i0)), .val (.int (kc (ushr i0 8))), .val (.int (i1 &&& 255)), .val (.int ((ushr i1 8) &&& 255)), .val (.ref r32), .val (.ref r33), .val (.ref a34), .val (.ref r35)] [.int (kc i0)]))
      refine N.iload (pc := 121) at_121 rfl ?_
      refine N.icmpeqT (pc := 123) (pc' := 128) at_123 rfl rfl ?_
      refine N.iloadN (pc := 128) at_128 rfl ?_
      refine N.iconst (pc := 129) 2 at_129 rfl ?_
      refine N.icmpneF (pc := 130) at_130 rfl ?_
      refine N.aload (pc := 133) at_133 rfl rfl ?_
      refine N.iconst (pc := 135) 1 at_135 rfl ?_
      show Goes p e below _ (T.setTop (mkF m 136 #[.val (.int i0), .val (.int i1), .val (.int i2), .val (.int 2), .val (.int 0), .val (.int (kc i0)), .val (.int (kc (ushr i0 8))), .val (.int (i1 &&& 255)), .val (.int ((ushr i1 8) &&& 255)), .val (.ref r32), .val (.ref r33), .val (.ref a34), .val (.ref r35)] [.int 1, .ref r35]))
      refine N.callV (pc := 136) (c_charAt G (cs := [kc i0, kc (ushr i0 8), 58]) (i := 1) (x := kc (ushr i0 8)) (by simp) rfl (a := r35)) 4 [] [3] at_136 (w213 hw) (w214 hw) (w216 hw) (w215 hw) (w10 hw) (w217 hw) rfl (by decide) pd28 rfl (st := []) rfl rfl rfl (by decide) (by decide) (ltAll rfl) rfl (Nat.le_of_ble_eq_true rfl) (Nat.le_of_ble_eq_true rfl) (Nat.le_of_ble_eq_true rfl) (Nat.le_of_ble_eq_true rfl) fun v O' FN vm T hQ N => ?_
      obtain ⟨rfl, rfl, rfl⟩ := hQ
      replace N := N.cast3 (O' := [(a34, .inl ("com/example/shoalwork/shoalwork/task/TaskSpec", [(("com/example/shoalwork/shoalwork/task/TaskSpec", "kind", "Ljava/lang/String;"), .ref r32), (("com/example/shoalwork/shoalwork/task/TaskSpec", "argument", "Ljava/lang/String;"), .ref r33)]))]) (RO' := []) (FZ' := [(r32, tO ([kc i0, kc (ushr i0 8)])), (r33, tO ([])), (r35, tO ([kc i0, kc (ushr i0 8), 58])), (r35, sO bx), (bx, aO .byte ((([kc i0, kc (ushr i0 8), 58]).map by8).map Value.int))]) rfl rfl rfl
      show Goes p e below _ (T.setTop (mkF m 139 #[.val (.int i0), .val (.int i1), .val (.int i2), .val (.int 2), .val (.int 0), .val (.int (kc i0)), .val (.int (kc (ushr i0 8))), .val (.int (i1 &&& 255)), .val (.int ((ushr i1 8) &&& 255)), .val (.ref r32), .val (.ref r33), .val (.ref a34), .val (.ref r35)] [.int (kc (ushr i0 8))]))
      refine N.iload (pc := 139) at_139 rfl ?_
      refine N.icmpeqT (pc := 141) (pc' := 146) at_141 rfl rfl ?_
      refine N.aload (pc := 146) at_146 rfl rfl ?_
      refine N.iloadN (pc := 148) at_148 rfl ?_
      show Goes p e below _ (T.setTop (mkF m 149 #[.val (.int i0), .val (.int i1), .val (.int i2), .val (.int 2), .val (.int 0), .val (.int (kc i0)), .val (.int (kc (ushr i0 8))), .val (.int (i1 &&& 255)), .val (.int ((ushr i1 8) &&& 255)), .val (.ref r32), .val (.ref r33), .val (.ref a34), .val (.ref r35)] [.int 2, .ref r35]))
      refine N.callV (pc := 149) (c_charAt G (cs := [kc i0, kc (ushr i0 8), 58]) (i := 2) (x := 58) (by simp) rfl (a := r35)) 4 [] [3] at_149 (w213 hw) (w214 hw) (w216 hw) (w215 hw) (w10 hw) (w217 hw) rfl (by decide) pd28 rfl (st := []) rfl rfl rfl (by decide) (by decide) (ltAll rfl) rfl (Nat.le_of_ble_eq_true rfl) (Nat.le_of_ble_eq_true rfl) (Nat.le_of_ble_eq_true rfl) (Nat.le_of_ble_eq_true rfl) fun v O' FN vm T hQ N => ?_
      obtain ⟨rfl, rfl, rfl⟩ := hQ
      replace N := N.cast3 (O' := [(a34, .inl ("com/example/shoalwork/shoalwork/task/TaskSpec", [(("com/example/shoalwork/shoalwork/task/TaskSpec", "kind", "Ljava/lang/String;"), .ref r32), (("com/example/shoalwork/shoalwork/task/TaskSpec", "argument", "Ljava/lang/String;"), .ref r33)]))]) (RO' := []) (FZ' := [(r32, tO ([kc i0, kc (ushr i0 8)])), (r33, tO ([])), (r35, tO ([kc i0, kc (ushr i0 8), 58])), (r35, sO bx), (bx, aO .byte ((([kc i0, kc (ushr i0 8), 58]).map by8).map Value.int))]) rfl rfl rfl
      show Goes p e below _ (T.setTop (mkF m 152 #[.val (.int i0), .val (.int i1), .val (.int i2), .val (.int 2), .val (.int 0), .val (.int (kc i0)), .val (.int (kc (ushr i0 8))), .val (.int (i1 &&& 255)), .val (.int ((ushr i1 8) &&& 255)), .val (.ref r32), .val (.ref r33), .val (.ref a34), .val (.ref r35)] [.int 58]))
      refine N.bipush (pc := 152) 58 at_152 rfl ?_
      refine N.icmpeqT (pc := 154) (pc' := 159) at_154 rfl rfl ?_
      refine N.iload (pc := 159) at_159 rfl ?_
      refine N.iconst (pc := 161) 1 at_161 rfl ?_
      refine N.icmpltT (pc := 162) (pc' := 180) at_162 rfl (by decide) ?_
      refine N.iload (pc := 180) at_180 rfl ?_
      refine N.iconst (pc := 182) 2 at_182 rfl ?_
      refine N.icmpneT (pc := 183) (pc' := 201) at_183 rfl (by decide) ?_
      refine N.iconst (pc := 201) 1 at_201 rfl ?_
      exact N.ireturn (pc := 202) [] (fun _ h => h) (List.forall_mem_nil _) (Nat.le_of_ble_eq_true rfl) (Nat.le_of_ble_eq_true rfl) (t := .boolean) at_202 rfl (by simp) rfl rfl
    · show Goes p e below _ (T.setTop (mkF m 15 #[.val (.int i0), .val (.int i1), .val (.int i2), .val (.int 2), .unset, .unset, .unset, .unset, .unset, .unset, .unset, .unset, .unset] [.int 1]))
      refine N.istore (pc := 15) (l' := #[.val (.int i0), .val (.int i1), .val (.int i2), .val (.int 2), .val (.int 1), .unset, .unset, .unset, .unset, .unset, .unset, .unset, .unset]) at_15 rfl ?_
      refine N.iloadN (pc := 17) at_17 rfl ?_
      refine N.callS (pc := 18) (c_kindChar G (x := i0)) [] [] at_18 (w0 hw) (w1 hw) (w2 hw) (w3 hw) (by decide) pd28 rfl (st := []) rfl rfl rfl (by decide) (by decide) (ltAll rfl) rfl (Nat.le_of_ble_eq_true rfl) (Nat.le_of_ble_eq_true rfl) (Nat.le_of_ble_eq_true rfl) (Nat.le_of_ble_eq_true rfl) fun v O' FN vm T hQ N => ?_
      obtain ⟨rfl, rfl, rfl⟩ := hQ
      replace N := N.cast3 (O' := []) (RO' := []) (FZ' := []) rfl rfl rfl
      show Goes p e below _ (T.setTop (mkF m 21 #[.val (.int i0), .val (.int i1), .val (.int i2), .val (.int 2), .val (.int 1), .unset, .unset, .unset, .unset, .unset, .unset, .unset, .unset] [.int (kc i0)]))
      refine N.istore (pc := 21) (l' := #[.val (.int i0), .val (.int i1), .val (.int i2), .val (.int 2), .val (.int 1), .val (.int (kc i0)), .unset, .unset, .unset, .unset, .unset, .unset, .unset]) at_21 rfl ?_
      refine N.iloadN (pc := 23) at_23 rfl ?_
      refine N.bipush (pc := 24) 8 at_24 rfl ?_
      refine N.iushr (pc := 26) at_26 ?_
      refine N.callS (pc := 27) (c_kindChar G (x := ushr i0 8)) [] [] at_27 (w0 hw) (w1 hw) (w2 hw) (w3 hw) (by decide) pd28 rfl (st := []) rfl rfl rfl (by decide) (by decide) (ltAll rfl) rfl (Nat.le_of_ble_eq_true rfl) (Nat.le_of_ble_eq_true rfl) (Nat.le_of_ble_eq_true rfl) (Nat.le_of_ble_eq_true rfl) fun v O' FN vm T hQ N => ?_
      obtain ⟨rfl, rfl, rfl⟩ := hQ
      replace N := N.cast3 (O' := []) (RO' := []) (FZ' := []) rfl rfl rfl
      show Goes p e below _ (T.setTop (mkF m 30 #[.val (.int i0), .val (.int i1), .val (.int i2), .val (.int 2), .val (.int 1), .val (.int (kc i0)), .unset, .unset, .unset, .unset, .unset, .unset, .unset] [.int (kc (ushr i0 8))]))
      refine N.istore (pc := 30) (l' := #[.val (.int i0), .val (.int i1), .val (.int i2), .val (.int 2), .val (.int 1), .val (.int (kc i0)), .val (.int (kc (ushr i0 8))), .unset, .unset, .unset, .unset, .unset, .unset]) at_30 rfl ?_
      refine N.iloadN (pc := 32) at_32 rfl ?_
      refine N.sipush (pc := 33) 255 at_33 rfl ?_
      refine N.iand (pc := 36) at_36 ?_
      refine N.i2c (pc := 37) at_37 ?_
      rw [i2c_mask]
      refine N.istore (pc := 38) (l' := #[.val (.int i0), .val (.int i1), .val (.int i2), .val (.int 2), .val (.int 1), .val (.int (kc i0)), .val (.int (kc (ushr i0 8))), .val (.int (i1 &&& 255)), .unset, .unset, .unset, .unset, .unset]) at_38 rfl ?_
      refine N.iloadN (pc := 40) at_40 rfl ?_
      refine N.bipush (pc := 41) 8 at_41 rfl ?_
      refine N.iushr (pc := 43) at_43 ?_
      refine N.sipush (pc := 44) 255 at_44 rfl ?_
      refine N.iand (pc := 47) at_47 ?_
      refine N.i2c (pc := 48) at_48 ?_
      rw [i2c_mask]
      refine N.istore (pc := 49) (l' := #[.val (.int i0), .val (.int i1), .val (.int i2), .val (.int 2), .val (.int 1), .val (.int (kc i0)), .val (.int (kc (ushr i0 8))), .val (.int (i1 &&& 255)), .val (.int ((ushr i1 8) &&& 255)), .unset, .unset, .unset, .unset]) at_49 rfl ?_
      refine N.iloadN (pc := 51) at_51 rfl ?_
      refine N.iload (pc := 52) at_52 rfl ?_
      refine N.iload (pc := 54) at_54 rfl ?_
      refine N.callS (pc := 56) (c_make2 G (x1 := kc i0) (x2 := kc (ushr i0 8)) (lat_kc _) (lat_kc _)) [] [] at_56 (w4 hw) (w5 hw) (w2 hw) (w6 hw) (by decide) pd29 rfl (st := []) rfl rfl rfl (by decide) (by decide) (ltAll rfl) rfl (Nat.le_of_ble_eq_true rfl) (Nat.le_of_ble_eq_true rfl) (Nat.le_of_ble_eq_true rfl) (Nat.le_of_ble_eq_true rfl) fun v O' FN vm T hQ N => ?_
      obtain ⟨r36, rfl, rfl, rfl⟩ := hQ
      replace N := N.cast3 (O' := []) (RO' := []) (FZ' := [(r36, tO ([kc i0, kc (ushr i0 8)]))]) rfl rfl rfl
      show Goes p e below _ (T.setTop (mkF m 59 #[.val (.int i0), .val (.int i1), .val (.int i2), .val (.int 2), .val (.int 1), .val (.int (kc i0)), .val (.int (kc (ushr i0 8))), .val (.int (i1 &&& 255)), .val (.int ((ushr i1 8) &&& 255)), .unset, .unset, .unset, .unset] [.ref r36]))
      refine N.astore (pc := 59) (l' := #[.val (.int i0), .val (.int i1), .val (.int i2), .val (.int 2), .val (.int 1), .val (.int (kc i0)), .val (.int (kc (ushr i0 8))), .val (.int (i1 &&& 255)), .val (.int ((ushr i1 8) &&& 255)), .val (.ref r36), .unset, .unset, .unset]) at_59 rfl rfl ?_
      refine N.iload (pc := 61) at_61 rfl ?_
      refine N.iload (pc := 63) at_63 rfl ?_
      refine N.iload (pc := 65) at_65 rfl ?_
      refine N.callS (pc := 67) (c_make1 G (x1 := i1 &&& 255) (x2 := (ushr i1 8) &&& 255) (lat_and _) (lat_and _)) [] [] at_67 (w4 hw) (w5 hw) (w2 hw) (w6 hw) (by decide) pd29 rfl (st := []) rfl rfl rfl (by decide) (by decide) (ltAll rfl) rfl (Nat.le_of_ble_eq_true rfl) (Nat.le_of_ble_eq_true rfl) (Nat.le_of_ble_eq_true rfl) (Nat.le_of_ble_eq_true rfl) fun v O' FN vm T hQ N => ?_
      obtain ⟨r37, rfl, rfl, rfl⟩ := hQ
      replace N := N.cast3 (O' := []) (RO' := []) (FZ' := [(r36, tO ([kc i0, kc (ushr i0 8)])), (r37, tO ([i1 &&& 255]))]) rfl rfl rfl
      show Goes p e below _ (T.setTop (mkF m 70 #[.val (.int i0), .val (.int i1), .val (.int i2), .val (.int 2), .val (.int 1), .val (.int (kc i0)), .val (.int (kc (ushr i0 8))), .val (.int (i1 &&& 255)), .val (.int ((ushr i1 8) &&& 255)), .val (.ref r36), .unset, .unset, .unset] [.ref r37]))
      refine N.astore (pc := 70) (l' := #[.val (.int i0), .val (.int i1), .val (.int i2), .val (.int 2), .val (.int 1), .val (.int (kc i0)), .val (.int (kc (ushr i0 8))), .val (.int (i1 &&& 255)), .val (.int ((ushr i1 8) &&& 255)), .val (.ref r36), .val (.ref r37), .unset, .unset]) at_70 rfl rfl ?_
      refine N.new (pc := 72) at_72 (w37 hw) (w38 hw) (w39 hw) (lay_com_example_shoalwork_shoalwork_task_TaskSpec hw) (Nat.le_of_ble_eq_true rfl) (Nat.le_of_ble_eq_true rfl) fun a38 T l_a38 N => ?_
      replace N := N.cast (O' := [(a38, .inl ("com/example/shoalwork/shoalwork/task/TaskSpec", [(("com/example/shoalwork/shoalwork/task/TaskSpec", "kind", "Ljava/lang/String;"), .null), (("com/example/shoalwork/shoalwork/task/TaskSpec", "argument", "Ljava/lang/String;"), .null)]))]) rfl
      refine N.dup (pc := 75) at_75 rfl ?_
      refine N.aload (pc := 76) at_76 rfl rfl ?_
      refine N.aload (pc := 78) at_78 rfl rfl ?_
      refine N.callI (pc := 80) (c_tsInit G (a := a38) (ak := r36) (ag := r37) (ks := [kc i0, kc (ushr i0 8)]) (gs := [i1 &&& 255]) (by simp) (List.forall_mem_cons.mpr ⟨kc_ne _, List.forall_mem_cons.mpr ⟨kc_ne _, fun _ h => nomatch h⟩⟩)) [0] [1, 2] at_80 rfl (w40 hw) (w41 hw) (w39 hw) (w42 hw) (by decide) pd30 rfl (st := [.ref a38]) rfl rfl rfl (by decide) (by decide) (ltAll rfl) rfl (Nat.le_of_ble_eq_true rfl) (Nat.le_of_ble_eq_true rfl) (Nat.le_of_ble_eq_true rfl) (Nat.le_of_ble_eq_true rfl) fun v O' FN vm T hQ N => ?_
      obtain ⟨rfl, rfl, rfl⟩ := hQ
      replace N := N.cast3 (O' := [(a38, .inl ("com/example/shoalwork/shoalwork/task/TaskSpec", [(("com/example/shoalwork/shoalwork/task/TaskSpec", "kind", "Ljava/lang/String;"), .ref r36), (("com/example/shoalwork/shoalwork/task/TaskSpec", "argument", "Ljava/lang/String;"), .ref r37)]))]) (RO' := []) (FZ' := [(r36, tO ([kc i0, kc (ushr i0 8)])), (r37, tO ([i1 &&& 255]))]) rfl rfl rfl
      show Goes p e below _ (T.setTop (mkF m 83 #[.val (.int i0), .val (.int i1), .val (.int i2), .val (.int 2), .val (.int 1), .val (.int (kc i0)), .val (.int (kc (ushr i0 8))), .val (.int (i1 &&& 255)), .val (.int ((ushr i1 8) &&& 255)), .val (.ref r36), .val (.ref r37), .unset, .unset] [.ref a38]))
      refine N.astore (pc := 83) (l' := #[.val (.int i0), .val (.int i1), .val (.int i2), .val (.int 2), .val (.int 1), .val (.int (kc i0)), .val (.int (kc (ushr i0 8))), .val (.int (i1 &&& 255)), .val (.int ((ushr i1 8) &&& 255)), .val (.ref r36), .val (.ref r37), .val (.ref a38), .unset]) at_83 rfl rfl ?_
      refine N.aload (pc := 85) at_85 rfl rfl ?_
      refine N.callV (pc := 87) (c_tsToString G (a := a38) (ak := r36) (ag := r37) (ks := [kc i0, kc (ushr i0 8)]) (gs := [i1 &&& 255]) (by simp) (by simp)) 0 [] [0, 1, 2] at_87 (w108 hw) (w109 hw) (w111 hw) (w110 hw) (w39 hw) (w112 hw) rfl (by decide) pd25 rfl (st := []) rfl rfl rfl (by decide) (by decide) (ltAll rfl) rfl (Nat.le_of_ble_eq_true rfl) (Nat.le_of_ble_eq_true rfl) (Nat.le_of_ble_eq_true rfl) (Nat.le_of_ble_eq_true rfl) fun v O' FN vm T hQ N => ?_
      obtain ⟨r39, rfl, rfl, rfl⟩ := hQ
      replace N := N.cast3 (O' := [(a38, .inl ("com/example/shoalwork/shoalwork/task/TaskSpec", [(("com/example/shoalwork/shoalwork/task/TaskSpec", "kind", "Ljava/lang/String;"), .ref r36), (("com/example/shoalwork/shoalwork/task/TaskSpec", "argument", "Ljava/lang/String;"), .ref r37)]))]) (RO' := []) (FZ' := [(r36, tO ([kc i0, kc (ushr i0 8)])), (r37, tO ([i1 &&& 255])), (r39, tO ([kc i0, kc (ushr i0 8), 58, i1 &&& 255]))]) rfl rfl rfl
      show Goes p e below _ (T.setTop (mkF m 90 #[.val (.int i0), .val (.int i1), .val (.int i2), .val (.int 2), .val (.int 1), .val (.int (kc i0)), .val (.int (kc (ushr i0 8))), .val (.int (i1 &&& 255)), .val (.int ((ushr i1 8) &&& 255)), .val (.ref r36), .val (.ref r37), .val (.ref a38), .unset] [.ref r39]))
      obtain ⟨hc_r39, bx, N⟩ := N.openF 2 rfl
      replace N := N.cast3 (O' := [(a38, .inl ("com/example/shoalwork/shoalwork/task/TaskSpec", [(("com/example/shoalwork/shoalwork/task/TaskSpec", "kind", "Ljava/lang/String;"), .ref r36), (("com/example/shoalwork/shoalwork/task/TaskSpec", "argument", "Ljava/lang/String;"), .ref r37)]))]) (RO' := []) (FZ' := [(r36, tO ([kc i0, kc (ushr i0 8)])), (r37, tO ([i1 &&& 255])), (r39, tO ([kc i0, kc (ushr i0 8), 58, i1 &&& 255])), (r39, sO bx), (bx, aO .byte ((([kc i0, kc (ushr i0 8), 58, i1 &&& 255]).map by8).map Value.int))]) rfl rfl rfl
      refine N.astore (pc := 90) (l' := #[.val (.int i0), .val (.int i1), .val (.int i2), .val (.int 2), .val (.int 1), .val (.int (kc i0)), .val (.int (kc (ushr i0 8))), .val (.int (i1 &&& 255)), .val (.int ((ushr i1 8) &&& 255)), .val (.ref r36), .val (.ref r37), .val (.ref a38), .val (.ref r39)]) at_90 rfl rfl ?_
      refine N.aload (pc := 92) at_92 rfl rfl ?_
      refine N.ifnonnullT (pc := 94) (pc' := 99) at_94 rfl ?_
      refine N.aload (pc := 99) at_99 rfl rfl ?_
      refine N.callV (pc := 101) (c_length G (a := r39) (cs := [kc i0, kc (ushr i0 8), 58, i1 &&& 255]) (z := 4) rfl) 4 [] [3] at_101 (w212 hw) (w78 hw) (w80 hw) (w79 hw) (w10 hw) (w81 hw) rfl (by decide) pd9 rfl (st := []) rfl rfl rfl (by decide) (by decide) (ltAll rfl) rfl (Nat.le_of_ble_eq_true rfl) (Nat.le_of_ble_eq_true rfl) (Nat.le_of_ble_eq_true rfl) (Nat.le_of_ble_eq_true rfl) fun v O' FN vm T hQ N => ?_
      obtain ⟨rfl, rfl, rfl⟩ := hQ
      replace N := N.cast3 (O' := [(a38, .inl ("com/example/shoalwork/shoalwork/task/TaskSpec", [(("com/example/shoalwork/shoalwork/task/TaskSpec", "kind", "Ljava/lang/String;"), .ref r36), (("com/example/shoalwork/shoalwork/task/TaskSpec", "argument", "Ljava/lang/String;"), .ref r37)]))]) (RO' := []) (FZ' := [(r36, tO ([kc i0, kc (ushr i0 8)])), (r37, tO ([i1 &&& 255])), (r39, tO ([kc i0, kc (ushr i0 8), 58, i1 &&& 255])), (r39, sO bx), (bx, aO .byte ((([kc i0, kc (ushr i0 8), 58, i1 &&& 255]).map by8).map Value.int))]) rfl rfl rfl
      show Goes p e below _ (T.setTop (mkF m 104 #[.val (.int i0), .val (.int i1), .val (.int i2), .val (.int 2), .val (.int 1), .val (.int (kc i0)), .val (.int (kc (ushr i0 8))), .val (.int (i1 &&& 255)), .val (.int ((ushr i1 8) &&& 255)), .val (.ref r36), .val (.ref r37), .val (.ref a38), .val (.ref r39)] [.int 4]))
      refine N.iloadN (pc := 104) at_104 rfl ?_
      refine N.iconst (pc := 105) 1 at_105 rfl ?_
      refine N.iadd (pc := 106) at_106 ?_
      refine N.iload (pc := 107) at_107 rfl ?_
      refine N.iadd (pc := 109) at_109 ?_
      refine N.icmpeqT (pc := 110) (pc' := 115) at_110 rfl rfl ?_
      refine N.aload (pc := 115) at_115 rfl rfl ?_
      refine N.iconst (pc := 117) 0 at_117 rfl ?_
      show Goes p e below _ (T.setTop (mkF m 118 #[.val (.int i0), .val (.int i1), .val (.int i2), .val (.int 2), .val (.int 1), .val (.int (kc i0)), .val (.int (kc (ushr i0 8))), .val (.int (i1 &&& 255)), .val (.int ((ushr i1 8) &&& 255)), .val (.ref r36), .val (.ref r37), .val (.ref a38), .val (.ref r39)] [.int 0, .ref r39]))
      refine N.callV (pc := 118) (c_charAt G (cs := [kc i0, kc (ushr i0 8), 58, i1 &&& 255]) (i := 0) (x := kc i0) (by simp) rfl (a := r39)) 4 [] [3] at_118 (w213 hw) (w214 hw) (w216 hw) (w215 hw) (w10 hw) (w217 hw) rfl (by decide) pd28 rfl (st := []) rfl rfl rfl (by decide) (by decide) (ltAll rfl) rfl (Nat.le_of_ble_eq_true rfl) (Nat.le_of_ble_eq_true rfl) (Nat.le_of_ble_eq_true rfl) (Nat.le_of_ble_eq_true rfl) fun v O' FN vm T hQ N => ?_
      obtain ⟨rfl, rfl, rfl⟩ := hQ
      replace N := N.cast3 (O' := [(a38, .inl ("com/example/shoalwork/shoalwork/task/TaskSpec", [(("com/example/shoalwork/shoalwork/task/TaskSpec", "kind", "Ljava/lang/String;"), .ref r36), (("com/example/shoalwork/shoalwork/task/TaskSpec", "argument", "Ljava/lang/String;"), .ref r37)]))]) (RO' := []) (FZ' := [(r36, tO ([kc i0, kc (ushr i0 8)])), (r37, tO ([i1 &&& 255])), (r39, tO ([kc i0, kc (ushr i0 8), 58, i1 &&& 255])), (r39, sO bx), (bx, aO .byte ((([kc i0, kc (ushr i0 8), 58, i1 &&& 255]).map by8).map Value.int))]) rfl rfl rfl
      show Goes p e below _ (T.setTop (mkF m 121 #[.val (.int i0), .val (.int i1), .val (.int i2), .val (.int 2), .val (.int 1), .val (.int (kc i0)), .val (.int (kc (ushr i0 8))), .val (.int (i1 &&& 255)), .val (.int ((ushr i1 8) &&& 255)), .val (.ref r36), .val (.ref r37), .val (.ref a38), .val (.ref r39)] [.int (kc i0)]))
      refine N.iload (pc := 121) at_121 rfl ?_
      refine N.icmpeqT (pc := 123) (pc' := 128) at_123 rfl rfl ?_
      refine N.iloadN (pc := 128) at_128 rfl ?_
      refine N.iconst (pc := 129) 2 at_129 rfl ?_
      refine N.icmpneF (pc := 130) at_130 rfl ?_
      refine N.aload (pc := 133) at_133 rfl rfl ?_
      refine N.iconst (pc := 135) 1 at_135 rfl ?_
      show Goes p e below _ (T.setTop (mkF m 136 #[.val (.int i0), .val (.int i1), .val (.int i2), .val (.int 2), .val (.int 1), .val (.int (kc i0)), .val (.int (kc (ushr i0 8))), .val (.int (i1 &&& 255)), .val (.int ((ushr i1 8) &&& 255)), .val (.ref r36), .val (.ref r37), .val (.ref a38), .val (.ref r39)] [.int 1, .ref r39]))
      refine N.callV (pc := 136) (c_charAt G (cs := [kc i0, kc (ushr i0 8), 58, i1 &&& 255]) (i := 1) (x := kc (ushr i0 8)) (by simp) rfl (a := r39)) 4 [] [3] at_136 (w213 hw) (w214 hw) (w216 hw) (w215 hw) (w10 hw) (w217 hw) rfl (by decide) pd28 rfl (st := []) rfl rfl rfl (by decide) (by decide) (ltAll rfl) rfl (Nat.le_of_ble_eq_true rfl) (Nat.le_of_ble_eq_true rfl) (Nat.le_of_ble_eq_true rfl) (Nat.le_of_ble_eq_true rfl) fun v O' FN vm T hQ N => ?_
      obtain ⟨rfl, rfl, rfl⟩ := hQ
      replace N := N.cast3 (O' := [(a38, .inl ("com/example/shoalwork/shoalwork/task/TaskSpec", [(("com/example/shoalwork/shoalwork/task/TaskSpec", "kind", "Ljava/lang/String;"), .ref r36), (("com/example/shoalwork/shoalwork/task/TaskSpec", "argument", "Ljava/lang/String;"), .ref r37)]))]) (RO' := []) (FZ' := [(r36, tO ([kc i0, kc (ushr i0 8)])), (r37, tO ([i1 &&& 255])), (r39, tO ([kc i0, kc (ushr i0 8), 58, i1 &&& 255])), (r39, sO bx), (bx, aO .byte ((([kc i0, kc (ushr i0 8), 58, i1 &&& 255]).map by8).map Value.int))]) rfl rfl rfl
      show Goes p e below _ (T.setTop (mkF m 139 #[.val (.int i0), .val (.int i1), .val (.int i2), .val (.int 2), .val (.int 1), .val (.int (kc i0)), .val (.int (kc (ushr i0 8))), .val (.int (i1 &&& 255)), .val (.int ((ushr i1 8) &&& 255)), .val (.ref r36), .val (.ref r37), .val (.ref a38), .val (.ref r39)] [.int (kc (ushr i0 8))]))
      refine N.iload (pc := 139) at_139 rfl ?_
      refine N.icmpeqT (pc := 141) (pc' := 146) at_141 rfl rfl ?_
      refine N.aload (pc := 146) at_146 rfl rfl ?_
      refine N.iloadN (pc := 148) at_148 rfl ?_
      show Goes p e below _ (T.setTop (mkF m 149 #[.val (.int i0), .val (.int i1), .val (.int i2), .val (.int 2), .val (.int 1), .val (.int (kc i0)), .val (.int (kc (ushr i0 8))), .val (.int (i1 &&& 255)), .val (.int ((ushr i1 8) &&& 255)), .val (.ref r36), .val (.ref r37), .val (.ref a38), .val (.ref r39)] [.int 2, .ref r39]))
      refine N.callV (pc := 149) (c_charAt G (cs := [kc i0, kc (ushr i0 8), 58, i1 &&& 255]) (i := 2) (x := 58) (by simp) rfl (a := r39)) 4 [] [3] at_149 (w213 hw) (w214 hw) (w216 hw) (w215 hw) (w10 hw) (w217 hw) rfl (by decide) pd28 rfl (st := []) rfl rfl rfl (by decide) (by decide) (ltAll rfl) rfl (Nat.le_of_ble_eq_true rfl) (Nat.le_of_ble_eq_true rfl) (Nat.le_of_ble_eq_true rfl) (Nat.le_of_ble_eq_true rfl) fun v O' FN vm T hQ N => ?_
      obtain ⟨rfl, rfl, rfl⟩ := hQ
      replace N := N.cast3 (O' := [(a38, .inl ("com/example/shoalwork/shoalwork/task/TaskSpec", [(("com/example/shoalwork/shoalwork/task/TaskSpec", "kind", "Ljava/lang/String;"), .ref r36), (("com/example/shoalwork/shoalwork/task/TaskSpec", "argument", "Ljava/lang/String;"), .ref r37)]))]) (RO' := []) (FZ' := [(r36, tO ([kc i0, kc (ushr i0 8)])), (r37, tO ([i1 &&& 255])), (r39, tO ([kc i0, kc (ushr i0 8), 58, i1 &&& 255])), (r39, sO bx), (bx, aO .byte ((([kc i0, kc (ushr i0 8), 58, i1 &&& 255]).map by8).map Value.int))]) rfl rfl rfl
      show Goes p e below _ (T.setTop (mkF m 152 #[.val (.int i0), .val (.int i1), .val (.int i2), .val (.int 2), .val (.int 1), .val (.int (kc i0)), .val (.int (kc (ushr i0 8))), .val (.int (i1 &&& 255)), .val (.int ((ushr i1 8) &&& 255)), .val (.ref r36), .val (.ref r37), .val (.ref a38), .val (.ref r39)] [.int 58]))
      refine N.bipush (pc := 152) 58 at_152 rfl ?_
      refine N.icmpeqT (pc := 154) (pc' := 159) at_154 rfl rfl ?_
      refine N.iload (pc := 159) at_159 rfl ?_
      refine N.iconst (pc := 161) 1 at_161 rfl ?_
      refine N.icmpltF (pc := 162) at_162 (by decide) ?_
      refine N.aload (pc := 165) at_165 rfl rfl ?_
      refine N.iloadN (pc := 167) at_167 rfl ?_
      refine N.iconst (pc := 168) 1 at_168 rfl ?_
      refine N.iadd (pc := 169) at_169 ?_
      show Goes p e below _ (T.setTop (mkF m 170 #[.val (.int i0), .val (.int i1), .val (.int i2), .val (.int 2), .val (.int 1), .val (.int (kc i0)), .val (.int (kc (ushr i0 8))), .val (.int (i1 &&& 255)), .val (.int ((ushr i1 8) &&& 255)), .val (.ref r36), .val (.ref r37), .val (.ref a38), .val (.ref r39)] [.int 3, .ref r39]))
      refine N.callV (pc := 170) (c_charAt G (cs := [kc i0, kc (ushr i0 8), 58, i1 &&& 255]) (i := 3) (x := i1 &&& 255) (by simp) rfl (a := r39)) 4 [] [3] at_170 (w213 hw) (w214 hw) (w216 hw) (w215 hw) (w10 hw) (w217 hw) rfl (by decide) pd28 rfl (st := []) rfl rfl rfl (by decide) (by decide) (ltAll rfl) rfl (Nat.le_of_ble_eq_true rfl) (Nat.le_of_ble_eq_true rfl) (Nat.le_of_ble_eq_true rfl) (Nat.le_of_ble_eq_true rfl) fun v O' FN vm T hQ N => ?_
      obtain ⟨rfl, rfl, rfl⟩ := hQ
      replace N := N.cast3 (O' := [(a38, .inl ("com/example/shoalwork/shoalwork/task/TaskSpec", [(("com/example/shoalwork/shoalwork/task/TaskSpec", "kind", "Ljava/lang/String;"), .ref r36), (("com/example/shoalwork/shoalwork/task/TaskSpec", "argument", "Ljava/lang/String;"), .ref r37)]))]) (RO' := []) (FZ' := [(r36, tO ([kc i0, kc (ushr i0 8)])), (r37, tO ([i1 &&& 255])), (r39, tO ([kc i0, kc (ushr i0 8), 58, i1 &&& 255])), (r39, sO bx), (bx, aO .byte ((([kc i0, kc (ushr i0 8), 58, i1 &&& 255]).map by8).map Value.int))]) rfl rfl rfl
      show Goes p e below _ (T.setTop (mkF m 173 #[.val (.int i0), .val (.int i1), .val (.int i2), .val (.int 2), .val (.int 1), .val (.int (kc i0)), .val (.int (kc (ushr i0 8))), .val (.int (i1 &&& 255)), .val (.int ((ushr i1 8) &&& 255)), .val (.ref r36), .val (.ref r37), .val (.ref a38), .val (.ref r39)] [.int (i1 &&& 255)]))
      refine N.iload (pc := 173) at_173 rfl ?_
      refine N.icmpeqT (pc := 175) (pc' := 180) at_175 rfl rfl ?_
      refine N.iload (pc := 180) at_180 rfl ?_
      refine N.iconst (pc := 182) 2 at_182 rfl ?_
      refine N.icmpneT (pc := 183) (pc' := 201) at_183 rfl (by decide) ?_
      refine N.iconst (pc := 201) 1 at_201 rfl ?_
      exact N.ireturn (pc := 202) [] (fun _ h => h) (List.forall_mem_nil _) (Nat.le_of_ble_eq_true rfl) (Nat.le_of_ble_eq_true rfl) (t := .boolean) at_202 rfl (by simp) rfl rfl
    · show Goes p e below _ (T.setTop (mkF m 15 #[.val (.int i0), .val (.int i1), .val (.int i2), .val (.int 2), .unset, .unset, .unset, .unset, .unset, .unset, .unset, .unset, .unset] [.int 2]))
      refine N.istore (pc := 15) (l' := #[.val (.int i0), .val (.int i1), .val (.int i2), .val (.int 2), .val (.int 2), .unset, .unset, .unset, .unset, .unset, .unset, .unset, .unset]) at_15 rfl ?_
      refine N.iloadN (pc := 17) at_17 rfl ?_
      refine N.callS (pc := 18) (c_kindChar G (x := i0)) [] [] at_18 (w0 hw) (w1 hw) (w2 hw) (w3 hw) (by decide) pd28 rfl (st := []) rfl rfl rfl (by decide) (by decide) (ltAll rfl) rfl (Nat.le_of_ble_eq_true rfl) (Nat.le_of_ble_eq_true rfl) (Nat.le_of_ble_eq_true rfl) (Nat.le_of_ble_eq_true rfl) fun v O' FN vm T hQ N => ?_
      obtain ⟨rfl, rfl, rfl⟩ := hQ
      replace N := N.cast3 (O' := []) (RO' := []) (FZ' := []) rfl rfl rfl
      show Goes p e below _ (T.setTop (mkF m 21 #[.val (.int i0), .val (.int i1), .val (.int i2), .val (.int 2), .val (.int 2), .unset, .unset, .unset, .unset, .unset, .unset, .unset, .unset] [.int (kc i0)]))
      refine N.istore (pc := 21) (l' := #[.val (.int i0), .val (.int i1), .val (.int i2), .val (.int 2), .val (.int 2), .val (.int (kc i0)), .unset, .unset, .unset, .unset, .unset, .unset, .unset]) at_21 rfl ?_
      refine N.iloadN (pc := 23) at_23 rfl ?_
      refine N.bipush (pc := 24) 8 at_24 rfl ?_
      refine N.iushr (pc := 26) at_26 ?_
      refine N.callS (pc := 27) (c_kindChar G (x := ushr i0 8)) [] [] at_27 (w0 hw) (w1 hw) (w2 hw) (w3 hw) (by decide) pd28 rfl (st := []) rfl rfl rfl (by decide) (by decide) (ltAll rfl) rfl (Nat.le_of_ble_eq_true rfl) (Nat.le_of_ble_eq_true rfl) (Nat.le_of_ble_eq_true rfl) (Nat.le_of_ble_eq_true rfl) fun v O' FN vm T hQ N => ?_
      obtain ⟨rfl, rfl, rfl⟩ := hQ
      replace N := N.cast3 (O' := []) (RO' := []) (FZ' := []) rfl rfl rfl
      show Goes p e below _ (T.setTop (mkF m 30 #[.val (.int i0), .val (.int i1), .val (.int i2), .val (.int 2), .val (.int 2), .val (.int (kc i0)), .unset, .unset, .unset, .unset, .unset, .unset, .unset] [.int (kc (ushr i0 8))]))
      refine N.istore (pc := 30) (l' := #[.val (.int i0), .val (.int i1), .val (.int i2), .val (.int 2), .val (.int 2), .val (.int (kc i0)), .val (.int (kc (ushr i0 8))), .unset, .unset, .unset, .unset, .unset, .unset]) at_30 rfl ?_
      refine N.iloadN (pc := 32) at_32 rfl ?_
      refine N.sipush (pc := 33) 255 at_33 rfl ?_
      refine N.iand (pc := 36) at_36 ?_
      refine N.i2c (pc := 37) at_37 ?_
      rw [i2c_mask]
      refine N.istore (pc := 38) (l' := #[.val (.int i0), .val (.int i1), .val (.int i2), .val (.int 2), .val (.int 2), .val (.int (kc i0)), .val (.int (kc (ushr i0 8))), .val (.int (i1 &&& 255)), .unset, .unset, .unset, .unset, .unset]) at_38 rfl ?_
      refine N.iloadN (pc := 40) at_40 rfl ?_
      refine N.bipush (pc := 41) 8 at_41 rfl ?_
      refine N.iushr (pc := 43) at_43 ?_
      refine N.sipush (pc := 44) 255 at_44 rfl ?_
      refine N.iand (pc := 47) at_47 ?_
      refine N.i2c (pc := 48) at_48 ?_
      rw [i2c_mask]
      refine N.istore (pc := 49) (l' := #[.val (.int i0), .val (.int i1), .val (.int i2), .val (.int 2), .val (.int 2), .val (.int (kc i0)), .val (.int (kc (ushr i0 8))), .val (.int (i1 &&& 255)), .val (.int ((ushr i1 8) &&& 255)), .unset, .unset, .unset, .unset]) at_49 rfl ?_
      refine N.iloadN (pc := 51) at_51 rfl ?_
      refine N.iload (pc := 52) at_52 rfl ?_
      refine N.iload (pc := 54) at_54 rfl ?_
      refine N.callS (pc := 56) (c_make2 G (x1 := kc i0) (x2 := kc (ushr i0 8)) (lat_kc _) (lat_kc _)) [] [] at_56 (w4 hw) (w5 hw) (w2 hw) (w6 hw) (by decide) pd29 rfl (st := []) rfl rfl rfl (by decide) (by decide) (ltAll rfl) rfl (Nat.le_of_ble_eq_true rfl) (Nat.le_of_ble_eq_true rfl) (Nat.le_of_ble_eq_true rfl) (Nat.le_of_ble_eq_true rfl) fun v O' FN vm T hQ N => ?_
      obtain ⟨r40, rfl, rfl, rfl⟩ := hQ
      replace N := N.cast3 (O' := []) (RO' := []) (FZ' := [(r40, tO ([kc i0, kc (ushr i0 8)]))]) rfl rfl rfl
      show Goes p e below _ (T.setTop (mkF m 59 #[.val (.int i0), .val (.int i1), .val (.int i2), .val (.int 2), .val (.int 2), .val (.int (kc i0)), .val (.int (kc (ushr i0 8))), .val (.int (i1 &&& 255)), .val (.int ((ushr i1 8) &&& 255)), .unset, .unset, .unset, .unset] [.ref r40]))
      refine N.astore (pc := 59) (l' := #[.val (.int i0), .val (.int i1), .val (.int i2), .val (.int 2), .val (.int 2), .val (.int (kc i0)), .val (.int (kc (ushr i0 8))), .val (.int (i1 &&& 255)), .val (.int ((ushr i1 8) &&& 255)), .val (.ref r40), .unset, .unset, .unset]) at_59 rfl rfl ?_
      refine N.iload (pc := 61) at_61 rfl ?_
      refine N.iload (pc := 63) at_63 rfl ?_
      refine N.iload (pc := 65) at_65 rfl ?_
      refine N.callS (pc := 67) (c_make2 G (x1 := i1 &&& 255) (x2 := (ushr i1 8) &&& 255) (lat_and _) (lat_and _)) [] [] at_67 (w4 hw) (w5 hw) (w2 hw) (w6 hw) (by decide) pd29 rfl (st := []) rfl rfl rfl (by decide) (by decide) (ltAll rfl) rfl (Nat.le_of_ble_eq_true rfl) (Nat.le_of_ble_eq_true rfl) (Nat.le_of_ble_eq_true rfl) (Nat.le_of_ble_eq_true rfl) fun v O' FN vm T hQ N => ?_
      obtain ⟨r41, rfl, rfl, rfl⟩ := hQ
      replace N := N.cast3 (O' := []) (RO' := []) (FZ' := [(r40, tO ([kc i0, kc (ushr i0 8)])), (r41, tO ([i1 &&& 255, (ushr i1 8) &&& 255]))]) rfl rfl rfl
      show Goes p e below _ (T.setTop (mkF m 70 #[.val (.int i0), .val (.int i1), .val (.int i2), .val (.int 2), .val (.int 2), .val (.int (kc i0)), .val (.int (kc (ushr i0 8))), .val (.int (i1 &&& 255)), .val (.int ((ushr i1 8) &&& 255)), .val (.ref r40), .unset, .unset, .unset] [.ref r41]))
      refine N.astore (pc := 70) (l' := #[.val (.int i0), .val (.int i1), .val (.int i2), .val (.int 2), .val (.int 2), .val (.int (kc i0)), .val (.int (kc (ushr i0 8))), .val (.int (i1 &&& 255)), .val (.int ((ushr i1 8) &&& 255)), .val (.ref r40), .val (.ref r41), .unset, .unset]) at_70 rfl rfl ?_
      refine N.new (pc := 72) at_72 (w37 hw) (w38 hw) (w39 hw) (lay_com_example_shoalwork_shoalwork_task_TaskSpec hw) (Nat.le_of_ble_eq_true rfl) (Nat.le_of_ble_eq_true rfl) fun a42 T l_a42 N => ?_
      replace N := N.cast (O' := [(a42, .inl ("com/example/shoalwork/shoalwork/task/TaskSpec", [(("com/example/shoalwork/shoalwork/task/TaskSpec", "kind", "Ljava/lang/String;"), .null), (("com/example/shoalwork/shoalwork/task/TaskSpec", "argument", "Ljava/lang/String;"), .null)]))]) rfl
      refine N.dup (pc := 75) at_75 rfl ?_
      refine N.aload (pc := 76) at_76 rfl rfl ?_
      refine N.aload (pc := 78) at_78 rfl rfl ?_
      refine N.callI (pc := 80) (c_tsInit G (a := a42) (ak := r40) (ag := r41) (ks := [kc i0, kc (ushr i0 8)]) (gs := [i1 &&& 255, (ushr i1 8) &&& 255]) (by simp) (List.forall_mem_cons.mpr ⟨kc_ne _, List.forall_mem_cons.mpr ⟨kc_ne _, fun _ h => nomatch h⟩⟩)) [0] [1, 2] at_80 rfl (w40 hw) (w41 hw) (w39 hw) (w42 hw) (by decide) pd30 rfl (st := [.ref a42]) rfl rfl rfl (by decide) (by decide) (ltAll rfl) rfl (Nat.le_of_ble_eq_true rfl) (Nat.le_of_ble_eq_true rfl) (Nat.le_of_ble_eq_true rfl) (Nat.le_of_ble_eq_true rfl) fun v O' FN vm T hQ N => ?_
      obtain ⟨rfl, rfl, rfl⟩ := hQ
      replace N := N.cast3 (O' := [(a42, .inl ("com/example/shoalwork/shoalwork/task/TaskSpec", [(("com/example/shoalwork/shoalwork/task/TaskSpec", "kind", "Ljava/lang/String;"), .ref r40), (("com/example/shoalwork/shoalwork/task/TaskSpec", "argument", "Ljava/lang/String;"), .ref r41)]))]) (RO' := []) (FZ' := [(r40, tO ([kc i0, kc (ushr i0 8)])), (r41, tO ([i1 &&& 255, (ushr i1 8) &&& 255]))]) rfl rfl rfl
      show Goes p e below _ (T.setTop (mkF m 83 #[.val (.int i0), .val (.int i1), .val (.int i2), .val (.int 2), .val (.int 2), .val (.int (kc i0)), .val (.int (kc (ushr i0 8))), .val (.int (i1 &&& 255)), .val (.int ((ushr i1 8) &&& 255)), .val (.ref r40), .val (.ref r41), .unset, .unset] [.ref a42]))
      refine N.astore (pc := 83) (l' := #[.val (.int i0), .val (.int i1), .val (.int i2), .val (.int 2), .val (.int 2), .val (.int (kc i0)), .val (.int (kc (ushr i0 8))), .val (.int (i1 &&& 255)), .val (.int ((ushr i1 8) &&& 255)), .val (.ref r40), .val (.ref r41), .val (.ref a42), .unset]) at_83 rfl rfl ?_
      refine N.aload (pc := 85) at_85 rfl rfl ?_
      refine N.callV (pc := 87) (c_tsToString G (a := a42) (ak := r40) (ag := r41) (ks := [kc i0, kc (ushr i0 8)]) (gs := [i1 &&& 255, (ushr i1 8) &&& 255]) (by simp) (by simp)) 0 [] [0, 1, 2] at_87 (w108 hw) (w109 hw) (w111 hw) (w110 hw) (w39 hw) (w112 hw) rfl (by decide) pd25 rfl (st := []) rfl rfl rfl (by decide) (by decide) (ltAll rfl) rfl (Nat.le_of_ble_eq_true rfl) (Nat.le_of_ble_eq_true rfl) (Nat.le_of_ble_eq_true rfl) (Nat.le_of_ble_eq_true rfl) fun v O' FN vm T hQ N => ?_
      obtain ⟨r43, rfl, rfl, rfl⟩ := hQ
      replace N := N.cast3 (O' := [(a42, .inl ("com/example/shoalwork/shoalwork/task/TaskSpec", [(("com/example/shoalwork/shoalwork/task/TaskSpec", "kind", "Ljava/lang/String;"), .ref r40), (("com/example/shoalwork/shoalwork/task/TaskSpec", "argument", "Ljava/lang/String;"), .ref r41)]))]) (RO' := []) (FZ' := [(r40, tO ([kc i0, kc (ushr i0 8)])), (r41, tO ([i1 &&& 255, (ushr i1 8) &&& 255])), (r43, tO ([kc i0, kc (ushr i0 8), 58, i1 &&& 255, (ushr i1 8) &&& 255]))]) rfl rfl rfl
      show Goes p e below _ (T.setTop (mkF m 90 #[.val (.int i0), .val (.int i1), .val (.int i2), .val (.int 2), .val (.int 2), .val (.int (kc i0)), .val (.int (kc (ushr i0 8))), .val (.int (i1 &&& 255)), .val (.int ((ushr i1 8) &&& 255)), .val (.ref r40), .val (.ref r41), .val (.ref a42), .unset] [.ref r43]))
      obtain ⟨hc_r43, bx, N⟩ := N.openF 2 rfl
      replace N := N.cast3 (O' := [(a42, .inl ("com/example/shoalwork/shoalwork/task/TaskSpec", [(("com/example/shoalwork/shoalwork/task/TaskSpec", "kind", "Ljava/lang/String;"), .ref r40), (("com/example/shoalwork/shoalwork/task/TaskSpec", "argument", "Ljava/lang/String;"), .ref r41)]))]) (RO' := []) (FZ' := [(r40, tO ([kc i0, kc (ushr i0 8)])), (r41, tO ([i1 &&& 255, (ushr i1 8) &&& 255])), (r43, tO ([kc i0, kc (ushr i0 8), 58, i1 &&& 255, (ushr i1 8) &&& 255])), (r43, sO bx), (bx, aO .byte ((([kc i0, kc (ushr i0 8), 58, i1 &&& 255, (ushr i1 8) &&& 255]).map by8).map Value.int))]) rfl rfl rfl
      refine N.astore (pc := 90) (l' := #[.val (.int i0), .val (.int i1), .val (.int i2), .val (.int 2), .val (.int 2), .val (.int (kc i0)), .val (.int (kc (ushr i0 8))), .val (.int (i1 &&& 255)), .val (.int ((ushr i1 8) &&& 255)), .val (.ref r40), .val (.ref r41), .val (.ref a42), .val (.ref r43)]) at_90 rfl rfl ?_
      refine N.aload (pc := 92) at_92 rfl rfl ?_
      refine N.ifnonnullT (pc := 94) (pc' := 99) at_94 rfl ?_
      refine N.aload (pc := 99) at_99 rfl rfl ?_
      refine N.callV (pc := 101) (c_length G (a := r43) (cs := [kc i0, kc (ushr i0 8), 58, i1 &&& 255, (ushr i1 8) &&& 255]) (z := 5) rfl) 4 [] [3] at_101 (w212 hw) (w78 hw) (w80 hw) (w79 hw) (w10 hw) (w81 hw) rfl (by decide) pd9 rfl (st := []) rfl rfl rfl (by decide) (by decide) (ltAll rfl) rfl (Nat.le_of_ble_eq_true rfl) (Nat.le_of_ble_eq_true rfl) (Nat.le_of_ble_eq_true rfl) (Nat.le_of_ble_eq_true rfl) fun v O' FN vm T hQ N => ?_
      obtain ⟨rfl, rfl, rfl⟩ := hQ
      replace N := N.cast3 (O' := [(a42, .inl ("com/example/shoalwork/shoalwork/task/TaskSpec", [(("com/example/shoalwork/shoalwork/task/TaskSpec", "kind", "Ljava/lang/String;"), .ref r40), (("com/example/shoalwork/shoalwork/task/TaskSpec", "argument", "Ljava/lang/String;"), .ref r41)]))]) (RO' := []) (FZ' := [(r40, tO ([kc i0, kc (ushr i0 8)])), (r41, tO ([i1 &&& 255, (ushr i1 8) &&& 255])), (r43, tO ([kc i0, kc (ushr i0 8), 58, i1 &&& 255, (ushr i1 8) &&& 255])), (r43, sO bx), (bx, aO .byte ((([kc i0, kc (ushr i0 8), 58, i1 &&& 255, (ushr i1 8) &&& 255]).map by8).map Value.int))]) rfl rfl rfl
      show Goes p e below _ (T.setTop (mkF m 104 #[.val (.int i0), .val (.int i1), .val (.int i2), .val (.int 2), .val (.int 2), .val (.int (kc i0)), .val (.int (kc (ushr i0 8))), .val (.int (i1 &&& 255)), .val (.int ((ushr i1 8) &&& 255)), .val (.ref r40), .val (.ref r41), .val (.ref a42), .val (.ref r43)] [.int 5]))
      refine N.iloadN (pc := 104) at_104 rfl ?_
      refine N.iconst (pc := 105) 1 at_105 rfl ?_
      refine N.iadd (pc := 106) at_106 ?_
      refine N.iload (pc := 107) at_107 rfl ?_
      refine N.iadd (pc := 109) at_109 ?_
      refine N.icmpeqT (pc := 110) (pc' := 115) at_110 rfl rfl ?_
      refine N.aload (pc := 115) at_115 rfl rfl ?_
      refine N.iconst (pc := 117) 0 at_117 rfl ?_
      show Goes p e below _ (T.setTop (mkF m 118 #[.val (.int i0), .val (.int i1), .val (.int i2), .val (.int 2), .val (.int 2), .val (.int (kc i0)), .val (.int (kc (ushr i0 8))), .val (.int (i1 &&& 255)), .val (.int ((ushr i1 8) &&& 255)), .val (.ref r40), .val (.ref r41), .val (.ref a42), .val (.ref r43)] [.int 0, .ref r43]))
      refine N.callV (pc := 118) (c_charAt G (cs := [kc i0, kc (ushr i0 8), 58, i1 &&& 255, (ushr i1 8) &&& 255]) (i := 0) (x := kc i0) (by simp) rfl (a := r43)) 4 [] [3] at_118 (w213 hw) (w214 hw) (w216 hw) (w215 hw) (w10 hw) (w217 hw) rfl (by decide) pd28 rfl (st := []) rfl rfl rfl (by decide) (by decide) (ltAll rfl) rfl (Nat.le_of_ble_eq_true rfl) (Nat.le_of_ble_eq_true rfl) (Nat.le_of_ble_eq_true rfl) (Nat.le_of_ble_eq_true rfl) fun v O' FN vm T hQ N => ?_
      obtain ⟨rfl, rfl, rfl⟩ := hQ
      replace N := N.cast3 (O' := [(a42, .inl ("com/example/shoalwork/shoalwork/task/TaskSpec", [(("com/example/shoalwork/shoalwork/task/TaskSpec", "kind", "Ljava/lang/String;"), .ref r40), (("com/example/shoalwork/shoalwork/task/TaskSpec", "argument", "Ljava/lang/String;"), .ref r41)]))]) (RO' := []) (FZ' := [(r40, tO ([kc i0, kc (ushr i0 8)])), (r41, tO ([i1 &&& 255, (ushr i1 8) &&& 255])), (r43, tO ([kc i0, kc (ushr i0 8), 58, i1 &&& 255, (ushr i1 8) &&& 255])), (r43, sO bx), (bx, aO .byte ((([kc i0, kc (ushr i0 8), 58, i1 &&& 255, (ushr i1 8) &&& 255]).map by8).map Value.int))]) rfl rfl rfl
      show Goes p e below _ (T.setTop (mkF m 121 #[.val (.int i0), .val (.int i1), .val (.int i2), .val (.int 2), .val (.int 2), .val (.int (kc i0)), .val (.int (kc (ushr i0 8))), .val (.int (i1 &&& 255)), .val (.int ((ushr i1 8) &&& 255)), .val (.ref r40), .val (.ref r41), .val (.ref a42), .val (.ref r43)] [.int (kc i0)]))
      refine N.iload (pc := 121) at_121 rfl ?_
      refine N.icmpeqT (pc := 123) (pc' := 128) at_123 rfl rfl ?_
      refine N.iloadN (pc := 128) at_128 rfl ?_
      refine N.iconst (pc := 129) 2 at_129 rfl ?_
      refine N.icmpneF (pc := 130) at_130 rfl ?_
      refine N.aload (pc := 133) at_133 rfl rfl ?_
      refine N.iconst (pc := 135) 1 at_135 rfl ?_
      show Goes p e below _ (T.setTop (mkF m 136 #[.val (.int i0), .val (.int i1), .val (.int i2), .val (.int 2), .val (.int 2), .val (.int (kc i0)), .val (.int (kc (ushr i0 8))), .val (.int (i1 &&& 255)), .val (.int ((ushr i1 8) &&& 255)), .val (.ref r40), .val (.ref r41), .val (.ref a42), .val (.ref r43)] [.int 1, .ref r43]))
      refine N.callV (pc := 136) (c_charAt G (cs := [kc i0, kc (ushr i0 8), 58, i1 &&& 255, (ushr i1 8) &&& 255]) (i := 1) (x := kc (ushr i0 8)) (by simp) rfl (a := r43)) 4 [] [3] at_136 (w213 hw) (w214 hw) (w216 hw) (w215 hw) (w10 hw) (w217 hw) rfl (by decide) pd28 rfl (st := []) rfl rfl rfl (by decide) (by decide) (ltAll rfl) rfl (Nat.le_of_ble_eq_true rfl) (Nat.le_of_ble_eq_true rfl) (Nat.le_of_ble_eq_true rfl) (Nat.le_of_ble_eq_true rfl) fun v O' FN vm T hQ N => ?_
      obtain ⟨rfl, rfl, rfl⟩ := hQ
      replace N := N.cast3 (O' := [(a42, .inl ("com/example/shoalwork/shoalwork/task/TaskSpec", [(("com/example/shoalwork/shoalwork/task/TaskSpec", "kind", "Ljava/lang/String;"), .ref r40), (("com/example/shoalwork/shoalwork/task/TaskSpec", "argument", "Ljava/lang/String;"), .ref r41)]))]) (RO' := []) (FZ' := [(r40, tO ([kc i0, kc (ushr i0 8)])), (r41, tO ([i1 &&& 255, (ushr i1 8) &&& 255])), (r43, tO ([kc i0, kc (ushr i0 8), 58, i1 &&& 255, (ushr i1 8) &&& 255])), (r43, sO bx), (bx, aO .byte ((([kc i0, kc (ushr i0 8), 58, i1 &&& 255, (ushr i1 8) &&& 255]).map by8).map Value.int))]) rfl rfl rfl
      show Goes p e below _ (T.setTop (mkF m 139 #[.val (.int i0), .val (.int i1), .val (.int i2), .val (.int 2), .val (.int 2), .val (.int (kc i0)), .val (.int (kc (ushr i0 8))), .val (.int (i1 &&& 255)), .val (.int ((ushr i1 8) &&& 255)), .val (.ref r40), .val (.ref r41), .val (.ref a42), .val (.ref r43)] [.int (kc (ushr i0 8))]))
      refine N.iload (pc := 139) at_139 rfl ?_
      refine N.icmpeqT (pc := 141) (pc' := 146) at_141 rfl rfl ?_
      refine N.aload (pc := 146) at_146 rfl rfl ?_
      refine N.iloadN (pc := 148) at_148 rfl ?_
      show Goes p e below _ (T.setTop (mkF m 149 #[.val (.int i0), .val (.int i1), .val (.int i2), .val (.int 2), .val (.int 2), .val (.int (kc i0)), .val (.int (kc (ushr i0 8))), .val (.int (i1 &&& 255)), .val (.int ((ushr i1 8) &&& 255)), .val (.ref r40), .val (.ref r41), .val (.ref a42), .val (.ref r43)] [.int 2, .ref r43]))
      refine N.callV (pc := 149) (c_charAt G (cs := [kc i0, kc (ushr i0 8), 58, i1 &&& 255, (ushr i1 8) &&& 255]) (i := 2) (x := 58) (by simp) rfl (a := r43)) 4 [] [3] at_149 (w213 hw) (w214 hw) (w216 hw) (w215 hw) (w10 hw) (w217 hw) rfl (by decide) pd28 rfl (st := []) rfl rfl rfl (by decide) (by decide) (ltAll rfl) rfl (Nat.le_of_ble_eq_true rfl) (Nat.le_of_ble_eq_true rfl) (Nat.le_of_ble_eq_true rfl) (Nat.le_of_ble_eq_true rfl) fun v O' FN vm T hQ N => ?_
      obtain ⟨rfl, rfl, rfl⟩ := hQ
      replace N := N.cast3 (O' := [(a42, .inl ("com/example/shoalwork/shoalwork/task/TaskSpec", [(("com/example/shoalwork/shoalwork/task/TaskSpec", "kind", "Ljava/lang/String;"), .ref r40), (("com/example/shoalwork/shoalwork/task/TaskSpec", "argument", "Ljava/lang/String;"), .ref r41)]))]) (RO' := []) (FZ' := [(r40, tO ([kc i0, kc (ushr i0 8)])), (r41, tO ([i1 &&& 255, (ushr i1 8) &&& 255])), (r43, tO ([kc i0, kc (ushr i0 8), 58, i1 &&& 255, (ushr i1 8) &&& 255])), (r43, sO bx), (bx, aO .byte ((([kc i0, kc (ushr i0 8), 58, i1 &&& 255, (ushr i1 8) &&& 255]).map by8).map Value.int))]) rfl rfl rfl
      show Goes p e below _ (T.setTop (mkF m 152 #[.val (.int i0), .val (.int i1), .val (.int i2), .val (.int 2), .val (.int 2), .val (.int (kc i0)), .val (.int (kc (ushr i0 8))), .val (.int (i1 &&& 255)), .val (.int ((ushr i1 8) &&& 255)), .val (.ref r40), .val (.ref r41), .val (.ref a42), .val (.ref r43)] [.int 58]))
      refine N.bipush (pc := 152) 58 at_152 rfl ?_
      refine N.icmpeqT (pc := 154) (pc' := 159) at_154 rfl rfl ?_
      refine N.iload (pc := 159) at_159 rfl ?_
      refine N.iconst (pc := 161) 1 at_161 rfl ?_
      refine N.icmpltF (pc := 162) at_162 (by decide) ?_
      refine N.aload (pc := 165) at_165 rfl rfl ?_
      refine N.iloadN (pc := 167) at_167 rfl ?_
      refine N.iconst (pc := 168) 1 at_168 rfl ?_
      refine N.iadd (pc := 169) at_169 ?_
      show Goes p e below _ (T.setTop (mkF m 170 #[.val (.int i0), .val (.int i1), .val (.int i2), .val (.int 2), .val (.int 2), .val (.int (kc i0)), .val (.int (kc (ushr i0 8))), .val (.int (i1 &&& 255)), .val (.int ((ushr i1 8) &&& 255)), .val (.ref r40), .val (.ref r41), .val (.ref a42), .val (.ref r43)] [.int 3, .ref r43]))
      refine N.callV (pc := 170) (c_charAt G (cs := [kc i0, kc (ushr i0 8), 58, i1 &&& 255, (ushr i1 8) &&& 255]) (i := 3) (x := i1 &&& 255) (by simp) rfl (a := r43)) 4 [] [3] at_170 (w213 hw) (w214 hw) (w216 hw) (w215 hw) (w10 hw) (w217 hw) rfl (by decide) pd28 rfl (st := []) rfl rfl rfl (by decide) (by decide) (ltAll rfl) rfl (Nat.le_of_ble_eq_true rfl) (Nat.le_of_ble_eq_true rfl) (Nat.le_of_ble_eq_true rfl) (Nat.le_of_ble_eq_true rfl) fun v O' FN vm T hQ N => ?_
      obtain ⟨rfl, rfl, rfl⟩ := hQ
      replace N := N.cast3 (O' := [(a42, .inl ("com/example/shoalwork/shoalwork/task/TaskSpec", [(("com/example/shoalwork/shoalwork/task/TaskSpec", "kind", "Ljava/lang/String;"), .ref r40), (("com/example/shoalwork/shoalwork/task/TaskSpec", "argument", "Ljava/lang/String;"), .ref r41)]))]) (RO' := []) (FZ' := [(r40, tO ([kc i0, kc (ushr i0 8)])), (r41, tO ([i1 &&& 255, (ushr i1 8) &&& 255])), (r43, tO ([kc i0, kc (ushr i0 8), 58, i1 &&& 255, (ushr i1 8) &&& 255])), (r43, sO bx), (bx, aO .byte ((([kc i0, kc (ushr i0 8), 58, i1 &&& 255, (ushr i1 8) &&& 255]).map by8).map Value.int))]) rfl rfl rfl
      show Goes p e below _ (T.setTop (mkF m 173 #[.val (.int i0), .val (.int i1), .val (.int i2), .val (.int 2), .val (.int 2), .val (.int (kc i0)), .val (.int (kc (ushr i0 8))), .val (.int (i1 &&& 255)), .val (.int ((ushr i1 8) &&& 255)), .val (.ref r40), .val (.ref r41), .val (.ref a42), .val (.ref r43)] [.int (i1 &&& 255)]))
      refine N.iload (pc := 173) at_173 rfl ?_
      refine N.icmpeqT (pc := 175) (pc' := 180) at_175 rfl rfl ?_
      refine N.iload (pc := 180) at_180 rfl ?_
      refine N.iconst (pc := 182) 2 at_182 rfl ?_
      refine N.icmpneF (pc := 183) at_183 rfl ?_
      refine N.aload (pc := 186) at_186 rfl rfl ?_
      refine N.iloadN (pc := 188) at_188 rfl ?_
      refine N.iconst (pc := 189) 2 at_189 rfl ?_
      refine N.iadd (pc := 190) at_190 ?_
      show Goes p e below _ (T.setTop (mkF m 191 #[.val (.int i0), .val (.int i1), .val (.int i2), .val (.int 2), .val (.int 2), .val (.int (kc i0)), .val (.int (kc (ushr i0 8))), .val (.int (i1 &&& 255)), .val (.int ((ushr i1 8) &&& 255)), .val (.ref r40), .val (.ref r41), .val (.ref a42), .val (.ref r43)] [.int 4, .ref r43]))
      refine N.callV (pc := 191) (c_charAt G (cs := [kc i0, kc (ushr i0 8), 58, i1 &&& 255, (ushr i1 8) &&& 255]) (i := 4) (x := (ushr i1 8) &&& 255) (by simp) rfl (a := r43)) 4 [] [3] at_191 (w213 hw) (w214 hw) (w216 hw) (w215 hw) (w10 hw) (w217 hw) rfl (by decide) pd28 rfl (st := []) rfl rfl rfl (by decide) (by decide) (ltAll rfl) rfl (Nat.le_of_ble_eq_true rfl) (Nat.le_of_ble_eq_true rfl) (Nat.le_of_ble_eq_true rfl) (Nat.le_of_ble_eq_true rfl) fun v O' FN vm T hQ N => ?_
      obtain ⟨rfl, rfl, rfl⟩ := hQ
      replace N := N.cast3 (O' := [(a42, .inl ("com/example/shoalwork/shoalwork/task/TaskSpec", [(("com/example/shoalwork/shoalwork/task/TaskSpec", "kind", "Ljava/lang/String;"), .ref r40), (("com/example/shoalwork/shoalwork/task/TaskSpec", "argument", "Ljava/lang/String;"), .ref r41)]))]) (RO' := []) (FZ' := [(r40, tO ([kc i0, kc (ushr i0 8)])), (r41, tO ([i1 &&& 255, (ushr i1 8) &&& 255])), (r43, tO ([kc i0, kc (ushr i0 8), 58, i1 &&& 255, (ushr i1 8) &&& 255])), (r43, sO bx), (bx, aO .byte ((([kc i0, kc (ushr i0 8), 58, i1 &&& 255, (ushr i1 8) &&& 255]).map by8).map Value.int))]) rfl rfl rfl
      show Goes p e below _ (T.setTop (mkF m 194 #[.val (.int i0), .val (.int i1), .val (.int i2), .val (.int 2), .val (.int 2), .val (.int (kc i0)), .val (.int (kc (ushr i0 8))), .val (.int (i1 &&& 255)), .val (.int ((ushr i1 8) &&& 255)), .val (.ref r40), .val (.ref r41), .val (.ref a42), .val (.ref r43)] [.int ((ushr i1 8) &&& 255)]))
      refine N.iload (pc := 194) at_194 rfl ?_
      refine N.icmpeqT (pc := 196) (pc' := 201) at_196 rfl rfl ?_
      refine N.iconst (pc := 201) 1 at_201 rfl ?_
      exact N.ireturn (pc := 202) [] (fun _ h => h) (List.forall_mem_nil _) (Nat.le_of_ble_eq_true rfl) (Nat.le_of_ble_eq_true rfl) (t := .boolean) at_202 rfl (by simp) rfl rfl

set_option maxRecDepth 65536 in
set_option maxHeartbeats 4000000 in
theorem comes_1 {Post : Tables → Env → Array Value → State → Outcome → State → Prop} (hpost : ∀ tb e args s v u, (limb_1_1.after args s (.returned v) u = true ∧ limb_1_2.after args s (.returned v) u = true ∧ True) → FramedW s (.returned v) u (Jvm.fieldLocs frame_1_writes args s ++ Jvm.arrayLocs frame_1_arrays args s ++ Jvm.staticLocs frame_1_statics s) 40 4288 → Post tb e args s (.returned v) u) :
    ArmFor flags0 classFile x code maxLocals ret World_1 tables_1 room_1 Calls_1 rest_1 Pre_1 Post := by
  intro l hfl _ _ p e ha hc hk s m args below hf hA hF happ hP
  obtain ⟨hcalls, hrest, hpre⟩ := hP
  obtain ⟨-, -, -, hnamed, -, -, -, hat⟩ := (Spec.applies_iff hf).mp happ
  obtain ⟨hg, hn⟩ := and_e (Cond.before_iff.mp (show (Jvm.Cond.and given_1 narrow_1).before args s = true from hpre))
  obtain ⟨h0, q0⟩ := and_e hg
  obtain ⟨g0, q1⟩ := and_e q0
  obtain ⟨g1, q2⟩ := and_e q1
  have g2 := q2
  obtain ⟨u0, u1, u2, rfl⟩ : ∃ u0 u1 u2 : Value, args = #[u0, u1, u2] := by
    have hs : args.size = 3 := by simpa [Cond.value, given_1] using h0
    obtain ⟨L⟩ := args
    match L, hs with
    | [u0, u1, u2], _ => exact ⟨u0, u1, u2, rfl⟩
  have hw : HW s #[u0, u1, u2] := fun d (hd : d ∈ tables_1) => atoms_spec (ws := Jvm.Cond.code x code maxLocals ret :: tables_1) hat d (List.mem_cons_of_mem _ hd)
  obtain ⟨i0, e0⟩ := is_v g0
  obtain rfl : u0 = (.int i0) := Option.some.inj e0
  obtain ⟨i1, e1⟩ := is_v g1
  obtain rfl : u1 = (.int i1) := Option.some.inj e1
  obtain ⟨i2, e2⟩ := is_v g2
  obtain rfl : u2 = (.int i2) := Option.some.inj e2
  obtain ⟨hsets, hown0⟩ := atoms_of _ (rest_1_c_eq ▸ (show rest_1_c.before _ s = true from hrest))
  have G_compact : ∃ cv : Int32, ¬ cv = 0 ∧ Sta s s.heap "java/lang/String" "COMPACT_STRINGS" "Z" (.int cv) := by
    obtain ⟨cv, ev⟩ := is_v (Cond.before_iff.mp (hsets _ (List.mem_of_getElem? (i := 1) rfl)))
    have nv := not_v (Cond.before_iff.mp (hsets _ (List.mem_of_getElem? (i := 2) rfl)))
    exact ⟨cv, gotF (Cond.eq_ints ev (Term.int_eval 0)) nv, Sta.start ev (Or.inl (hsets _ (List.mem_of_getElem? (i := 0) rfl)))⟩
  have G_fmt : ∃ fv : Value, fv.isRef = true ∧ Sta s s.heap "jdk/internal/util/Preconditions" "SIOOBE_FORMATTER" "Ljava/util/function/BiFunction;" fv := by
    obtain ⟨fv, ev, hr⟩ := isR_v (Cond.before_iff.mp (hsets _ (List.mem_of_getElem? (i := 8) rfl)))
    exact ⟨fv, hr, Sta.start ev (Or.inl (hsets _ (List.mem_of_getElem? (i := 7) rfl)))⟩
  have hEW : EW s _ ELs := EW.cons (w49 hw) (by decide +kernel) (EW.cons (w56 hw) (by decide +kernel) (EW.cons (w169 hw) (by decide +kernel) (EW.cons (w229 hw) (by decide +kernel) (EW.nil))))
  have G : Glob s _ := ⟨hw, hEW, G_compact, G_fmt⟩
  have hcw : Jvm.Lit.compactW.before #[(.int i0), (.int i1), (.int i2)] s = true := hsets _ (List.mem_of_getElem? (i := 2) rfl)
  have hH : HI s ELs s.vm s.heap s.heap.size [] [] [] := ⟨⟨Nat.le_refl _, fun _ _ q => q⟩, CHv.start hEW (fun p hp => hcalls.1 p hp) hcw (w26 hw) (w9 hw), fun _ h => (nomatch h), List.nodup_nil, fun _ h => (nomatch h), fun _ h => (nomatch h)⟩
  obtain ⟨n, o, z1, z2, z3, v, L, O', LN, rfl, hQ, hFr, -, -, -, -, hnar, hEnd⟩ := c_law (l := l) G i0 i1 i2 p e ha hc hk s m _ below hf ((Spec.applies_iff_loose hf).mp happ).1 ⟨rfl, State.Warmed39.refl s, hH⟩ trivial
  subst hQ
  exact ⟨n, _, z1, z2, z3, hpost _ _ _ _ _ _ ⟨Cond.after_iff.mpr rfl, Cond.after_iff.mpr (eq_i res_at (Term.int_eval (1)) rfl), trivial⟩ ⟨hEnd.1, hEnd.2.1, hEnd.2.2.1, (hEnd.2.2.2.sift fun y hy => Or.inr (hFr y hy)).mono (by decide) (by decide)⟩⟩
theorem main_1_1 : Claimed_1_1 := comes_1 fun _ _ _ _ _ _ h hF => ⟨h.1, hF⟩
theorem main_1_2 : Claimed_1_2 := comes_1 fun _ _ _ _ _ _ h hF => ⟨h.2.1, hF⟩
end Jvm.Pilot.@@N@@
namespace Jvm.Pilot.@@N@@
open Jvm Jvm.ClassFile Sem Op Lib Jvm.Free Jvm.Stand Jvm.Pilot.@@N@@.Jvm.D
/-! MADE BY PROGRAM (witnessworld.py) out of the Statement's table words and the real class files: 28 classes; the members and pool entries that the words name. The judged class is class 1, her method 3. -/
namespace start1
open Jvm.ClassFile
def u (s : String) : CpInfo := .utf8 (stringToUtf16 s)
/-- a pool by its gaps: so many unusable entries, then the entry; so many at the end -/
def gap : Nat → List CpInfo → List CpInfo
  | 0, r => r
  | n + 1, r => .unusable :: gap n r
def poolList (es : List (Nat × CpInfo)) (last : Nat) : List CpInfo := es.foldr (fun e r => gap e.1 (e.2 :: r)) (gap last [])
def pool (es : List (Nat × CpInfo)) (last : Nat) : Array CpInfo := ⟨poolList es last⟩
def fileOf (pool : Array CpInfo) (this : Nat) (attrs : Array Attribute := #[]) (ms : Array MethodInfo := #[]) (fl : Nat := 33) (sup : Nat := 0) (ifs : Array Nat := #[]) (fds : Array FieldInfo := #[]) : ClassFile where
  minorVersion := 0
  majorVersion := 65
  constantPool := pool
  accessFlags := fl
  thisClass := this
  superClass := sup
  interfaces := ifs
  fields := fds
  methods := ms
  attributes := attrs
def plain (name : String) (sup : Option ClassId) : Class where
  name := name
  kind := .ordinary
  loader := none
  accessFlags := 33
  super := sup
  interfaces := #[]
  cf := none
  fields := #[]
  methods := #[]
  instanceTypes := #[]
  staticTypes := #[]
  resolved := #[]
  callSites := []
  init := .initialized
  statics := none
  mirror := none

def pool0 : Array CpInfo := pool [(5, u "<init>"), (0, u "()V"), (1, .class_ 10), (1, u "java/lang/Object")] 113

def k0c0 : Code := { maxStack := 0, maxLocals := 1, code := object_method_1_code, exceptionTable := #[], attributes := #[] }
def k0m0 : Method := { name := "<init>", desc := "()V", sig := { parameters := [], returnType := none }, accessFlags := 1, code := some k0c0 }
/-- java/lang/Object -/
def k0 : Class := { plain "java/lang/Object" none with
  accessFlags := 33
  interfaces := #[]
  cf := some (fileOf pool0 8 #[] #[{ accessFlags := 1, nameIndex := 5, descriptorIndex := 6, attributes := #[] }] 33 0 #[] #[])
  fields := #[]
  methods := #[k0m0]
  instanceTypes := #[]
  staticTypes := #[]
  resolved := Array.replicate 124 none
  statics := none }

def pool1 : Array CpInfo := pool [(2, .class_ 4), (1, u "java/lang/Object"), (0, u "<init>"), (0, u "()V"), (0, .class_ 8), (0, u "java/lang/String"), (0, .methodref 7 10), (0, .nameAndType 5 11), (0, u "([C)V"), (0, .methodref 13 14), (0, .class_ 15), (0, .nameAndType 16 17), (0, u "com/example/shoalwork/shoalwork/task/TaskSpecToStringPinLaw"), (0, u "kindChar"), (0, u "(I)C"), (0, .methodref 13 19), (0, .nameAndType 20 21), (0, u "make"), (0, u "(ICC)Ljava/lang/String;"), (0, .class_ 23), (0, u "com/example/shoalwork/shoalwork/task/TaskSpec"), (0, .methodref 22 25), (0, .nameAndType 5 26), (0, u "(Ljava/lang/String;Ljava/lang/String;)V"), (0, .methodref 22 28), (0, .nameAndType 29 30), (0, u "toString"), (0, u "()Ljava/lang/String;"), (0, .methodref 7 32), (0, .nameAndType 33 34), (0, u "length"), (0, u "()I"), (0, .methodref 7 36), (0, .nameAndType 37 17), (0, u "charAt"), (3, u "law"), (0, u "(III)Z")] 2

def k1m0 : Method := { name := "<init>", desc := "()V", sig := { parameters := [], returnType := none }, accessFlags := 1, code := none }
def k1c1 : Code := { maxStack := 2, maxLocals := 2, code := method_2_code, exceptionTable := #[], attributes := #[] }
def k1m1 : Method := { name := "kindChar", desc := "(I)C", sig := { parameters := [.int], returnType := some .char }, accessFlags := 10, code := some k1c1 }
def k1c2 : Code := { maxStack := 3, maxLocals := 4, code := method_3_code, exceptionTable := #[], attributes := #[] }
def k1m2 : Method := { name := "make", desc := "(ICC)Ljava/lang/String;", sig := { parameters := [.int, .char, .char], returnType := some (.object "java/lang/String") }, accessFlags := 10, code := some k1c2 }
def k1c3 : Code := { maxStack := 4, maxLocals := 13, code := code, exceptionTable := #[], attributes := #[] }
def k1m3 : Method := { name := "law", desc := "(III)Z", sig := { parameters := [.int, .int, .int], returnType := some .boolean }, accessFlags := 9, code := some k1c3 }
/-- com/example/shoalwork/shoalwork/task/TaskSpecToStringPinLaw -/
def k1 : Class := { plain "com/example/shoalwork/shoalwork/task/TaskSpecToStringPinLaw" (some 0) with
  accessFlags := 49
  interfaces := #[]
  cf := some (fileOf pool1 13 #[] #[{ accessFlags := 1, nameIndex := 5, descriptorIndex := 6, attributes := #[] }, { accessFlags := 10, nameIndex := 16, descriptorIndex := 17, attributes := #[] }, { accessFlags := 10, nameIndex := 20, descriptorIndex := 21, attributes := #[] }, { accessFlags := 9, nameIndex := 41, descriptorIndex := 42, attributes := #[] }] 49 2 #[] #[])
  fields := #[]
  methods := #[k1m0, k1m1, k1m2, k1m3]
  instanceTypes := #[]
  staticTypes := #[]
  resolved := Array.replicate 45 none
  statics := none }

def pool2 : Array CpInfo := pool [(1, .class_ 2), (0, u "java/io/Serializable"), (0, .class_ 4), (0, u "java/lang/Object")] 2

/-- java/io/Serializable -/
def k2 : Class := { plain "java/io/Serializable" (some 0) with
  accessFlags := 1537
  interfaces := #[]
  cf := some (fileOf pool2 1 #[] #[] 1537 3 #[] #[])
  fields := #[]
  methods := #[]
  instanceTypes := #[]
  staticTypes := #[]
  resolved := Array.replicate 7 none
  statics := none }

def pool3 : Array CpInfo := pool [(1, .class_ 2), (0, u "java/lang/Comparable"), (0, .class_ 4), (0, u "java/lang/Object")] 7

/-- java/lang/Comparable -/
def k3 : Class := { plain "java/lang/Comparable" (some 0) with
  accessFlags := 1537
  interfaces := #[]
  cf := some (fileOf pool3 1 #[] #[] 1537 3 #[] #[])
  fields := #[]
  methods := #[]
  instanceTypes := #[]
  staticTypes := #[]
  resolved := Array.replicate 12 none
  statics := none }

def pool4 : Array CpInfo := pool [(2, .class_ 4), (1, u "java/lang/CharSequence"), (42, .class_ 48), (0, u "java/lang/CharSequence$1CodePointIterator"), (10, .class_ 60), (0, u "java/lang/CharSequence$1CharIterator"), (5, .class_ 67), (0, u "java/lang/Object")] 63

/-- java/lang/CharSequence -/
def k4 : Class := { plain "java/lang/CharSequence" (some 0) with
  accessFlags := 1537
  interfaces := #[]
  cf := some (fileOf pool4 2 #[.nestMembers #[47, 59]] #[] 1537 66 #[] #[])
  fields := #[]
  methods := #[]
  instanceTypes := #[]
  staticTypes := #[]
  resolved := Array.replicate 131 none
  statics := none }

def pool5 : Array CpInfo := pool [(1, .class_ 2), (0, u "java/lang/constant/Constable"), (0, .class_ 4), (0, u "java/lang/Object")] 6

/-- java/lang/constant/Constable -/
def k5 : Class := { plain "java/lang/constant/Constable" (some 0) with
  accessFlags := 1537
  interfaces := #[]
  cf := some (fileOf pool5 1 #[] #[] 1537 3 #[] #[])
  fields := #[]
  methods := #[]
  instanceTypes := #[]
  staticTypes := #[]
  resolved := Array.replicate 11 none
  statics := none }

def pool6 : Array CpInfo := pool [(1, .class_ 2), (0, u "java/lang/constant/ConstantDesc"), (0, .class_ 4), (0, u "java/lang/Object")] 32

/-- java/lang/constant/ConstantDesc -/
def k6 : Class := { plain "java/lang/constant/ConstantDesc" (some 0) with
  accessFlags := 1537
  interfaces := #[]
  cf := some (fileOf pool6 1 #[] #[] 1537 3 #[] #[])
  fields := #[]
  methods := #[]
  instanceTypes := #[]
  staticTypes := #[]
  resolved := Array.replicate 37 none
  statics := none }

def pool7 : Array CpInfo := pool [(1, .methodref 2 3), (0, .class_ 4), (0, .nameAndType 5 6), (0, u "java/lang/Object"), (0, u "<init>"), (0, u "()V"), (0, .string 8), (0, u ""), (0, .fieldref 10 11), (0, .class_ 12), (0, .nameAndType 13 14), (0, u "java/lang/String"), (0, u "value"), (0, u "[B"), (0, .fieldref 10 16), (0, .nameAndType 17 18), (0, u "coder"), (0, u "B"), (2, u "hash"), (0, u "I"), (2, u "hashIsZero"), (0, u "Z"), (0, .methodref 10 28), (0, .nameAndType 5 29), (0, u "([CIILjava/lang/Void;)V"), (8, .fieldref 10 39), (0, .nameAndType 40 26), (0, u "COMPACT_STRINGS"), (1, .class_ 44), (1, u "java/lang/StringUTF16"), (0, u "compress"), (1, .methodref 42 48), (0, .nameAndType 49 50), (0, u "coderFromArrayLen"), (0, u "([BI)B"), (3, .methodref 55 56), (0, .class_ 57), (0, .nameAndType 58 59), (0, u "java/util/Arrays"), (0, u "copyOfRange"), (0, u "([BII)[B"), (47, .class_ 109), (1, u "java/lang/StringLatin1"), (32, u "()Z"), (34, .methodref 42 178), (0, .nameAndType 45 179), (0, u "([CII)[B"), (13, .class_ 195), (1, u "java/lang/System"), (16, .methodref 193 213), (0, .nameAndType 214 215), (0, u "arraycopy"), (0, u "(Ljava/lang/Object;ILjava/lang/Object;II)V"), (118, u "()I"), (0, .methodref 10 336), (0, .nameAndType 17 337), (0, u "()B"), (2, u "()[B"), (22, u "([BI)C"), (27, u "(II)V"), (35, u "(I)C"), (61, .methodref 10 490), (0, .nameAndType 5 491), (0, u "(Ljava/lang/AbstractStringBuilder;Ljava/lang/Void;)V"), (0, .methodref 10 493), (0, .nameAndType 494 142), (0, u "isLatin1"), (0, .methodref 107 496), (0, .nameAndType 497 363), (0, u "charAt"), (3, u "checkIndex"), (3, .methodref 10 506), (0, .nameAndType 507 334), (0, u "length"), (24, u "getBytes"), (16, .methodref 550 506), (0, .class_ 551), (0, u "java/lang/AbstractStringBuilder"), (0, .methodref 550 553), (0, .nameAndType 554 340), (0, u "getValue"), (20, .class_ 576), (0, u "java/lang/CharSequence"), (22, u "CASE_INSENSITIVE_ORDER"), (0, u "Ljava/util/Comparator;"), (32, .methodref 10 634), (0, .nameAndType 635 636), (0, u "indexOf"), (0, u "(II)I"), (0, .methodref 107 638), (0, .nameAndType 635 639), (0, u "([BIII)I"), (52, u "isEmpty"), (72, u "(I)I"), (55, u "([BIB)V"), (188, u "([C)V"), (36, .methodref 550 493), (5, .fieldref 1054 1055), (0, .class_ 1056), (0, .nameAndType 1057 1058), (0, u "jdk/internal/util/Preconditions"), (0, u "SIOOBE_FORMATTER"), (0, u "Ljava/util/function/BiFunction;"), (0, .methodref 1054 1060), (0, .nameAndType 501 1061), (0, u "(IILjava/util/function/BiFunction;)I"), (39, u "serialPersistentFields"), (0, u "[Ljava/io/ObjectStreamField;"), (0, .class_ 1104), (0, u "java/lang/String$CaseInsensitiveComparator"), (1, .class_ 1107), (0, u "java/io/Serializable"), (0, .class_ 1109), (0, u "java/lang/Comparable"), (0, .class_ 1111), (0, u "java/lang/constant/Constable"), (0, .class_ 1113), (0, u "java/lang/constant/ConstantDesc"), (2, u "serialVersionUID"), (0, u "J"), (3, u "REPL"), (0, u "C"), (2, u "LATIN1"), (1, u "UTF16"), (105, u "(Ljava/lang/StringBuilder;)V")] 217

def k7m0 : Method := { name := "<init>", desc := "()V", sig := { parameters := [], returnType := none }, accessFlags := 1, code := none }
def k7c1 : Code := { maxStack := 5, maxLocals := 2, code := jdk_42_method_3_code, exceptionTable := #[], attributes := #[] }
def k7m1 : Method := { name := "<init>", desc := "([C)V", sig := { parameters := [(.array .char)], returnType := none }, accessFlags := 1, code := some k7c1 }
def k7c2 : Code := { maxStack := 3, maxLocals := 2, code := jdk_42_method_53_code, exceptionTable := #[], attributes := #[] }
def k7m2 : Method := { name := "<init>", desc := "(Ljava/lang/StringBuilder;)V", sig := { parameters := [(.object "java/lang/StringBuilder")], returnType := none }, accessFlags := 1, code := some k7c2 }
def k7c3 : Code := { maxStack := 2, maxLocals := 1, code := jdk_42_method_54_code, exceptionTable := #[], attributes := #[] }
def k7m3 : Method := { name := "length", desc := "()I", sig := { parameters := [], returnType := some .int }, accessFlags := 1, code := some k7c3 }
def k7c4 : Code := { maxStack := 1, maxLocals := 1, code := jdk_42_method_55_code, exceptionTable := #[], attributes := #[] }
def k7m4 : Method := { name := "isEmpty", desc := "()Z", sig := { parameters := [], returnType := some .boolean }, accessFlags := 1, code := some k7c4 }
def k7c5 : Code := { maxStack := 2, maxLocals := 2, code := jdk_42_method_56_code, exceptionTable := #[], attributes := #[] }
def k7m5 : Method := { name := "charAt", desc := "(I)C", sig := { parameters := [.int], returnType := some .char }, accessFlags := 1, code := some k7c5 }
def k7c6 : Code := { maxStack := 3, maxLocals := 2, code := jdk_42_method_79_code, exceptionTable := #[], attributes := #[] }
def k7m6 : Method := { name := "indexOf", desc := "(I)I", sig := { parameters := [.int], returnType := some .int }, accessFlags := 1, code := some k7c6 }
def k7c7 : Code := { maxStack := 4, maxLocals := 3, code := jdk_42_method_80_code, exceptionTable := #[], attributes := #[] }
def k7m7 : Method := { name := "indexOf", desc := "(II)I", sig := { parameters := [.int, .int], returnType := some .int }, accessFlags := 1, code := some k7c7 }
def k7c8 : Code := { maxStack := 5, maxLocals := 4, code := jdk_42_method_147_code, exceptionTable := #[], attributes := #[] }
def k7m8 : Method := { name := "getBytes", desc := "([BIB)V", sig := { parameters := [(.array .byte), .int, .byte], returnType := none }, accessFlags := 0, code := some k7c8 }
def k7c9 : Code := { maxStack := 4, maxLocals := 6, code := jdk_42_method_149_code, exceptionTable := #[], attributes := #[] }
def k7m9 : Method := { name := "<init>", desc := "([CIILjava/lang/Void;)V", sig := { parameters := [(.array .char), .int, .int, (.object "java/lang/Void")], returnType := none }, accessFlags := 2, code := some k7c9 }
def k7c10 : Code := { maxStack := 5, maxLocals := 5, code := jdk_42_method_150_code, exceptionTable := #[], attributes := #[] }
def k7m10 : Method := { name := "<init>", desc := "(Ljava/lang/AbstractStringBuilder;Ljava/lang/Void;)V", sig := { parameters := [(.object "java/lang/AbstractStringBuilder"), (.object "java/lang/Void")], returnType := none }, accessFlags := 0, code := some k7c10 }
def k7c11 : Code := { maxStack := 1, maxLocals := 1, code := jdk_42_method_152_code, exceptionTable := #[], attributes := #[] }
def k7m11 : Method := { name := "coder", desc := "()B", sig := { parameters := [], returnType := some .byte }, accessFlags := 0, code := some k7c11 }
def k7c12 : Code := { maxStack := 1, maxLocals := 1, code := jdk_42_method_154_code, exceptionTable := #[], attributes := #[] }
def k7m12 : Method := { name := "isLatin1", desc := "()Z", sig := { parameters := [], returnType := some .boolean }, accessFlags := 0, code := some k7c12 }
def k7c13 : Code := { maxStack := 3, maxLocals := 2, code := jdk_42_method_155_code, exceptionTable := #[], attributes := #[] }
def k7m13 : Method := { name := "checkIndex", desc := "(II)V", sig := { parameters := [.int, .int], returnType := none }, accessFlags := 8, code := some k7c13 }
/-- java/lang/String -/
def k7 : Class := { plain "java/lang/String" (some 0) with
  accessFlags := 49
  interfaces := #[2, 3, 4, 5, 6]
  cf := some (fileOf pool7 10 #[.nestMembers #[1103]] #[{ accessFlags := 1, nameIndex := 5, descriptorIndex := 6, attributes := #[] }, { accessFlags := 1, nameIndex := 5, descriptorIndex := 1010, attributes := #[] }, { accessFlags := 1, nameIndex := 5, descriptorIndex := 1233, attributes := #[] }, { accessFlags := 1, nameIndex := 507, descriptorIndex := 334, attributes := #[] }, { accessFlags := 1, nameIndex := 692, descriptorIndex := 142, attributes := #[] }, { accessFlags := 1, nameIndex := 497, descriptorIndex := 427, attributes := #[] }, { accessFlags := 1, nameIndex := 635, descriptorIndex := 765, attributes := #[] }, { accessFlags := 1, nameIndex := 635, descriptorIndex := 636, attributes := #[] }, { accessFlags := 0, nameIndex := 532, descriptorIndex := 821, attributes := #[] }, { accessFlags := 2, nameIndex := 5, descriptorIndex := 29, attributes := #[] }, { accessFlags := 0, nameIndex := 5, descriptorIndex := 491, attributes := #[] }, { accessFlags := 0, nameIndex := 17, descriptorIndex := 337, attributes := #[] }, { accessFlags := 0, nameIndex := 494, descriptorIndex := 142, attributes := #[] }, { accessFlags := 8, nameIndex := 501, descriptorIndex := 391, attributes := #[] }] 49 2 #[1106, 1108, 575, 1110, 1112] #[{ accessFlags := 18, nameIndex := 13, descriptorIndex := 14, attributes := #[] }, { accessFlags := 18, nameIndex := 17, descriptorIndex := 18, attributes := #[] }, { accessFlags := 2, nameIndex := 21, descriptorIndex := 22, attributes := #[] }, { accessFlags := 2, nameIndex := 25, descriptorIndex := 26, attributes := #[] }, { accessFlags := 26, nameIndex := 1116, descriptorIndex := 1117, attributes := #[] }, { accessFlags := 24, nameIndex := 40, descriptorIndex := 26, attributes := #[] }, { accessFlags := 26, nameIndex := 1101, descriptorIndex := 1102, attributes := #[] }, { accessFlags := 26, nameIndex := 1121, descriptorIndex := 1122, attributes := #[] }, { accessFlags := 25, nameIndex := 599, descriptorIndex := 600, attributes := #[] }, { accessFlags := 24, nameIndex := 1125, descriptorIndex := 18, attributes := #[] }, { accessFlags := 24, nameIndex := 1127, descriptorIndex := 18, attributes := #[] }])
  fields := #[{ name := "value", type := (.array .byte), accessFlags := 18, slot := 0, constantValue := 0 }, { name := "coder", type := .byte, accessFlags := 18, slot := 1, constantValue := 0 }, { name := "hash", type := .int, accessFlags := 2, slot := 2, constantValue := 0 }, { name := "hashIsZero", type := .boolean, accessFlags := 2, slot := 3, constantValue := 0 }, { name := "serialVersionUID", type := .long, accessFlags := 26, slot := 0, constantValue := 0 }, { name := "COMPACT_STRINGS", type := .boolean, accessFlags := 24, slot := 1, constantValue := 0 }, { name := "serialPersistentFields", type := (.array (.object "java/io/ObjectStreamField")), accessFlags := 26, slot := 2, constantValue := 0 }, { name := "REPL", type := .char, accessFlags := 26, slot := 3, constantValue := 0 }, { name := "CASE_INSENSITIVE_ORDER", type := (.object "java/util/Comparator"), accessFlags := 25, slot := 4, constantValue := 0 }, { name := "LATIN1", type := .byte, accessFlags := 24, slot := 5, constantValue := 0 }, { name := "UTF16", type := .byte, accessFlags := 24, slot := 6, constantValue := 0 }]
  methods := #[k7m0, k7m1, k7m2, k7m3, k7m4, k7m5, k7m6, k7m7, k7m8, k7m9, k7m10, k7m11, k7m12, k7m13]
  instanceTypes := #[(.array .byte), .byte, .int, .boolean]
  staticTypes := #[.long, .boolean, (.array (.object "java/io/ObjectStreamField")), .char, (.object "java/util/Comparator"), .byte, .byte]
  resolved := Array.replicate 1451 none
  statics := some 0 }

def pool8 : Array CpInfo := pool [(6, .class_ 8), (1, u "java/lang/Object"), (0, u "<init>"), (0, u "()V"), (1, .class_ 14), (1, u "java/lang/StringUTF16"), (31, u "$assertionsDisabled"), (0, u "Z"), (13, u "HI_BYTE_SHIFT"), (0, u "I"), (2, u "LO_BYTE_SHIFT"), (49, .methodref 12 116), (0, .nameAndType 117 118), (0, u "compress"), (0, u "([CI[BII)I"), (3, u "([CII)[B"), (138, u "coderFromArrayLen"), (0, u "([BI)B"), (106, .class_ 371), (1, u "java/lang/StringUTF16$LinesSpliterator"), (58, u "MAX_LENGTH"), (196, .class_ 628), (0, u "java/lang/StringUTF16$CodePointsSpliterator"), (0, .class_ 630), (0, u "java/lang/StringUTF16$CharsSpliterator")] 4

def k8m0 : Method := { name := "<init>", desc := "()V", sig := { parameters := [], returnType := none }, accessFlags := 0, code := none }
def k8c1 : Code := { maxStack := 2, maxLocals := 2, code := jdk_52_method_15_code, exceptionTable := #[], attributes := #[] }
def k8m1 : Method := { name := "coderFromArrayLen", desc := "([BI)B", sig := { parameters := [(.array .byte), .int], returnType := some .byte }, accessFlags := 8, code := some k8c1 }
def k8c2 : Code := { maxStack := 5, maxLocals := 6, code := jdk_52_method_16_code, exceptionTable := #[], attributes := #[] }
def k8m2 : Method := { name := "compress", desc := "([CII)[B", sig := { parameters := [(.array .char), .int, .int], returnType := some (.array .byte) }, accessFlags := 9, code := some k8c2 }
def k8c3 : Code := { maxStack := 3, maxLocals := 7, code := jdk_52_method_21_code, exceptionTable := #[], attributes := #[] }
def k8m3 : Method := { name := "compress", desc := "([CI[BII)I", sig := { parameters := [(.array .char), .int, (.array .byte), .int, .int], returnType := some .int }, accessFlags := 9, code := some k8c3 }
/-- java/lang/StringUTF16 -/
def k8 : Class := { plain "java/lang/StringUTF16" (some 0) with
  accessFlags := 48
  interfaces := #[]
  cf := some (fileOf pool8 12 #[.nestMembers #[627, 629, 369]] #[{ accessFlags := 0, nameIndex := 9, descriptorIndex := 10, attributes := #[] }, { accessFlags := 8, nameIndex := 261, descriptorIndex := 262, attributes := #[] }, { accessFlags := 9, nameIndex := 117, descriptorIndex := 122, attributes := #[] }, { accessFlags := 9, nameIndex := 117, descriptorIndex := 118, attributes := #[] }] 48 6 #[] #[{ accessFlags := 26, nameIndex := 61, descriptorIndex := 62, attributes := #[] }, { accessFlags := 26, nameIndex := 65, descriptorIndex := 62, attributes := #[] }, { accessFlags := 24, nameIndex := 430, descriptorIndex := 62, attributes := #[] }, { accessFlags := 4120, nameIndex := 46, descriptorIndex := 47, attributes := #[] }])
  fields := #[{ name := "HI_BYTE_SHIFT", type := .int, accessFlags := 26, slot := 0, constantValue := 0 }, { name := "LO_BYTE_SHIFT", type := .int, accessFlags := 26, slot := 1, constantValue := 0 }, { name := "MAX_LENGTH", type := .int, accessFlags := 24, slot := 2, constantValue := 0 }, { name := "$assertionsDisabled", type := .boolean, accessFlags := 4120, slot := 3, constantValue := 0 }]
  methods := #[k8m0, k8m1, k8m2, k8m3]
  instanceTypes := #[]
  staticTypes := #[.int, .int, .int, .boolean]
  resolved := Array.replicate 635 none
  statics := none }

def pool9 : Array CpInfo := pool [(1, .methodref 2 3), (0, .class_ 4), (0, .nameAndType 5 6), (0, u "java/lang/Object"), (0, u "<init>"), (0, u "()V"), (0, .class_ 8), (0, u "java/lang/Record")] 13

def k9c0 : Code := { maxStack := 1, maxLocals := 1, code := jdk_30_method_1_code, exceptionTable := #[], attributes := #[] }
def k9m0 : Method := { name := "<init>", desc := "()V", sig := { parameters := [], returnType := none }, accessFlags := 4, code := some k9c0 }
/-- java/lang/Record -/
def k9 : Class := { plain "java/lang/Record" (some 0) with
  accessFlags := 1057
  interfaces := #[]
  cf := some (fileOf pool9 7 #[] #[{ accessFlags := 4, nameIndex := 5, descriptorIndex := 6, attributes := #[] }] 1057 2 #[] #[])
  fields := #[]
  methods := #[k9m0]
  instanceTypes := #[]
  staticTypes := #[]
  resolved := Array.replicate 22 none
  statics := none }

def pool10 : Array CpInfo := pool [(1, .methodref 2 3), (0, .class_ 4), (0, .nameAndType 5 6), (0, u "java/lang/Record"), (0, u "<init>"), (0, u "()V"), (0, .string 8), (0, u "kind"), (0, .methodref 10 11), (0, .class_ 12), (0, .nameAndType 13 14), (0, u "java/util/Objects"), (0, u "requireNonNull"), (0, u "(Ljava/lang/Object;Ljava/lang/String;)Ljava/lang/Object;"), (0, .string 16), (0, u "argument"), (0, .methodref 18 19), (0, .class_ 20), (0, .nameAndType 21 22), (0, u "java/lang/String"), (0, u "isEmpty"), (0, u "()Z"), (0, .methodref 18 24), (0, .nameAndType 25 26), (0, u "indexOf"), (0, u "(I)I"), (2, .class_ 30), (0, u "java/lang/StringBuilder"), (0, .methodref 29 3), (2, .methodref 29 35), (0, .nameAndType 36 37), (0, u "append"), (0, u "(Ljava/lang/String;)Ljava/lang/StringBuilder;"), (2, .methodref 29 41), (0, .nameAndType 42 43), (0, u "toString"), (0, u "()Ljava/lang/String;"), (3, .fieldref 48 49), (0, .class_ 50), (0, .nameAndType 8 51), (0, u "com/example/shoalwork/shoalwork/task/TaskSpec"), (0, u "Ljava/lang/String;"), (0, .fieldref 48 53), (0, .nameAndType 16 51), (13, u "(Ljava/lang/String;Ljava/lang/String;)V"), (0, .string 69), (0, u ":")] 37

def k10c0 : Code := { maxStack := 4, maxLocals := 3, code := prog_31_method_1_code, exceptionTable := #[], attributes := #[] }
def k10m0 : Method := { name := "<init>", desc := "(Ljava/lang/String;Ljava/lang/String;)V", sig := { parameters := [(.object "java/lang/String"), (.object "java/lang/String")], returnType := none }, accessFlags := 1, code := some k10c0 }
def k10c1 : Code := { maxStack := 2, maxLocals := 1, code := prog_31_method_3_code, exceptionTable := #[], attributes := #[] }
def k10m1 : Method := { name := "toString", desc := "()Ljava/lang/String;", sig := { parameters := [], returnType := some (.object "java/lang/String") }, accessFlags := 1, code := some k10c1 }
/-- com/example/shoalwork/shoalwork/task/TaskSpec -/
def k10 : Class := { plain "com/example/shoalwork/shoalwork/task/TaskSpec" (some 9) with
  accessFlags := 49
  interfaces := #[]
  cf := some (fileOf pool10 48 #[] #[{ accessFlags := 1, nameIndex := 5, descriptorIndex := 67, attributes := #[] }, { accessFlags := 1, nameIndex := 42, descriptorIndex := 43, attributes := #[] }] 49 2 #[] #[{ accessFlags := 18, nameIndex := 8, descriptorIndex := 51, attributes := #[] }, { accessFlags := 18, nameIndex := 16, descriptorIndex := 51, attributes := #[] }])
  fields := #[{ name := "kind", type := (.object "java/lang/String"), accessFlags := 18, slot := 0, constantValue := 0 }, { name := "argument", type := (.object "java/lang/String"), accessFlags := 18, slot := 1, constantValue := 0 }]
  methods := #[k10m0, k10m1]
  instanceTypes := #[(.object "java/lang/String"), (.object "java/lang/String")]
  staticTypes := #[]
  resolved := Array.replicate 107 none
  statics := none }

def pool11 : Array CpInfo := pool [(2, .class_ 4), (1, u "java/lang/Object"), (0, u "<init>"), (0, u "()V"), (35, .class_ 44), (1, u "java/util/Objects"), (0, u "requireNonNull"), (48, u "(Ljava/lang/Object;Ljava/lang/String;)Ljava/lang/Object;")] 89

def k11m0 : Method := { name := "<init>", desc := "()V", sig := { parameters := [], returnType := none }, accessFlags := 2, code := none }
def k11c1 : Code := { maxStack := 3, maxLocals := 2, code := jdk_31_method_11_code, exceptionTable := #[], attributes := #[] }
def k11m1 : Method := { name := "requireNonNull", desc := "(Ljava/lang/Object;Ljava/lang/String;)Ljava/lang/Object;", sig := { parameters := [(.object "java/lang/Object"), (.object "java/lang/String")], returnType := some (.object "java/lang/Object") }, accessFlags := 9, code := some k11c1 }
/-- java/util/Objects -/
def k11 : Class := { plain "java/util/Objects" (some 0) with
  accessFlags := 49
  interfaces := #[]
  cf := some (fileOf pool11 42 #[] #[{ accessFlags := 2, nameIndex := 5, descriptorIndex := 6, attributes := #[] }, { accessFlags := 9, nameIndex := 45, descriptorIndex := 94, attributes := #[] }] 49 2 #[] #[])
  fields := #[]
  methods := #[k11m0, k11m1]
  instanceTypes := #[]
  staticTypes := #[]
  resolved := Array.replicate 184 none
  statics := none }

def pool12 : Array CpInfo := pool [(1, .class_ 2), (0, u "java/lang/String"), (1, .class_ 6), (1, u "java/lang/Object"), (0, u "<init>"), (0, u "()V"), (0, .methodref 1 10), (0, .nameAndType 11 12), (0, u "checkIndex"), (0, u "(II)V"), (1, .class_ 16), (1, u "java/lang/StringLatin1"), (21, .methodref 39 40), (0, .class_ 41), (0, .nameAndType 42 43), (0, u "java/lang/Math"), (0, u "min"), (0, u "(II)I"), (9, u "([BI)C"), (34, .methodref 14 89), (0, .nameAndType 90 91), (0, u "canEncode"), (0, u "(I)Z"), (0, .methodref 39 93), (0, .nameAndType 94 43), (0, u "max"), (0, .methodref 14 96), (0, .nameAndType 97 98), (0, u "indexOfChar"), (0, u "([BIII)I"), (2, u "indexOf"), (19, u "$assertionsDisabled"), (0, u "Z"), (98, .class_ 223), (1, u "java/lang/StringLatin1$LinesSpliterator"), (28, u "charAt"), (137, .class_ 391), (0, u "java/lang/StringLatin1$CharsSpliterator")] 3

def k12m0 : Method := { name := "<init>", desc := "()V", sig := { parameters := [], returnType := none }, accessFlags := 0, code := none }
def k12c1 : Code := { maxStack := 2, maxLocals := 2, code := jdk_43_method_2_code, exceptionTable := #[], attributes := #[] }
def k12m1 : Method := { name := "charAt", desc := "([BI)C", sig := { parameters := [(.array .byte), .int], returnType := some .char }, accessFlags := 9, code := some k12c1 }
def k12c2 : Code := { maxStack := 2, maxLocals := 1, code := jdk_43_method_4_code, exceptionTable := #[], attributes := #[] }
def k12m2 : Method := { name := "canEncode", desc := "(I)Z", sig := { parameters := [.int], returnType := some .boolean }, accessFlags := 9, code := some k12c2 }
def k12c3 : Code := { maxStack := 4, maxLocals := 4, code := jdk_43_method_22_code, exceptionTable := #[], attributes := #[] }
def k12m3 : Method := { name := "indexOf", desc := "([BIII)I", sig := { parameters := [(.array .byte), .int, .int, .int], returnType := some .int }, accessFlags := 9, code := some k12c3 }
def k12c4 : Code := { maxStack := 2, maxLocals := 6, code := jdk_43_method_23_code, exceptionTable := #[], attributes := #[] }
def k12m4 : Method := { name := "indexOfChar", desc := "([BIII)I", sig := { parameters := [(.array .byte), .int, .int, .int], returnType := some .int }, accessFlags := 10, code := some k12c4 }
/-- java/lang/StringLatin1 -/
def k12 : Class := { plain "java/lang/StringLatin1" (some 0) with
  accessFlags := 48
  interfaces := #[]
  cf := some (fileOf pool12 14 #[.nestMembers #[390, 221]] #[{ accessFlags := 0, nameIndex := 7, descriptorIndex := 8, attributes := #[] }, { accessFlags := 9, nameIndex := 252, descriptorIndex := 53, attributes := #[] }, { accessFlags := 9, nameIndex := 90, descriptorIndex := 91, attributes := #[] }, { accessFlags := 9, nameIndex := 101, descriptorIndex := 98, attributes := #[] }, { accessFlags := 10, nameIndex := 97, descriptorIndex := 98, attributes := #[] }] 48 4 #[] #[{ accessFlags := 4120, nameIndex := 121, descriptorIndex := 122, attributes := #[] }])
  fields := #[{ name := "$assertionsDisabled", type := .boolean, accessFlags := 4120, slot := 0, constantValue := 0 }]
  methods := #[k12m0, k12m1, k12m2, k12m3, k12m4]
  instanceTypes := #[]
  staticTypes := #[.boolean]
  resolved := Array.replicate 395 none
  statics := none }

def pool13 : Array CpInfo := pool [(1, .class_ 2), (0, u "java/lang/Math"), (1, .class_ 6), (1, u "java/lang/Object"), (0, u "<init>"), (0, u "()V"), (89, .class_ 100), (1, u "java/lang/Math$RandomNumberGeneratorHolder"), (71, u "negativeZeroFloatBits"), (0, u "J"), (2, u "negativeZeroDoubleBits"), (21, u "max"), (2, u "min"), (43, u "$assertionsDisabled"), (0, u "Z"), (88, u "(II)I"), (2, u "twoToTheDoubleScaleDown"), (0, u "D"), (4, u "twoToTheDoubleScaleUp"), (9, u "E"), (3, u "PI"), (2, u "TAU"), (2, u "DEGREES_TO_RADIANS"), (0, u "RADIANS_TO_DEGREES")] 94

def k13m0 : Method := { name := "<init>", desc := "()V", sig := { parameters := [], returnType := none }, accessFlags := 2, code := none }
def k13c1 : Code := { maxStack := 2, maxLocals := 2, code := jdk_29_method_65_code, exceptionTable := #[], attributes := #[] }
def k13m1 : Method := { name := "max", desc := "(II)I", sig := { parameters := [.int, .int], returnType := some .int }, accessFlags := 9, code := some k13c1 }
def k13c2 : Code := { maxStack := 2, maxLocals := 2, code := jdk_29_method_69_code, exceptionTable := #[], attributes := #[] }
def k13m2 : Method := { name := "min", desc := "(II)I", sig := { parameters := [.int, .int], returnType := some .int }, accessFlags := 9, code := some k13c2 }
/-- java/lang/Math -/
def k13 : Class := { plain "java/lang/Math" (some 0) with
  accessFlags := 49
  interfaces := #[]
  cf := some (fileOf pool13 1 #[.nestMembers #[98]] #[{ accessFlags := 2, nameIndex := 7, descriptorIndex := 8, attributes := #[] }, { accessFlags := 9, nameIndex := 198, descriptorIndex := 335, attributes := #[] }, { accessFlags := 9, nameIndex := 201, descriptorIndex := 335, attributes := #[] }] 49 4 #[] #[{ accessFlags := 25, nameIndex := 354, descriptorIndex := 339, attributes := #[] }, { accessFlags := 25, nameIndex := 358, descriptorIndex := 339, attributes := #[] }, { accessFlags := 25, nameIndex := 361, descriptorIndex := 339, attributes := #[] }, { accessFlags := 26, nameIndex := 364, descriptorIndex := 339, attributes := #[] }, { accessFlags := 26, nameIndex := 365, descriptorIndex := 339, attributes := #[] }, { accessFlags := 26, nameIndex := 172, descriptorIndex := 173, attributes := #[] }, { accessFlags := 26, nameIndex := 176, descriptorIndex := 173, attributes := #[] }, { accessFlags := 8, nameIndex := 344, descriptorIndex := 339, attributes := #[] }, { accessFlags := 8, nameIndex := 338, descriptorIndex := 339, attributes := #[] }, { accessFlags := 4120, nameIndex := 245, descriptorIndex := 246, attributes := #[] }])
  fields := #[{ name := "E", type := .double, accessFlags := 25, slot := 0, constantValue := 0 }, { name := "PI", type := .double, accessFlags := 25, slot := 1, constantValue := 0 }, { name := "TAU", type := .double, accessFlags := 25, slot := 2, constantValue := 0 }, { name := "DEGREES_TO_RADIANS", type := .double, accessFlags := 26, slot := 3, constantValue := 0 }, { name := "RADIANS_TO_DEGREES", type := .double, accessFlags := 26, slot := 4, constantValue := 0 }, { name := "negativeZeroFloatBits", type := .long, accessFlags := 26, slot := 5, constantValue := 0 }, { name := "negativeZeroDoubleBits", type := .long, accessFlags := 26, slot := 6, constantValue := 0 }, { name := "twoToTheDoubleScaleUp", type := .double, accessFlags := 8, slot := 7, constantValue := 0 }, { name := "twoToTheDoubleScaleDown", type := .double, accessFlags := 8, slot := 8, constantValue := 0 }, { name := "$assertionsDisabled", type := .boolean, accessFlags := 4120, slot := 9, constantValue := 0 }]
  methods := #[k13m0, k13m1, k13m2]
  instanceTypes := #[]
  staticTypes := #[.double, .double, .double, .double, .double, .long, .long, .double, .double, .boolean]
  resolved := Array.replicate 460 none
  statics := none }

def pool14 : Array CpInfo := pool [(1, .class_ 2), (0, u "java/lang/Appendable"), (0, .class_ 4), (0, u "java/lang/Object")] 9

/-- java/lang/Appendable -/
def k14 : Class := { plain "java/lang/Appendable" (some 0) with
  accessFlags := 1537
  interfaces := #[]
  cf := some (fileOf pool14 1 #[] #[] 1537 3 #[] #[])
  fields := #[]
  methods := #[]
  instanceTypes := #[]
  staticTypes := #[]
  resolved := Array.replicate 14 none
  statics := none }

def pool15 : Array CpInfo := pool [(1, .class_ 2), (0, u "java/lang/String"), (0, .methodref 4 5), (0, .class_ 6), (0, .nameAndType 7 8), (0, u "java/lang/Object"), (0, u "<init>"), (0, u "()V"), (1, .class_ 12), (1, u "java/lang/AbstractStringBuilder"), (0, u "EMPTYVALUE"), (0, u "[B"), (0, .fieldref 10 16), (0, .nameAndType 17 14), (0, u "value"), (0, .fieldref 1 19), (0, .nameAndType 20 21), (0, u "COMPACT_STRINGS"), (0, u "Z"), (0, .fieldref 10 23), (0, .nameAndType 24 25), (0, u "coder"), (0, u "B"), (6, .methodref 1 33), (0, .nameAndType 34 35), (0, u "length"), (0, u "()I"), (4, .methodref 1 41), (0, .nameAndType 24 42), (0, u "()B"), (2, u "append"), (0, u "(Ljava/lang/String;)Ljava/lang/AbstractStringBuilder;"), (1, .class_ 49), (0, u "java/lang/CharSequence"), (19, u "(Ljava/lang/String;)V"), (5, u "maybeLatin1"), (3, .fieldref 10 80), (0, .nameAndType 81 82), (0, u "count"), (0, u "I"), (2, u "isLatin1"), (0, u "()Z"), (13, .methodref 10 101), (0, .nameAndType 102 103), (0, u "ensureCapacityInternal"), (0, u "(I)V"), (104, .methodref 10 209), (0, .nameAndType 210 211), (0, u "putStringAt"), (0, u "(ILjava/lang/String;)V"), (5, u "inflateIfNeededFor"), (2, .nameAndType 221 222), (0, u "getBytes"), (0, u "([BIB)V"), (174, .methodref 10 398), (0, .nameAndType 217 69), (0, .methodref 1 220), (3, u "()[B"), (40, .class_ 445), (0, u "java/lang/Appendable"), (106, u "getValue")] 56

def k15m0 : Method := { name := "<init>", desc := "()V", sig := { parameters := [], returnType := none }, accessFlags := 0, code := none }
def k15c1 : Code := { maxStack := 2, maxLocals := 2, code := jdk_68_method_2_code, exceptionTable := #[], attributes := #[] }
def k15m1 : Method := { name := "<init>", desc := "(I)V", sig := { parameters := [.int], returnType := none }, accessFlags := 0, code := some k15c1 }
def k15c2 : Code := { maxStack := 1, maxLocals := 1, code := jdk_68_method_6_code, exceptionTable := #[], attributes := #[] }
def k15m2 : Method := { name := "length", desc := "()I", sig := { parameters := [], returnType := some .int }, accessFlags := 1, code := some k15c2 }
def k15c3 : Code := { maxStack := 4, maxLocals := 3, code := jdk_68_method_9_code, exceptionTable := #[], attributes := #[] }
def k15m3 : Method := { name := "ensureCapacityInternal", desc := "(I)V", sig := { parameters := [.int], returnType := none }, accessFlags := 2, code := some k15c3 }
def k15c4 : Code := { maxStack := 3, maxLocals := 3, code := jdk_68_method_22_code, exceptionTable := #[], attributes := #[] }
def k15m4 : Method := { name := "append", desc := "(Ljava/lang/String;)Ljava/lang/AbstractStringBuilder;", sig := { parameters := [(.object "java/lang/String")], returnType := some (.object "java/lang/AbstractStringBuilder") }, accessFlags := 1, code := some k15c4 }
def k15c5 : Code := { maxStack := 1, maxLocals := 1, code := jdk_68_method_64_code, exceptionTable := #[], attributes := #[] }
def k15m5 : Method := { name := "getValue", desc := "()[B", sig := { parameters := [], returnType := some (.array .byte) }, accessFlags := 16, code := some k15c5 }
def k15c6 : Code := { maxStack := 1, maxLocals := 1, code := jdk_68_method_68_code, exceptionTable := #[], attributes := #[] }
def k15m6 : Method := { name := "isLatin1", desc := "()Z", sig := { parameters := [], returnType := some .boolean }, accessFlags := 16, code := some k15c6 }
def k15c7 : Code := { maxStack := 2, maxLocals := 2, code := jdk_68_method_71_code, exceptionTable := #[], attributes := #[] }
def k15m7 : Method := { name := "inflateIfNeededFor", desc := "(Ljava/lang/String;)V", sig := { parameters := [(.object "java/lang/String")], returnType := none }, accessFlags := 2, code := some k15c7 }
def k15c8 : Code := { maxStack := 4, maxLocals := 3, code := jdk_68_method_73_code, exceptionTable := #[], attributes := #[] }
def k15m8 : Method := { name := "putStringAt", desc := "(ILjava/lang/String;)V", sig := { parameters := [.int, (.object "java/lang/String")], returnType := none }, accessFlags := 2, code := some k15c8 }
/-- java/lang/AbstractStringBuilder -/
def k15 : Class := { plain "java/lang/AbstractStringBuilder" (some 0) with
  accessFlags := 1056
  interfaces := #[14, 4]
  cf := some (fileOf pool15 10 #[] #[{ accessFlags := 0, nameIndex := 7, descriptorIndex := 8, attributes := #[] }, { accessFlags := 0, nameIndex := 7, descriptorIndex := 103, attributes := #[] }, { accessFlags := 1, nameIndex := 34, descriptorIndex := 35, attributes := #[] }, { accessFlags := 2, nameIndex := 102, descriptorIndex := 103, attributes := #[] }, { accessFlags := 1, nameIndex := 45, descriptorIndex := 46, attributes := #[] }, { accessFlags := 16, nameIndex := 552, descriptorIndex := 403, attributes := #[] }, { accessFlags := 16, nameIndex := 85, descriptorIndex := 86, attributes := #[] }, { accessFlags := 2, nameIndex := 217, descriptorIndex := 69, attributes := #[] }, { accessFlags := 2, nameIndex := 210, descriptorIndex := 211, attributes := #[] }] 1056 4 #[444, 48] #[{ accessFlags := 0, nameIndex := 17, descriptorIndex := 14, attributes := #[] }, { accessFlags := 0, nameIndex := 24, descriptorIndex := 25, attributes := #[] }, { accessFlags := 0, nameIndex := 75, descriptorIndex := 21, attributes := #[] }, { accessFlags := 0, nameIndex := 81, descriptorIndex := 82, attributes := #[] }, { accessFlags := 26, nameIndex := 13, descriptorIndex := 14, attributes := #[] }])
  fields := #[{ name := "value", type := (.array .byte), accessFlags := 0, slot := 0, constantValue := 0 }, { name := "coder", type := .byte, accessFlags := 0, slot := 1, constantValue := 0 }, { name := "maybeLatin1", type := .boolean, accessFlags := 0, slot := 2, constantValue := 0 }, { name := "count", type := .int, accessFlags := 0, slot := 3, constantValue := 0 }, { name := "EMPTYVALUE", type := (.array .byte), accessFlags := 26, slot := 0, constantValue := 0 }]
  methods := #[k15m0, k15m1, k15m2, k15m3, k15m4, k15m5, k15m6, k15m7, k15m8]
  instanceTypes := #[(.array .byte), .byte, .boolean, .int]
  staticTypes := #[(.array .byte)]
  resolved := Array.replicate 609 none
  statics := none }

def pool16 : Array CpInfo := pool [(1, .methodref 2 3), (0, .class_ 4), (0, .nameAndType 5 6), (0, u "java/lang/AbstractStringBuilder"), (0, u "<init>"), (0, u "(I)V"), (11, .class_ 20), (1, u "java/lang/String"), (3, .class_ 26), (1, u "java/lang/StringBuilder"), (0, u "append"), (0, u "(Ljava/lang/String;)Ljava/lang/StringBuilder;"), (0, .methodref 2 30), (0, .nameAndType 27 31), (0, u "(Ljava/lang/String;)Ljava/lang/AbstractStringBuilder;"), (105, .methodref 18 138), (0, .nameAndType 5 139), (0, u "(Ljava/lang/StringBuilder;)V"), (5, u "()V"), (10, u "()I"), (186, .methodref 2 344), (0, .nameAndType 345 156), (0, u "length"), (3, .class_ 350), (0, u "java/lang/Appendable"), (0, .class_ 352), (0, u "java/io/Serializable"), (0, .class_ 354), (0, u "java/lang/Comparable"), (0, .class_ 356), (0, u "java/lang/CharSequence"), (0, u "serialVersionUID"), (0, u "J"), (40, u "toString"), (0, u "()Ljava/lang/String;")] 21

def k16c0 : Code := { maxStack := 2, maxLocals := 1, code := jdk_67_method_1_code, exceptionTable := #[], attributes := #[] }
def k16m0 : Method := { name := "<init>", desc := "()V", sig := { parameters := [], returnType := none }, accessFlags := 1, code := some k16c0 }
def k16c1 : Code := { maxStack := 2, maxLocals := 2, code := jdk_67_method_7_code, exceptionTable := #[], attributes := #[] }
def k16m1 : Method := { name := "append", desc := "(Ljava/lang/String;)Ljava/lang/StringBuilder;", sig := { parameters := [(.object "java/lang/String")], returnType := some (.object "java/lang/StringBuilder") }, accessFlags := 1, code := some k16c1 }
def k16c2 : Code := { maxStack := 3, maxLocals := 1, code := jdk_67_method_42_code, exceptionTable := #[], attributes := #[] }
def k16m2 : Method := { name := "toString", desc := "()Ljava/lang/String;", sig := { parameters := [], returnType := some (.object "java/lang/String") }, accessFlags := 1, code := some k16c2 }
def k16c3 : Code := { maxStack := 1, maxLocals := 1, code := jdk_67_method_93_code, exceptionTable := #[], attributes := #[] }
def k16m3 : Method := { name := "length", desc := "()I", sig := { parameters := [], returnType := some .int }, accessFlags := 4161, code := some k16c3 }
/-- java/lang/StringBuilder -/
def k16 : Class := { plain "java/lang/StringBuilder" (some 15) with
  accessFlags := 49
  interfaces := #[14, 2, 3, 4]
  cf := some (fileOf pool16 24 #[] #[{ accessFlags := 1, nameIndex := 5, descriptorIndex := 145, attributes := #[] }, { accessFlags := 1, nameIndex := 27, descriptorIndex := 28, attributes := #[] }, { accessFlags := 1, nameIndex := 399, descriptorIndex := 400, attributes := #[] }, { accessFlags := 4161, nameIndex := 345, descriptorIndex := 156, attributes := #[] }] 49 2 #[349, 351, 353, 355] #[{ accessFlags := 24, nameIndex := 357, descriptorIndex := 358, attributes := #[] }])
  fields := #[{ name := "serialVersionUID", type := .long, accessFlags := 24, slot := 0, constantValue := 0 }]
  methods := #[k16m0, k16m1, k16m2, k16m3]
  instanceTypes := #[(.array .byte), .byte, .boolean, .int]
  staticTypes := #[.long]
  resolved := Array.replicate 422 none
  statics := none }

def pool17 : Array CpInfo := pool [(2, .class_ 4), (1, u "java/lang/Object"), (0, u "<init>"), (0, u "()V"), (1, .class_ 10), (1, u "java/lang/System"), (0, u "allowSecurityManager"), (0, u "I"), (16, u "cons"), (0, u "Ljava/io/Console;"), (77, .class_ 110), (1, u "java/lang/System$CallersHolder"), (43, u "initialErrStream"), (0, u "Ljava/io/PrintStream;"), (19, u "security"), (0, u "Ljava/lang/SecurityManager;"), (31, .class_ 209), (0, u "java/lang/System$1"), (7, u "props"), (0, u "Ljava/util/Properties;"), (2, u "lineSeparator"), (0, u "Ljava/lang/String;"), (96, .class_ 321), (1, u "java/lang/System$LoggerFinder"), (5, .class_ 328), (0, u "java/lang/System$Logger"), (67, u "err"), (2, u "out"), (91, u "notSupportedJnuEncoding"), (15, u "in"), (17, u "initialIn"), (0, u "Ljava/io/InputStream;"), (35, u "bootLayer"), (0, u "Ljava/lang/ModuleLayer;"), (99, .class_ 664), (0, u "java/lang/System$2"), (9, u "NEVER"), (2, u "MAYBE"), (49, u "arraycopy"), (0, u "(Ljava/lang/Object;ILjava/lang/Object;II)V"), (72, .class_ 802), (0, u "java/lang/System$Logger$Level")] 31

def k17m0 : Method := { name := "<init>", desc := "()V", sig := { parameters := [], returnType := none }, accessFlags := 2, code := none }
def k17m1 : Method := { name := "arraycopy", desc := "(Ljava/lang/Object;ILjava/lang/Object;II)V", sig := { parameters := [(.object "java/lang/Object"), .int, (.object "java/lang/Object"), .int, .int], returnType := none }, accessFlags := 265, code := none }
/-- java/lang/System -/
def k17 : Class := { plain "java/lang/System" (some 0) with
  accessFlags := 49
  interfaces := #[]
  cf := some (fileOf pool17 8 #[.nestMembers #[319, 327, 801, 108, 663, 208]] #[{ accessFlags := 2, nameIndex := 5, descriptorIndex := 6, attributes := #[] }, { accessFlags := 265, nameIndex := 727, descriptorIndex := 728, attributes := #[] }] 49 2 #[] #[{ accessFlags := 25, nameIndex := 507, descriptorIndex := 526, attributes := #[] }, { accessFlags := 25, nameIndex := 399, descriptorIndex := 155, attributes := #[] }, { accessFlags := 25, nameIndex := 396, descriptorIndex := 155, attributes := #[] }, { accessFlags := 10, nameIndex := 525, descriptorIndex := 526, attributes := #[] }, { accessFlags := 26, nameIndex := 674, descriptorIndex := 12, attributes := #[] }, { accessFlags := 26, nameIndex := 677, descriptorIndex := 12, attributes := #[] }, { accessFlags := 10, nameIndex := 11, descriptorIndex := 12, attributes := #[] }, { accessFlags := 74, nameIndex := 175, descriptorIndex := 176, attributes := #[] }, { accessFlags := 10, nameIndex := 491, descriptorIndex := 222, attributes := #[] }, { accessFlags := 74, nameIndex := 29, descriptorIndex := 30, attributes := #[] }, { accessFlags := 74, nameIndex := 154, descriptorIndex := 155, attributes := #[] }, { accessFlags := 10, nameIndex := 217, descriptorIndex := 218, attributes := #[] }, { accessFlags := 10, nameIndex := 221, descriptorIndex := 222, attributes := #[] }, { accessFlags := 8, nameIndex := 562, descriptorIndex := 563, attributes := #[] }])
  fields := #[{ name := "in", type := (.object "java/io/InputStream"), accessFlags := 25, slot := 0, constantValue := 0 }, { name := "out", type := (.object "java/io/PrintStream"), accessFlags := 25, slot := 1, constantValue := 0 }, { name := "err", type := (.object "java/io/PrintStream"), accessFlags := 25, slot := 2, constantValue := 0 }, { name := "initialIn", type := (.object "java/io/InputStream"), accessFlags := 10, slot := 3, constantValue := 0 }, { name := "NEVER", type := .int, accessFlags := 26, slot := 4, constantValue := 0 }, { name := "MAYBE", type := .int, accessFlags := 26, slot := 5, constantValue := 0 }, { name := "allowSecurityManager", type := .int, accessFlags := 10, slot := 6, constantValue := 0 }, { name := "security", type := (.object "java/lang/SecurityManager"), accessFlags := 74, slot := 7, constantValue := 0 }, { name := "notSupportedJnuEncoding", type := (.object "java/lang/String"), accessFlags := 10, slot := 8, constantValue := 0 }, { name := "cons", type := (.object "java/io/Console"), accessFlags := 74, slot := 9, constantValue := 0 }, { name := "initialErrStream", type := (.object "java/io/PrintStream"), accessFlags := 74, slot := 10, constantValue := 0 }, { name := "props", type := (.object "java/util/Properties"), accessFlags := 10, slot := 11, constantValue := 0 }, { name := "lineSeparator", type := (.object "java/lang/String"), accessFlags := 10, slot := 12, constantValue := 0 }, { name := "bootLayer", type := (.object "java/lang/ModuleLayer"), accessFlags := 8, slot := 13, constantValue := 0 }]
  methods := #[k17m0, k17m1]
  instanceTypes := #[]
  staticTypes := #[(.object "java/io/InputStream"), (.object "java/io/PrintStream"), (.object "java/io/PrintStream"), (.object "java/io/InputStream"), .int, .int, .int, (.object "java/lang/SecurityManager"), (.object "java/lang/String"), (.object "java/io/Console"), (.object "java/io/PrintStream"), (.object "java/util/Properties"), (.object "java/lang/String"), (.object "java/lang/ModuleLayer")]
  resolved := Array.replicate 834 none
  statics := none }

def pool18 : Array CpInfo := pool [(2, .class_ 4), (1, u "java/lang/Object"), (0, u "<init>"), (0, u "()V"), (7, .class_ 16), (1, u "java/util/Arrays"), (57, .class_ 76), (1, u "java/util/Arrays$NaturalOrder"), (36, .class_ 115), (1, u "java/util/Arrays$LegacyMergeSort"), (1, u "Z"), (21, u "copyOfRange"), (10, .methodref 151 152), (0, .class_ 153), (0, .nameAndType 154 155), (0, u "java/lang/System"), (0, u "arraycopy"), (0, u "(Ljava/lang/Object;ILjava/lang/Object;II)V"), (148, .methodref 305 306), (0, .class_ 307), (0, .nameAndType 308 309), (0, u "java/lang/Math"), (0, u "min"), (0, u "(II)I"), (29, .methodref 14 340), (0, .nameAndType 341 342), (0, u "copyOfRangeByte"), (0, u "([BII)[B"), (0, .methodref 14 344), (0, .nameAndType 345 346), (0, u "checkLength"), (0, u "(II)V"), (28, .class_ 376), (0, u "java/util/Arrays$ArrayList"), (68, u "$assertionsDisabled"), (269, u "MIN_ARRAY_SORT_GRAN"), (0, u "I"), (2, u "INSERTIONSORT_THRESHOLD"), (255, .class_ 976), (0, u "java/util/Arrays$ArrayItr")] 52

def k18m0 : Method := { name := "<init>", desc := "()V", sig := { parameters := [], returnType := none }, accessFlags := 2, code := none }
def k18c1 : Code := { maxStack := 4, maxLocals := 2, code := jdk_65_method_131_code, exceptionTable := #[], attributes := #[] }
def k18m1 : Method := { name := "checkLength", desc := "(II)V", sig := { parameters := [.int, .int], returnType := none }, accessFlags := 10, code := some k18c1 }
def k18c2 : Code := { maxStack := 3, maxLocals := 3, code := jdk_65_method_132_code, exceptionTable := #[], attributes := #[] }
def k18m2 : Method := { name := "copyOfRange", desc := "([BII)[B", sig := { parameters := [(.array .byte), .int, .int], returnType := some (.array .byte) }, accessFlags := 9, code := some k18c2 }
def k18c3 : Code := { maxStack := 6, maxLocals := 5, code := jdk_65_method_133_code, exceptionTable := #[], attributes := #[] }
def k18m3 : Method := { name := "copyOfRangeByte", desc := "([BII)[B", sig := { parameters := [(.array .byte), .int, .int], returnType := some (.array .byte) }, accessFlags := 10, code := some k18c3 }
/-- java/util/Arrays -/
def k18 : Class := { plain "java/util/Arrays" (some 0) with
  accessFlags := 49
  interfaces := #[]
  cf := some (fileOf pool18 14 #[.nestMembers #[975, 375, 113, 74]] #[{ accessFlags := 2, nameIndex := 5, descriptorIndex := 6, attributes := #[] }, { accessFlags := 10, nameIndex := 345, descriptorIndex := 346, attributes := #[] }, { accessFlags := 9, nameIndex := 139, descriptorIndex := 342, attributes := #[] }, { accessFlags := 10, nameIndex := 341, descriptorIndex := 342, attributes := #[] }] 49 2 #[] #[{ accessFlags := 26, nameIndex := 715, descriptorIndex := 716, attributes := #[] }, { accessFlags := 26, nameIndex := 719, descriptorIndex := 716, attributes := #[] }, { accessFlags := 4120, nameIndex := 445, descriptorIndex := 117, attributes := #[] }])
  fields := #[{ name := "MIN_ARRAY_SORT_GRAN", type := .int, accessFlags := 26, slot := 0, constantValue := 0 }, { name := "INSERTIONSORT_THRESHOLD", type := .int, accessFlags := 26, slot := 1, constantValue := 0 }, { name := "$assertionsDisabled", type := .boolean, accessFlags := 4120, slot := 2, constantValue := 0 }]
  methods := #[k18m0, k18m1, k18m2, k18m3]
  instanceTypes := #[]
  staticTypes := #[.int, .int, .boolean]
  resolved := Array.replicate 1029 none
  statics := none }

def pool19 : Array CpInfo := pool [(2, .class_ 4), (1, u "java/lang/Object"), (0, u "<init>"), (0, u "()V"), (17, .class_ 26), (1, u "jdk/internal/util/Preconditions"), (6, u "checkIndex"), (21, .class_ 56), (0, u "jdk/internal/util/Preconditions$4"), (57, .class_ 115), (0, u "jdk/internal/util/Preconditions$1"), (7, u "SIOOBE_FORMATTER"), (0, u "Ljava/util/function/BiFunction;"), (0, .class_ 126), (0, u "jdk/internal/util/Preconditions$2"), (3, u "AIOOBE_FORMATTER"), (0, .class_ 132), (0, u "jdk/internal/util/Preconditions$3"), (3, u "IOOBE_FORMATTER"), (41, u "(IILjava/util/function/BiFunction;)I")] 15

def k19m0 : Method := { name := "<init>", desc := "()V", sig := { parameters := [], returnType := none }, accessFlags := 1, code := none }
def k19c1 : Code := { maxStack := 3, maxLocals := 3, code := jdk_41_method_11_code, exceptionTable := #[], attributes := #[] }
def k19m1 : Method := { name := "checkIndex", desc := "(IILjava/util/function/BiFunction;)I", sig := { parameters := [.int, .int, (.object "java/util/function/BiFunction")], returnType := some .int }, accessFlags := 9, code := some k19c1 }
/-- jdk/internal/util/Preconditions -/
def k19 : Class := { plain "jdk/internal/util/Preconditions" (some 0) with
  accessFlags := 33
  interfaces := #[]
  cf := some (fileOf pool19 24 #[.nestMembers #[55, 131, 125, 114]] #[{ accessFlags := 1, nameIndex := 5, descriptorIndex := 6, attributes := #[] }, { accessFlags := 9, nameIndex := 33, descriptorIndex := 178, attributes := #[] }] 33 2 #[] #[{ accessFlags := 25, nameIndex := 123, descriptorIndex := 124, attributes := #[] }, { accessFlags := 25, nameIndex := 130, descriptorIndex := 124, attributes := #[] }, { accessFlags := 25, nameIndex := 136, descriptorIndex := 124, attributes := #[] }])
  fields := #[{ name := "SIOOBE_FORMATTER", type := (.object "java/util/function/BiFunction"), accessFlags := 25, slot := 0, constantValue := 0 }, { name := "AIOOBE_FORMATTER", type := (.object "java/util/function/BiFunction"), accessFlags := 25, slot := 1, constantValue := 0 }, { name := "IOOBE_FORMATTER", type := (.object "java/util/function/BiFunction"), accessFlags := 25, slot := 2, constantValue := 0 }]
  methods := #[k19m0, k19m1]
  instanceTypes := #[]
  staticTypes := #[(.object "java/util/function/BiFunction"), (.object "java/util/function/BiFunction"), (.object "java/util/function/BiFunction")]
  resolved := Array.replicate 194 none
  statics := some 1 }

def pool20 : Array CpInfo := pool [(9, u "<init>"), (6, .class_ 18), (1, u "java/lang/Object"), (0, u "()V"), (1, .class_ 23), (1, u "jdk/internal/util/ArraysSupport"), (0, u "LOG2_ARRAY_LONG_INDEX_SCALE"), (0, u "I"), (2, u "U"), (0, u "Ljdk/internal/misc/Unsafe;"), (8, u "BIG_ENDIAN"), (0, u "Z"), (8, u "LOG2_BYTE_BIT_SIZE"), (4, u "LOG2_ARRAY_INT_INDEX_SCALE"), (54, u "JLA"), (0, u "Ljdk/internal/access/JavaLangAccess;"), (11, u "LOG2_ARRAY_BOOLEAN_INDEX_SCALE"), (9, u "LOG2_ARRAY_BYTE_INDEX_SCALE"), (5, u "LOG2_ARRAY_CHAR_INDEX_SCALE"), (5, u "LOG2_ARRAY_SHORT_INDEX_SCALE"), (18, u "LOG2_ARRAY_FLOAT_INDEX_SCALE"), (24, u "LOG2_ARRAY_DOUBLE_INDEX_SCALE"), (89, u "T_BOOLEAN"), (2, u "T_CHAR"), (1, u "T_FLOAT"), (1, u "T_DOUBLE"), (1, u "T_BYTE"), (1, u "T_SHORT"), (1, u "T_INT"), (1, u "T_LONG"), (1, u "SOFT_MAX_ARRAY_LENGTH")] 83

def k20m0 : Method := { name := "<init>", desc := "()V", sig := { parameters := [], returnType := none }, accessFlags := 2, code := none }
/-- jdk/internal/util/ArraysSupport -/
def k20 : Class := { plain "jdk/internal/util/ArraysSupport" (some 0) with
  accessFlags := 33
  interfaces := #[]
  cf := some (fileOf pool20 21 #[] #[{ accessFlags := 2, nameIndex := 9, descriptorIndex := 19, attributes := #[] }] 33 16 #[] #[{ accessFlags := 24, nameIndex := 28, descriptorIndex := 29, attributes := #[] }, { accessFlags := 26, nameIndex := 38, descriptorIndex := 39, attributes := #[] }, { accessFlags := 25, nameIndex := 121, descriptorIndex := 25, attributes := #[] }, { accessFlags := 25, nameIndex := 131, descriptorIndex := 25, attributes := #[] }, { accessFlags := 25, nameIndex := 137, descriptorIndex := 25, attributes := #[] }, { accessFlags := 25, nameIndex := 143, descriptorIndex := 25, attributes := #[] }, { accessFlags := 25, nameIndex := 53, descriptorIndex := 25, attributes := #[] }, { accessFlags := 25, nameIndex := 24, descriptorIndex := 25, attributes := #[] }, { accessFlags := 25, nameIndex := 162, descriptorIndex := 25, attributes := #[] }, { accessFlags := 25, nameIndex := 187, descriptorIndex := 25, attributes := #[] }, { accessFlags := 26, nameIndex := 48, descriptorIndex := 25, attributes := #[] }, { accessFlags := 25, nameIndex := 277, descriptorIndex := 25, attributes := #[] }, { accessFlags := 25, nameIndex := 280, descriptorIndex := 25, attributes := #[] }, { accessFlags := 25, nameIndex := 282, descriptorIndex := 25, attributes := #[] }, { accessFlags := 25, nameIndex := 284, descriptorIndex := 25, attributes := #[] }, { accessFlags := 25, nameIndex := 286, descriptorIndex := 25, attributes := #[] }, { accessFlags := 25, nameIndex := 288, descriptorIndex := 25, attributes := #[] }, { accessFlags := 25, nameIndex := 290, descriptorIndex := 25, attributes := #[] }, { accessFlags := 25, nameIndex := 292, descriptorIndex := 25, attributes := #[] }, { accessFlags := 26, nameIndex := 108, descriptorIndex := 109, attributes := #[] }, { accessFlags := 25, nameIndex := 294, descriptorIndex := 25, attributes := #[] }])
  fields := #[{ name := "U", type := (.object "jdk/internal/misc/Unsafe"), accessFlags := 24, slot := 0, constantValue := 0 }, { name := "BIG_ENDIAN", type := .boolean, accessFlags := 26, slot := 1, constantValue := 0 }, { name := "LOG2_ARRAY_BOOLEAN_INDEX_SCALE", type := .int, accessFlags := 25, slot := 2, constantValue := 0 }, { name := "LOG2_ARRAY_BYTE_INDEX_SCALE", type := .int, accessFlags := 25, slot := 3, constantValue := 0 }, { name := "LOG2_ARRAY_CHAR_INDEX_SCALE", type := .int, accessFlags := 25, slot := 4, constantValue := 0 }, { name := "LOG2_ARRAY_SHORT_INDEX_SCALE", type := .int, accessFlags := 25, slot := 5, constantValue := 0 }, { name := "LOG2_ARRAY_INT_INDEX_SCALE", type := .int, accessFlags := 25, slot := 6, constantValue := 0 }, { name := "LOG2_ARRAY_LONG_INDEX_SCALE", type := .int, accessFlags := 25, slot := 7, constantValue := 0 }, { name := "LOG2_ARRAY_FLOAT_INDEX_SCALE", type := .int, accessFlags := 25, slot := 8, constantValue := 0 }, { name := "LOG2_ARRAY_DOUBLE_INDEX_SCALE", type := .int, accessFlags := 25, slot := 9, constantValue := 0 }, { name := "LOG2_BYTE_BIT_SIZE", type := .int, accessFlags := 26, slot := 10, constantValue := 0 }, { name := "T_BOOLEAN", type := .int, accessFlags := 25, slot := 11, constantValue := 0 }, { name := "T_CHAR", type := .int, accessFlags := 25, slot := 12, constantValue := 0 }, { name := "T_FLOAT", type := .int, accessFlags := 25, slot := 13, constantValue := 0 }, { name := "T_DOUBLE", type := .int, accessFlags := 25, slot := 14, constantValue := 0 }, { name := "T_BYTE", type := .int, accessFlags := 25, slot := 15, constantValue := 0 }, { name := "T_SHORT", type := .int, accessFlags := 25, slot := 16, constantValue := 0 }, { name := "T_INT", type := .int, accessFlags := 25, slot := 17, constantValue := 0 }, { name := "T_LONG", type := .int, accessFlags := 25, slot := 18, constantValue := 0 }, { name := "JLA", type := (.object "jdk/internal/access/JavaLangAccess"), accessFlags := 26, slot := 19, constantValue := 0 }, { name := "SOFT_MAX_ARRAY_LENGTH", type := .int, accessFlags := 25, slot := 20, constantValue := 0 }]
  methods := #[k20m0]
  instanceTypes := #[]
  staticTypes := #[(.object "jdk/internal/misc/Unsafe"), .boolean, .int, .int, .int, .int, .int, .int, .int, .int, .int, .int, .int, .int, .int, .int, .int, .int, .int, (.object "jdk/internal/access/JavaLangAccess"), .int]
  resolved := Array.replicate 378 none
  statics := none }

def pool21 : Array CpInfo := pool [(1, u "java/lang/Cloneable"), (0, .class_ 1), (0, u "java/lang/Object"), (0, .class_ 3)] 3

/-- java/lang/Cloneable -/
def k21 : Class := { plain "java/lang/Cloneable" (some 0) with
  accessFlags := 1537
  interfaces := #[]
  cf := some (fileOf pool21 2 #[] #[] 1537 4 #[] #[])
  fields := #[]
  methods := #[]
  instanceTypes := #[]
  staticTypes := #[]
  resolved := Array.replicate 8 none
  statics := none }

/-- the primitive byte -/
def k22 : Class := { plain "byte" none with kind := .primitive 'B', accessFlags := 0x411 }
/-- [B -/
def k23 : Class := { plain "[B" (some 0) with kind := .array 22 .byte, interfaces := #[21, 2], accessFlags := 1041 }

/-- the primitive char -/
def k24 : Class := { plain "char" none with kind := .primitive 'C', accessFlags := 0x411 }
/-- [C -/
def k25 : Class := { plain "[C" (some 0) with kind := .array 24 .char, interfaces := #[21, 2], accessFlags := 1041 }

/-- the primitive int -/
def k26 : Class := { plain "int" none with kind := .primitive 'I', accessFlags := 0x411 }
/-- [I -/
def k27 : Class := { plain "[I" (some 0) with kind := .array 26 .int, interfaces := #[21, 2], accessFlags := 1041 }

def heap : Heap := #[{ cls := 7, slots := #[.long 0, .int 1, .null, .int 0, .null, .int 0, .int 0], vm := .statics 7 },
  { cls := 19, slots := #[.null, .null, .null], vm := .statics 19 }]
def classes : Array Class := #[k0, k1, k2, k3, k4, k5, k6, k7, k8, k9, k10, k11, k12, k13, k14, k15, k16, k17, k18, k19, k20, k21, k22, k23, k24, k25, k26, k27]
def interned : List (Array UInt16 × Addr) := []
def slotsUsed : Nat := 10
def theMethod : MethodId := ⟨1, 3⟩
def args0 : Array Value := #[.int 5, .int 5, .int 5]
def aboutOver (below : List Frame) : State where
  vm := { classes := classes, interned := interned.toArray }
  heap := heap
  slotsUsed := slotsUsed
  threads := #[{ frames := .invoking theMethod args0 :: below }]
def below0 : List Frame := [.native { method := ⟨0, 0⟩, args := #[] }]
def about1 : State := aboutOver below0
def p0 : Program := .bare "" "" ""
def e0 : Env := launch0.env 0 0 0
theorem w_frames : about1.frames = Frame.invoking theMethod args0 :: below0 := rfl
set_option maxRecDepth 65536 in
theorem w_args : argsFit about1.vm theMethod args0 = true := by decide +kernel
set_option maxRecDepth 65536 in
theorem w_heap : heapFits about1 = true := by decide +kernel
set_option maxRecDepth 65536 in
theorem w_runnable : about1.curStatus? = some .runnable := by decide +kernel
set_option maxRecDepth 65536 in
theorem w_alone : about1.alone = true := by decide +kernel
set_option maxRecDepth 65536 in
theorem w_named : about1.methodNamed? x = some theMethod := by decide +kernel
set_option maxRecDepth 65536 in
theorem w_hears : about1.hears theMethod below0 = true := by decide +kernel
set_option maxRecDepth 65536 in
theorem w_ripe : about1.ripe theMethod args0 below0 = true := by decide +kernel
theorem w_running : about1.status = .running := rfl
set_option maxRecDepth 65536 in
theorem w_room : about1.hasRoom e0.platform room_1 = true :=
  launch0.hasRoom_least _ room_1 (by decide +kernel) (by decide +kernel) (by decide +kernel) (by decide +kernel) (by decide +kernel) (by decide +kernel)
theorem allAtoms_all (ts : List Jvm.Cond) (a : Array Jvm.Value) (st : Jvm.State) : (allAtoms ts).before a st = ts.all (fun c => c.before a st) := by
  induction ts with
  | nil => rfl
  | cons c t ih =>
    show (Jvm.Cond.and c (allAtoms t)).before a st = _
    rw [Jvm.Cond.before_and, ih, List.all_cons]
def words1 : List Jvm.Cond := Jvm.Cond.code x code maxLocals ret :: tables_1
/-- a 'code' word, met by the world's own term for the bytes: nothing is compared byte by byte -/
theorem code_word {y : MethodName} {bytes : ByteArray} {mx : Nat} {rt : Option FieldType} {a : Array Value} {s : State} {m : MethodId} {meth : Method} {c : Code} (h1 : s.methodNamed? y = some m) (h2 : s.vm.method? m = some meth) (h3 : meth.code = some c) (h4 : c.code = bytes)
    (h5 : (c.maxLocals == mx && c.exceptionTable.isEmpty && decide (c.maxStack ≤ mostOperands) && decide (meth.sig.returnType = rt) && !meth.locks && decide (parseMethodDescriptor y.desc = some meth.sig)) = true) : (Jvm.Cond.code y bytes mx rt).before a s = true := by
  simp only [Bool.and_eq_true, beq_iff_eq, Bool.not_eq_true', decide_eq_true_eq] at h5
  obtain ⟨⟨⟨⟨⟨g1, g2⟩, g3⟩, g4⟩, g5⟩, g6⟩ := h5
  simp [Cond.before, Cond.holds, Cond.value, h1, h2, h3, h4, g1, g2, g3, g4, g5, g6]
def isCode : Jvm.Cond → Bool
  | .code _ _ _ _ => true
  | _ => false
theorem all_split {L : List Jvm.Cond} {P : Jvm.Cond → Bool} (h1 : L.all (fun c => isCode c || P c) = true) (h2 : ∀ c ∈ L.filter isCode, P c = true) : L.all P = true := by
  refine List.all_eq_true.mpr fun c hc => ?_
  have h := List.all_eq_true.mp h1 c hc
  rcases Bool.eq_false_or_eq_true (isCode c) with hi | hi
  · exact h2 c (List.mem_filter.mpr ⟨hc, hi⟩)
  · simpa [hi] using h
set_option maxRecDepth 65536 in
theorem w_c0 : (Jvm.Cond.code x code maxLocals ret).before args0 about1 = true := code_word (m := ⟨1, 3⟩) (meth := k1m3) (c := k1c3) (by decide +kernel) rfl rfl rfl (by decide +kernel)
set_option maxRecDepth 65536 in
theorem w_c1 : (Jvm.Cond.code ({ cls := "com/example/shoalwork/shoalwork/task/TaskSpecToStringPinLaw", name := "kindChar", desc := "(I)C" } : Jvm.MethodName) method_2_code (2 : Nat) (Option.some Jvm.ClassFile.FieldType.char)).before args0 about1 = true := code_word (m := ⟨1, 1⟩) (meth := k1m1) (c := k1c1) (by decide +kernel) rfl rfl rfl (by decide +kernel)
set_option maxRecDepth 65536 in
theorem w_c2 : (Jvm.Cond.code ({ cls := "com/example/shoalwork/shoalwork/task/TaskSpecToStringPinLaw", name := "make", desc := "(ICC)Ljava/lang/String;" } : Jvm.MethodName) method_3_code (4 : Nat) (Option.some (Jvm.ClassFile.FieldType.object "java/lang/String"))).before args0 about1 = true := code_word (m := ⟨1, 2⟩) (meth := k1m2) (c := k1c2) (by decide +kernel) rfl rfl rfl (by decide +kernel)
set_option maxRecDepth 65536 in
theorem w_c3 : (Jvm.Cond.code ({ cls := "java/lang/String", name := "<init>", desc := "([C)V" } : Jvm.MethodName) jdk_42_method_3_code (2 : Nat) (Option.none : Option Jvm.ClassFile.FieldType)).before args0 about1 = true := code_word (m := ⟨7, 1⟩) (meth := k7m1) (c := k7c1) (by decide +kernel) rfl rfl rfl (by decide +kernel)
set_option maxRecDepth 65536 in
theorem w_c4 : (Jvm.Cond.code ({ cls := "java/lang/String", name := "<init>", desc := "([CIILjava/lang/Void;)V" } : Jvm.MethodName) jdk_42_method_149_code (6 : Nat) (Option.none : Option Jvm.ClassFile.FieldType)).before args0 about1 = true := code_word (m := ⟨7, 9⟩) (meth := k7m9) (c := k7c9) (by decide +kernel) rfl rfl rfl (by decide +kernel)
set_option maxRecDepth 65536 in
theorem w_c5 : (Jvm.Cond.code ({ cls := "java/lang/Object", name := "<init>", desc := "()V" } : Jvm.MethodName) object_method_1_code (1 : Nat) (Option.none : Option Jvm.ClassFile.FieldType)).before args0 about1 = true := code_word (m := ⟨0, 0⟩) (meth := k0m0) (c := k0c0) (by decide +kernel) rfl rfl rfl (by decide +kernel)
set_option maxRecDepth 65536 in
theorem w_c6 : (Jvm.Cond.code ({ cls := "java/lang/StringUTF16", name := "compress", desc := "([CII)[B" } : Jvm.MethodName) jdk_52_method_16_code (6 : Nat) (Option.some (Jvm.ClassFile.FieldType.array Jvm.ClassFile.FieldType.byte))).before args0 about1 = true := code_word (m := ⟨8, 2⟩) (meth := k8m2) (c := k8c2) (by decide +kernel) rfl rfl rfl (by decide +kernel)
set_option maxRecDepth 65536 in
theorem w_c7 : (Jvm.Cond.code ({ cls := "java/lang/StringUTF16", name := "compress", desc := "([CI[BII)I" } : Jvm.MethodName) jdk_52_method_21_code (7 : Nat) (Option.some Jvm.ClassFile.FieldType.int)).before args0 about1 = true := code_word (m := ⟨8, 3⟩) (meth := k8m3) (c := k8c3) (by decide +kernel) rfl rfl rfl (by decide +kernel)
set_option maxRecDepth 65536 in
theorem w_c8 : (Jvm.Cond.code ({ cls := "java/lang/StringUTF16", name := "coderFromArrayLen", desc := "([BI)B" } : Jvm.MethodName) jdk_52_method_15_code (2 : Nat) (Option.some Jvm.ClassFile.FieldType.byte)).before args0 about1 = true := code_word (m := ⟨8, 1⟩) (meth := k8m1) (c := k8c1) (by decide +kernel) rfl rfl rfl (by decide +kernel)
set_option maxRecDepth 65536 in
theorem w_c9 : (Jvm.Cond.code ({ cls := "com/example/shoalwork/shoalwork/task/TaskSpec", name := "<init>", desc := "(Ljava/lang/String;Ljava/lang/String;)V" } : Jvm.MethodName) prog_31_method_1_code (3 : Nat) (Option.none : Option Jvm.ClassFile.FieldType)).before args0 about1 = true := code_word (m := ⟨10, 0⟩) (meth := k10m0) (c := k10c0) (by decide +kernel) rfl rfl rfl (by decide +kernel)
set_option maxRecDepth 65536 in
theorem w_c10 : (Jvm.Cond.code ({ cls := "java/lang/Record", name := "<init>", desc := "()V" } : Jvm.MethodName) jdk_30_method_1_code (1 : Nat) (Option.none : Option Jvm.ClassFile.FieldType)).before args0 about1 = true := code_word (m := ⟨9, 0⟩) (meth := k9m0) (c := k9c0) (by decide +kernel) rfl rfl rfl (by decide +kernel)
set_option maxRecDepth 65536 in
theorem w_c11 : (Jvm.Cond.code ({ cls := "java/util/Objects", name := "requireNonNull", desc := "(Ljava/lang/Object;Ljava/lang/String;)Ljava/lang/Object;" } : Jvm.MethodName) jdk_31_method_11_code (2 : Nat) (Option.some (Jvm.ClassFile.FieldType.object "java/lang/Object"))).before args0 about1 = true := code_word (m := ⟨11, 1⟩) (meth := k11m1) (c := k11c1) (by decide +kernel) rfl rfl rfl (by decide +kernel)
set_option maxRecDepth 65536 in
theorem w_c12 : (Jvm.Cond.code ({ cls := "java/lang/String", name := "isEmpty", desc := "()Z" } : Jvm.MethodName) jdk_42_method_55_code (1 : Nat) (Option.some Jvm.ClassFile.FieldType.boolean)).before args0 about1 = true := code_word (m := ⟨7, 4⟩) (meth := k7m4) (c := k7c4) (by decide +kernel) rfl rfl rfl (by decide +kernel)
set_option maxRecDepth 65536 in
theorem w_c13 : (Jvm.Cond.code ({ cls := "java/lang/String", name := "indexOf", desc := "(I)I" } : Jvm.MethodName) jdk_42_method_79_code (2 : Nat) (Option.some Jvm.ClassFile.FieldType.int)).before args0 about1 = true := code_word (m := ⟨7, 6⟩) (meth := k7m6) (c := k7c6) (by decide +kernel) rfl rfl rfl (by decide +kernel)
set_option maxRecDepth 65536 in
theorem w_c14 : (Jvm.Cond.code ({ cls := "java/lang/String", name := "indexOf", desc := "(II)I" } : Jvm.MethodName) jdk_42_method_80_code (3 : Nat) (Option.some Jvm.ClassFile.FieldType.int)).before args0 about1 = true := code_word (m := ⟨7, 7⟩) (meth := k7m7) (c := k7c7) (by decide +kernel) rfl rfl rfl (by decide +kernel)
set_option maxRecDepth 65536 in
theorem w_c15 : (Jvm.Cond.code ({ cls := "java/lang/String", name := "isLatin1", desc := "()Z" } : Jvm.MethodName) jdk_42_method_154_code (1 : Nat) (Option.some Jvm.ClassFile.FieldType.boolean)).before args0 about1 = true := code_word (m := ⟨7, 12⟩) (meth := k7m12) (c := k7c12) (by decide +kernel) rfl rfl rfl (by decide +kernel)
set_option maxRecDepth 65536 in
theorem w_c16 : (Jvm.Cond.code ({ cls := "java/lang/String", name := "length", desc := "()I" } : Jvm.MethodName) jdk_42_method_54_code (1 : Nat) (Option.some Jvm.ClassFile.FieldType.int)).before args0 about1 = true := code_word (m := ⟨7, 3⟩) (meth := k7m3) (c := k7c3) (by decide +kernel) rfl rfl rfl (by decide +kernel)
set_option maxRecDepth 65536 in
theorem w_c17 : (Jvm.Cond.code ({ cls := "java/lang/String", name := "coder", desc := "()B" } : Jvm.MethodName) jdk_42_method_152_code (1 : Nat) (Option.some Jvm.ClassFile.FieldType.byte)).before args0 about1 = true := code_word (m := ⟨7, 11⟩) (meth := k7m11) (c := k7c11) (by decide +kernel) rfl rfl rfl (by decide +kernel)
set_option maxRecDepth 65536 in
theorem w_c18 : (Jvm.Cond.code ({ cls := "java/lang/StringLatin1", name := "indexOf", desc := "([BIII)I" } : Jvm.MethodName) jdk_43_method_22_code (4 : Nat) (Option.some Jvm.ClassFile.FieldType.int)).before args0 about1 = true := code_word (m := ⟨12, 3⟩) (meth := k12m3) (c := k12c3) (by decide +kernel) rfl rfl rfl (by decide +kernel)
set_option maxRecDepth 65536 in
theorem w_c19 : (Jvm.Cond.code ({ cls := "java/lang/StringLatin1", name := "canEncode", desc := "(I)Z" } : Jvm.MethodName) jdk_43_method_4_code (1 : Nat) (Option.some Jvm.ClassFile.FieldType.boolean)).before args0 about1 = true := code_word (m := ⟨12, 2⟩) (meth := k12m2) (c := k12c2) (by decide +kernel) rfl rfl rfl (by decide +kernel)
set_option maxRecDepth 65536 in
theorem w_c20 : (Jvm.Cond.code ({ cls := "java/lang/Math", name := "max", desc := "(II)I" } : Jvm.MethodName) jdk_29_method_65_code (2 : Nat) (Option.some Jvm.ClassFile.FieldType.int)).before args0 about1 = true := code_word (m := ⟨13, 1⟩) (meth := k13m1) (c := k13c1) (by decide +kernel) rfl rfl rfl (by decide +kernel)
set_option maxRecDepth 65536 in
theorem w_c21 : (Jvm.Cond.code ({ cls := "java/lang/Math", name := "min", desc := "(II)I" } : Jvm.MethodName) jdk_29_method_69_code (2 : Nat) (Option.some Jvm.ClassFile.FieldType.int)).before args0 about1 = true := code_word (m := ⟨13, 2⟩) (meth := k13m2) (c := k13c2) (by decide +kernel) rfl rfl rfl (by decide +kernel)
set_option maxRecDepth 65536 in
theorem w_c22 : (Jvm.Cond.code ({ cls := "java/lang/StringLatin1", name := "indexOfChar", desc := "([BIII)I" } : Jvm.MethodName) jdk_43_method_23_code (6 : Nat) (Option.some Jvm.ClassFile.FieldType.int)).before args0 about1 = true := code_word (m := ⟨12, 4⟩) (meth := k12m4) (c := k12c4) (by decide +kernel) rfl rfl rfl (by decide +kernel)
set_option maxRecDepth 65536 in
theorem w_c23 : (Jvm.Cond.code ({ cls := "com/example/shoalwork/shoalwork/task/TaskSpec", name := "toString", desc := "()Ljava/lang/String;" } : Jvm.MethodName) prog_31_method_3_code (1 : Nat) (Option.some (Jvm.ClassFile.FieldType.object "java/lang/String"))).before args0 about1 = true := code_word (m := ⟨10, 1⟩) (meth := k10m1) (c := k10c1) (by decide +kernel) rfl rfl rfl (by decide +kernel)
set_option maxRecDepth 65536 in
theorem w_c24 : (Jvm.Cond.code ({ cls := "java/lang/StringBuilder", name := "<init>", desc := "()V" } : Jvm.MethodName) jdk_67_method_1_code (1 : Nat) (Option.none : Option Jvm.ClassFile.FieldType)).before args0 about1 = true := code_word (m := ⟨16, 0⟩) (meth := k16m0) (c := k16c0) (by decide +kernel) rfl rfl rfl (by decide +kernel)
set_option maxRecDepth 65536 in
theorem w_c25 : (Jvm.Cond.code ({ cls := "java/lang/AbstractStringBuilder", name := "<init>", desc := "(I)V" } : Jvm.MethodName) jdk_68_method_2_code (2 : Nat) (Option.none : Option Jvm.ClassFile.FieldType)).before args0 about1 = true := code_word (m := ⟨15, 1⟩) (meth := k15m1) (c := k15c1) (by decide +kernel) rfl rfl rfl (by decide +kernel)
set_option maxRecDepth 65536 in
theorem w_c26 : (Jvm.Cond.code ({ cls := "java/lang/StringBuilder", name := "append", desc := "(Ljava/lang/String;)Ljava/lang/StringBuilder;" } : Jvm.MethodName) jdk_67_method_7_code (2 : Nat) (Option.some (Jvm.ClassFile.FieldType.object "java/lang/StringBuilder"))).before args0 about1 = true := code_word (m := ⟨16, 1⟩) (meth := k16m1) (c := k16c1) (by decide +kernel) rfl rfl rfl (by decide +kernel)
set_option maxRecDepth 65536 in
theorem w_c27 : (Jvm.Cond.code ({ cls := "java/lang/AbstractStringBuilder", name := "append", desc := "(Ljava/lang/String;)Ljava/lang/AbstractStringBuilder;" } : Jvm.MethodName) jdk_68_method_22_code (3 : Nat) (Option.some (Jvm.ClassFile.FieldType.object "java/lang/AbstractStringBuilder"))).before args0 about1 = true := code_word (m := ⟨15, 4⟩) (meth := k15m4) (c := k15c4) (by decide +kernel) rfl rfl rfl (by decide +kernel)
set_option maxRecDepth 65536 in
theorem w_c28 : (Jvm.Cond.code ({ cls := "java/lang/AbstractStringBuilder", name := "ensureCapacityInternal", desc := "(I)V" } : Jvm.MethodName) jdk_68_method_9_code (3 : Nat) (Option.none : Option Jvm.ClassFile.FieldType)).before args0 about1 = true := code_word (m := ⟨15, 3⟩) (meth := k15m3) (c := k15c3) (by decide +kernel) rfl rfl rfl (by decide +kernel)
set_option maxRecDepth 65536 in
theorem w_c29 : (Jvm.Cond.code ({ cls := "java/lang/AbstractStringBuilder", name := "putStringAt", desc := "(ILjava/lang/String;)V" } : Jvm.MethodName) jdk_68_method_73_code (3 : Nat) (Option.none : Option Jvm.ClassFile.FieldType)).before args0 about1 = true := code_word (m := ⟨15, 8⟩) (meth := k15m8) (c := k15c8) (by decide +kernel) rfl rfl rfl (by decide +kernel)
set_option maxRecDepth 65536 in
theorem w_c30 : (Jvm.Cond.code ({ cls := "java/lang/AbstractStringBuilder", name := "inflateIfNeededFor", desc := "(Ljava/lang/String;)V" } : Jvm.MethodName) jdk_68_method_71_code (2 : Nat) (Option.none : Option Jvm.ClassFile.FieldType)).before args0 about1 = true := code_word (m := ⟨15, 7⟩) (meth := k15m7) (c := k15c7) (by decide +kernel) rfl rfl rfl (by decide +kernel)
set_option maxRecDepth 65536 in
theorem w_c31 : (Jvm.Cond.code ({ cls := "java/lang/String", name := "getBytes", desc := "([BIB)V" } : Jvm.MethodName) jdk_42_method_147_code (4 : Nat) (Option.none : Option Jvm.ClassFile.FieldType)).before args0 about1 = true := code_word (m := ⟨7, 8⟩) (meth := k7m8) (c := k7c8) (by decide +kernel) rfl rfl rfl (by decide +kernel)
set_option maxRecDepth 65536 in
theorem w_c32 : (Jvm.Cond.code ({ cls := "java/lang/StringBuilder", name := "toString", desc := "()Ljava/lang/String;" } : Jvm.MethodName) jdk_67_method_42_code (1 : Nat) (Option.some (Jvm.ClassFile.FieldType.object "java/lang/String"))).before args0 about1 = true := code_word (m := ⟨16, 2⟩) (meth := k16m2) (c := k16c2) (by decide +kernel) rfl rfl rfl (by decide +kernel)
set_option maxRecDepth 65536 in
theorem w_c33 : (Jvm.Cond.code ({ cls := "java/lang/String", name := "<init>", desc := "(Ljava/lang/StringBuilder;)V" } : Jvm.MethodName) jdk_42_method_53_code (2 : Nat) (Option.none : Option Jvm.ClassFile.FieldType)).before args0 about1 = true := code_word (m := ⟨7, 2⟩) (meth := k7m2) (c := k7c2) (by decide +kernel) rfl rfl rfl (by decide +kernel)
set_option maxRecDepth 65536 in
theorem w_c34 : (Jvm.Cond.code ({ cls := "java/lang/String", name := "<init>", desc := "(Ljava/lang/AbstractStringBuilder;Ljava/lang/Void;)V" } : Jvm.MethodName) jdk_42_method_150_code (5 : Nat) (Option.none : Option Jvm.ClassFile.FieldType)).before args0 about1 = true := code_word (m := ⟨7, 10⟩) (meth := k7m10) (c := k7c10) (by decide +kernel) rfl rfl rfl (by decide +kernel)
set_option maxRecDepth 65536 in
theorem w_c35 : (Jvm.Cond.code ({ cls := "java/lang/AbstractStringBuilder", name := "getValue", desc := "()[B" } : Jvm.MethodName) jdk_68_method_64_code (1 : Nat) (Option.some (Jvm.ClassFile.FieldType.array Jvm.ClassFile.FieldType.byte))).before args0 about1 = true := code_word (m := ⟨15, 5⟩) (meth := k15m5) (c := k15c5) (by decide +kernel) rfl rfl rfl (by decide +kernel)
set_option maxRecDepth 65536 in
theorem w_c36 : (Jvm.Cond.code ({ cls := "java/lang/StringBuilder", name := "length", desc := "()I" } : Jvm.MethodName) jdk_67_method_93_code (1 : Nat) (Option.some Jvm.ClassFile.FieldType.int)).before args0 about1 = true := code_word (m := ⟨16, 3⟩) (meth := k16m3) (c := k16c3) (by decide +kernel) rfl rfl rfl (by decide +kernel)
set_option maxRecDepth 65536 in
theorem w_c37 : (Jvm.Cond.code ({ cls := "java/lang/AbstractStringBuilder", name := "length", desc := "()I" } : Jvm.MethodName) jdk_68_method_6_code (1 : Nat) (Option.some Jvm.ClassFile.FieldType.int)).before args0 about1 = true := code_word (m := ⟨15, 2⟩) (meth := k15m2) (c := k15c2) (by decide +kernel) rfl rfl rfl (by decide +kernel)
set_option maxRecDepth 65536 in
theorem w_c38 : (Jvm.Cond.code ({ cls := "java/lang/AbstractStringBuilder", name := "isLatin1", desc := "()Z" } : Jvm.MethodName) jdk_68_method_68_code (1 : Nat) (Option.some Jvm.ClassFile.FieldType.boolean)).before args0 about1 = true := code_word (m := ⟨15, 6⟩) (meth := k15m6) (c := k15c6) (by decide +kernel) rfl rfl rfl (by decide +kernel)
set_option maxRecDepth 65536 in
theorem w_c39 : (Jvm.Cond.code ({ cls := "java/util/Arrays", name := "copyOfRange", desc := "([BII)[B" } : Jvm.MethodName) jdk_65_method_132_code (3 : Nat) (Option.some (Jvm.ClassFile.FieldType.array Jvm.ClassFile.FieldType.byte))).before args0 about1 = true := code_word (m := ⟨18, 2⟩) (meth := k18m2) (c := k18c2) (by decide +kernel) rfl rfl rfl (by decide +kernel)
set_option maxRecDepth 65536 in
theorem w_c40 : (Jvm.Cond.code ({ cls := "java/util/Arrays", name := "copyOfRangeByte", desc := "([BII)[B" } : Jvm.MethodName) jdk_65_method_133_code (5 : Nat) (Option.some (Jvm.ClassFile.FieldType.array Jvm.ClassFile.FieldType.byte))).before args0 about1 = true := code_word (m := ⟨18, 3⟩) (meth := k18m3) (c := k18c3) (by decide +kernel) rfl rfl rfl (by decide +kernel)
set_option maxRecDepth 65536 in
theorem w_c41 : (Jvm.Cond.code ({ cls := "java/util/Arrays", name := "checkLength", desc := "(II)V" } : Jvm.MethodName) jdk_65_method_131_code (2 : Nat) (Option.none : Option Jvm.ClassFile.FieldType)).before args0 about1 = true := code_word (m := ⟨18, 1⟩) (meth := k18m1) (c := k18c1) (by decide +kernel) rfl rfl rfl (by decide +kernel)
set_option maxRecDepth 65536 in
theorem w_c42 : (Jvm.Cond.code ({ cls := "java/lang/String", name := "charAt", desc := "(I)C" } : Jvm.MethodName) jdk_42_method_56_code (2 : Nat) (Option.some Jvm.ClassFile.FieldType.char)).before args0 about1 = true := code_word (m := ⟨7, 5⟩) (meth := k7m5) (c := k7c5) (by decide +kernel) rfl rfl rfl (by decide +kernel)
set_option maxRecDepth 65536 in
theorem w_c43 : (Jvm.Cond.code ({ cls := "java/lang/StringLatin1", name := "charAt", desc := "([BI)C" } : Jvm.MethodName) jdk_43_method_2_code (2 : Nat) (Option.some Jvm.ClassFile.FieldType.char)).before args0 about1 = true := code_word (m := ⟨12, 1⟩) (meth := k12m1) (c := k12c1) (by decide +kernel) rfl rfl rfl (by decide +kernel)
set_option maxRecDepth 65536 in
theorem w_c44 : (Jvm.Cond.code ({ cls := "java/lang/String", name := "checkIndex", desc := "(II)V" } : Jvm.MethodName) jdk_42_method_155_code (2 : Nat) (Option.none : Option Jvm.ClassFile.FieldType)).before args0 about1 = true := code_word (m := ⟨7, 13⟩) (meth := k7m13) (c := k7c13) (by decide +kernel) rfl rfl rfl (by decide +kernel)
set_option maxRecDepth 65536 in
theorem w_c45 : (Jvm.Cond.code ({ cls := "jdk/internal/util/Preconditions", name := "checkIndex", desc := "(IILjava/util/function/BiFunction;)I" } : Jvm.MethodName) jdk_41_method_11_code (3 : Nat) (Option.some Jvm.ClassFile.FieldType.int)).before args0 about1 = true := code_word (m := ⟨19, 1⟩) (meth := k19m1) (c := k19c1) (by decide +kernel) rfl rfl rfl (by decide +kernel)
def codes1 : List Jvm.Cond := [Jvm.Cond.code x code maxLocals ret, Jvm.Cond.code ({ cls := "com/example/shoalwork/shoalwork/task/TaskSpecToStringPinLaw", name := "kindChar", desc := "(I)C" } : Jvm.MethodName) method_2_code (2 : Nat) (Option.some Jvm.ClassFile.FieldType.char), Jvm.Cond.code ({ cls := "com/example/shoalwork/shoalwork/task/TaskSpecToStringPinLaw", name := "make", desc := "(ICC)Ljava/lang/String;" } : Jvm.MethodName) method_3_code (4 : Nat) (Option.some (Jvm.ClassFile.FieldType.object "java/lang/String")), Jvm.Cond.code ({ cls := "java/lang/String", name := "<init>", desc := "([C)V" } : Jvm.MethodName) jdk_42_method_3_code (2 : Nat) (Option.none : Option Jvm.ClassFile.FieldType), Jvm.Cond.code ({ cls := "java/lang/String", name := "<init>", desc := "([CIILjava/lang/Void;)V" } : Jvm.MethodName) jdk_42_method_149_code (6 : Nat) (Option.none : Option Jvm.ClassFile.FieldType), Jvm.Cond.code ({ cls := "java/lang/Object", name := "<init>", desc := "()V" } : Jvm.MethodName) object_method_1_code (1 : Nat) (Option.none : Option Jvm.ClassFile.FieldType), Jvm.Cond.code ({ cls := "java/lang/StringUTF16", name := "compress", desc := "([CII)[B" } : Jvm.MethodName) jdk_52_method_16_code (6 : Nat) (Option.some (Jvm.ClassFile.FieldType.array Jvm.ClassFile.FieldType.byte)), Jvm.Cond.code ({ cls := "java/lang/StringUTF16", name := "compress", desc := "([CI[BII)I" } : Jvm.MethodName) jdk_52_method_21_code (7 : Nat) (Option.some Jvm.ClassFile.FieldType.int), Jvm.Cond.code ({ cls := "java/lang/StringUTF16", name := "coderFromArrayLen", desc := "([BI)B" } : Jvm.MethodName) jdk_52_method_15_code (2 : Nat) (Option.some Jvm.ClassFile.FieldType.byte), Jvm.Cond.code ({ cls := "com/example/shoalwork/shoalwork/task/TaskSpec", name := "<init>", desc := "(Ljava/lang/String;Ljava/lang/String;)V" } : Jvm.MethodName) prog_31_method_1_code (3 : Nat) (Option.none : Option Jvm.ClassFile.FieldType), Jvm.Cond.code ({ cls := "java/lang/Record", name := "<init>", desc := "()V" } : Jvm.MethodName) jdk_30_method_1_code (1 : Nat) (Option.none : Option Jvm.ClassFile.FieldType), Jvm.Cond.code ({ cls := "java/util/Objects", name := "requireNonNull", desc := "(Ljava/lang/Object;Ljava/lang/String;)Ljava/lang/Object;" } : Jvm.MethodName) jdk_31_method_11_code (2 : Nat) (Option.some (Jvm.ClassFile.FieldType.object "java/lang/Object")), Jvm.Cond.code ({ cls := "java/lang/String", name := "isEmpty", desc := "()Z" } : Jvm.MethodName) jdk_42_method_55_code (1 : Nat) (Option.some Jvm.ClassFile.FieldType.boolean), Jvm.Cond.code ({ cls := "java/lang/String", name := "indexOf", desc := "(I)I" } : Jvm.MethodName) jdk_42_method_79_code (2 : Nat) (Option.some Jvm.ClassFile.FieldType.int), Jvm.Cond.code ({ cls := "java/lang/String", name := "indexOf", desc := "(II)I" } : Jvm.MethodName) jdk_42_method_80_code (3 : Nat) (Option.some Jvm.ClassFile.FieldType.int), Jvm.Cond.code ({ cls := "java/lang/String", name := "isLatin1", desc := "()Z" } : Jvm.MethodName) jdk_42_method_154_code (1 : Nat) (Option.some Jvm.ClassFile.FieldType.boolean), Jvm.Cond.code ({ cls := "java/lang/String", name := "length", desc := "()I" } : Jvm.MethodName) jdk_42_method_54_code (1 : Nat) (Option.some Jvm.ClassFile.FieldType.int), Jvm.Cond.code ({ cls := "java/lang/String", name := "coder", desc := "()B" } : Jvm.MethodName) jdk_42_method_152_code (1 : Nat) (Option.some Jvm.ClassFile.FieldType.byte), Jvm.Cond.code ({ cls := "java/lang/StringLatin1", name := "indexOf", desc := "([BIII)I" } : Jvm.MethodName) jdk_43_method_22_code (4 : Nat) (Option.some Jvm.ClassFile.FieldType.int), Jvm.Cond.code ({ cls := "java/lang/StringLatin1", name := "canEncode", desc := "(I)Z" } : Jvm.MethodName) jdk_43_method_4_code (1 : Nat) (Option.some Jvm.ClassFile.FieldType.boolean), Jvm.Cond.code ({ cls := "java/lang/Math", name := "max", desc := "(II)I" } : Jvm.MethodName) jdk_29_method_65_code (2 : Nat) (Option.some Jvm.ClassFile.FieldType.int), Jvm.Cond.code ({ cls := "java/lang/Math", name := "min", desc := "(II)I" } : Jvm.MethodName) jdk_29_method_69_code (2 : Nat) (Option.some Jvm.ClassFile.FieldType.int), Jvm.Cond.code ({ cls := "java/lang/StringLatin1", name := "indexOfChar", desc := "([BIII)I" } : Jvm.MethodName) jdk_43_method_23_code (6 : Nat) (Option.some Jvm.ClassFile.FieldType.int), Jvm.Cond.code ({ cls := "com/example/shoalwork/shoalwork/task/TaskSpec", name := "toString", desc := "()Ljava/lang/String;" } : Jvm.MethodName) prog_31_method_3_code (1 : Nat) (Option.some (Jvm.ClassFile.FieldType.object "java/lang/String")), Jvm.Cond.code ({ cls := "java/lang/StringBuilder", name := "<init>", desc := "()V" } : Jvm.MethodName) jdk_67_method_1_code (1 : Nat) (Option.none : Option Jvm.ClassFile.FieldType), Jvm.Cond.code ({ cls := "java/lang/AbstractStringBuilder", name := "<init>", desc := "(I)V" } : Jvm.MethodName) jdk_68_method_2_code (2 : Nat) (Option.none : Option Jvm.ClassFile.FieldType), Jvm.Cond.code ({ cls := "java/lang/StringBuilder", name := "append", desc := "(Ljava/lang/String;)Ljava/lang/StringBuilder;" } : Jvm.MethodName) jdk_67_method_7_code (2 : Nat) (Option.some (Jvm.ClassFile.FieldType.object "java/lang/StringBuilder")), Jvm.Cond.code ({ cls := "java/lang/AbstractStringBuilder", name := "append", desc := "(Ljava/lang/String;)Ljava/lang/AbstractStringBuilder;" } : Jvm.MethodName) jdk_68_method_22_code (3 : Nat) (Option.some (Jvm.ClassFile.FieldType.object "java/lang/AbstractStringBuilder")), Jvm.Cond.code ({ cls := "java/lang/AbstractStringBuilder", name := "ensureCapacityInternal", desc := "(I)V" } : Jvm.MethodName) jdk_68_method_9_code (3 : Nat) (Option.none : Option Jvm.ClassFile.FieldType), Jvm.Cond.code ({ cls := "java/lang/AbstractStringBuilder", name := "putStringAt", desc := "(ILjava/lang/String;)V" } : Jvm.MethodName) jdk_68_method_73_code (3 : Nat) (Option.none : Option Jvm.ClassFile.FieldType), Jvm.Cond.code ({ cls := "java/lang/AbstractStringBuilder", name := "inflateIfNeededFor", desc := "(Ljava/lang/String;)V" } : Jvm.MethodName) jdk_68_method_71_code (2 : Nat) (Option.none : Option Jvm.ClassFile.FieldType), Jvm.Cond.code ({ cls := "java/lang/String", name := "getBytes", desc := "([BIB)V" } : Jvm.MethodName) jdk_42_method_147_code (4 : Nat) (Option.none : Option Jvm.ClassFile.FieldType), Jvm.Cond.code ({ cls := "java/lang/StringBuilder", name := "toString", desc := "()Ljava/lang/String;" } : Jvm.MethodName) jdk_67_method_42_code (1 : Nat) (Option.some (Jvm.ClassFile.FieldType.object "java/lang/String")), Jvm.Cond.code ({ cls := "java/lang/String", name := "<init>", desc := "(Ljava/lang/StringBuilder;)V" } : Jvm.MethodName) jdk_42_method_53_code (2 : Nat) (Option.none : Option Jvm.ClassFile.FieldType), Jvm.Cond.code ({ cls := "java/lang/String", name := "<init>", desc := "(Ljava/lang/AbstractStringBuilder;Ljava/lang/Void;)V" } : Jvm.MethodName) jdk_42_method_150_code (5 : Nat) (Option.none : Option Jvm.ClassFile.FieldType), Jvm.Cond.code ({ cls := "java/lang/AbstractStringBuilder", name := "getValue", desc := "()[B" } : Jvm.MethodName) jdk_68_method_64_code (1 : Nat) (Option.some (Jvm.ClassFile.FieldType.array Jvm.ClassFile.FieldType.byte)), Jvm.Cond.code ({ cls := "java/lang/StringBuilder", name := "length", desc := "()I" } : Jvm.MethodName) jdk_67_method_93_code (1 : Nat) (Option.some Jvm.ClassFile.FieldType.int), Jvm.Cond.code ({ cls := "java/lang/AbstractStringBuilder", name := "length", desc := "()I" } : Jvm.MethodName) jdk_68_method_6_code (1 : Nat) (Option.some Jvm.ClassFile.FieldType.int), Jvm.Cond.code ({ cls := "java/lang/AbstractStringBuilder", name := "isLatin1", desc := "()Z" } : Jvm.MethodName) jdk_68_method_68_code (1 : Nat) (Option.some Jvm.ClassFile.FieldType.boolean), Jvm.Cond.code ({ cls := "java/util/Arrays", name := "copyOfRange", desc := "([BII)[B" } : Jvm.MethodName) jdk_65_method_132_code (3 : Nat) (Option.some (Jvm.ClassFile.FieldType.array Jvm.ClassFile.FieldType.byte)), Jvm.Cond.code ({ cls := "java/util/Arrays", name := "copyOfRangeByte", desc := "([BII)[B" } : Jvm.MethodName) jdk_65_method_133_code (5 : Nat) (Option.some (Jvm.ClassFile.FieldType.array Jvm.ClassFile.FieldType.byte)), Jvm.Cond.code ({ cls := "java/util/Arrays", name := "checkLength", desc := "(II)V" } : Jvm.MethodName) jdk_65_method_131_code (2 : Nat) (Option.none : Option Jvm.ClassFile.FieldType), Jvm.Cond.code ({ cls := "java/lang/String", name := "charAt", desc := "(I)C" } : Jvm.MethodName) jdk_42_method_56_code (2 : Nat) (Option.some Jvm.ClassFile.FieldType.char), Jvm.Cond.code ({ cls := "java/lang/StringLatin1", name := "charAt", desc := "([BI)C" } : Jvm.MethodName) jdk_43_method_2_code (2 : Nat) (Option.some Jvm.ClassFile.FieldType.char), Jvm.Cond.code ({ cls := "java/lang/String", name := "checkIndex", desc := "(II)V" } : Jvm.MethodName) jdk_42_method_155_code (2 : Nat) (Option.none : Option Jvm.ClassFile.FieldType), Jvm.Cond.code ({ cls := "jdk/internal/util/Preconditions", name := "checkIndex", desc := "(IILjava/util/function/BiFunction;)I" } : Jvm.MethodName) jdk_41_method_11_code (3 : Nat) (Option.some Jvm.ClassFile.FieldType.int)]
set_option maxRecDepth 65536 in
theorem codes_eq : words1.filter isCode = codes1 := rfl
theorem w_codes : ∀ c ∈ words1.filter isCode, c.before args0 about1 = true := by
  rw [codes_eq]
  intro c hc
  simp only [codes1, List.mem_cons, List.not_mem_nil, or_false] at hc
  rcases hc with rfl | rfl | rfl | rfl | rfl | rfl | rfl | rfl | rfl | rfl | rfl | rfl | rfl | rfl | rfl | rfl | rfl | rfl | rfl | rfl | rfl | rfl | rfl | rfl | rfl | rfl | rfl | rfl | rfl | rfl | rfl | rfl | rfl | rfl | rfl | rfl | rfl | rfl | rfl | rfl | rfl | rfl | rfl | rfl | rfl | rfl
  · exact w_c0
  · exact w_c1
  · exact w_c2
  · exact w_c3
  · exact w_c4
  · exact w_c5
  · exact w_c6
  · exact w_c7
  · exact w_c8
  · exact w_c9
  · exact w_c10
  · exact w_c11
  · exact w_c12
  · exact w_c13
  · exact w_c14
  · exact w_c15
  · exact w_c16
  · exact w_c17
  · exact w_c18
  · exact w_c19
  · exact w_c20
  · exact w_c21
  · exact w_c22
  · exact w_c23
  · exact w_c24
  · exact w_c25
  · exact w_c26
  · exact w_c27
  · exact w_c28
  · exact w_c29
  · exact w_c30
  · exact w_c31
  · exact w_c32
  · exact w_c33
  · exact w_c34
  · exact w_c35
  · exact w_c36
  · exact w_c37
  · exact w_c38
  · exact w_c39
  · exact w_c40
  · exact w_c41
  · exact w_c42
  · exact w_c43
  · exact w_c44
  · exact w_c45
set_option maxRecDepth 65536 in
theorem w_t1 : (words1.take 24).all (fun c => isCode c || c.before args0 about1) = true := by decide +kernel
set_option maxRecDepth 65536 in
theorem w_t2 : ((words1.drop 24).take 24).all (fun c => isCode c || c.before args0 about1) = true := by decide +kernel
set_option maxRecDepth 65536 in
theorem w_t3 : (((words1.drop 24).drop 24).take 24).all (fun c => isCode c || c.before args0 about1) = true := by decide +kernel
set_option maxRecDepth 65536 in
theorem w_t4 : ((((words1.drop 24).drop 24).drop 24).take 24).all (fun c => isCode c || c.before args0 about1) = true := by decide +kernel
set_option maxRecDepth 65536 in
theorem w_t5 : (((((words1.drop 24).drop 24).drop 24).drop 24).take 24).all (fun c => isCode c || c.before args0 about1) = true := by decide +kernel
set_option maxRecDepth 65536 in
theorem w_t6 : ((((((words1.drop 24).drop 24).drop 24).drop 24).drop 24).take 24).all (fun c => isCode c || c.before args0 about1) = true := by decide +kernel
set_option maxRecDepth 65536 in
theorem w_t7 : (((((((words1.drop 24).drop 24).drop 24).drop 24).drop 24).drop 24).take 24).all (fun c => isCode c || c.before args0 about1) = true := by decide +kernel
set_option maxRecDepth 65536 in
theorem w_t8 : ((((((((words1.drop 24).drop 24).drop 24).drop 24).drop 24).drop 24).drop 24).take 24).all (fun c => isCode c || c.before args0 about1) = true := by decide +kernel
set_option maxRecDepth 65536 in
theorem w_t9 : (((((((((words1.drop 24).drop 24).drop 24).drop 24).drop 24).drop 24).drop 24).drop 24).take 24).all (fun c => isCode c || c.before args0 about1) = true := by decide +kernel
set_option maxRecDepth 65536 in
theorem w_t10 : (((((((((words1.drop 24).drop 24).drop 24).drop 24).drop 24).drop 24).drop 24).drop 24).drop 24).all (fun c => isCode c || c.before args0 about1) = true := by decide +kernel
theorem w_tables : (allAtoms (Jvm.Cond.code x code maxLocals ret :: tables_1)).before args0 about1 = true := by
  rw [allAtoms_all]
  show words1.all (fun c => c.before args0 about1) = true
  refine all_split ?_ w_codes
  rw [← List.take_append_drop 24 words1, List.all_append, w_t1, ← List.take_append_drop 24 (words1.drop 24), List.all_append, w_t2, ← List.take_append_drop 24 ((words1.drop 24).drop 24), List.all_append, w_t3, ← List.take_append_drop 24 (((words1.drop 24).drop 24).drop 24), List.all_append, w_t4, ← List.take_append_drop 24 ((((words1.drop 24).drop 24).drop 24).drop 24), List.all_append, w_t5, ← List.take_append_drop 24 (((((words1.drop 24).drop 24).drop 24).drop 24).drop 24), List.all_append, w_t6, ← List.take_append_drop 24 ((((((words1.drop 24).drop 24).drop 24).drop 24).drop 24).drop 24), List.all_append, w_t7, ← List.take_append_drop 24 (((((((words1.drop 24).drop 24).drop 24).drop 24).drop 24).drop 24).drop 24), List.all_append, w_t8, ← List.take_append_drop 24 ((((((((words1.drop 24).drop 24).drop 24).drop 24).drop 24).drop 24).drop 24).drop 24), List.all_append, w_t9, w_t10]
  rfl
set_option maxRecDepth 65536 in
theorem w_rest : rest_1_c.before args0 about1 = true := by decide +kernel
set_option maxRecDepth 65536 in
theorem w_case : (Jvm.Cond.and given_1 narrow_1).before args0 about1 = true := by decide +kernel
set_option maxRecDepth 65536 in
theorem w_consts : constsHeld consts_1 about1 := Jvm.Lit.constsHeldB_iff.mp (by decide +kernel)
theorem w_applies : (headSpec (Jvm.Cond.code x code maxLocals ret :: tables_1) room_1).applies x e0.platform about1 = true :=
  (Spec.applies_iff w_frames).mpr ⟨w_running, w_runnable, w_alone, w_named, w_hears, w_ripe, w_room, w_tables⟩
theorem atStart : AtStart classFile x code maxLocals ret World_1 tables_1 room_1 Calls_1 rest_1 Pre_1 launch0 p0 e0 about1 theMethod args0 below0 :=
  ⟨lists_1, trivial, launch0.admits_env _ _ _, launch0.least_env, fairChoices_fair.cas, fairChoices_fair.clock, w_frames, w_args, w_heap, w_applies, ⟨w_consts, trivial⟩, w_rest, w_case⟩
end start1
theorem witness_1 : WitnessClaimed_1 := ⟨start1.p0, start1.e0, start1.about1, start1.theMethod, start1.args0, start1.below0, start1.atStart⟩
end Jvm.Pilot.@@N@@
