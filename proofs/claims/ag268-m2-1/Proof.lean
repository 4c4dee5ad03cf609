import JvmDerived
import JvmDerived.Pilot.@@N@@Statement
import JvmDerived.Pilot.@@N@@Code
set_option linter.unusedVariables false
set_option linter.unusedSimpArgs false
namespace Jvm.Own
open Jvm Jvm.ClassFile Sem Op Lib Bundle Jvm.Free Jvm.Stand Jvm.LawKit Jvm.RoadKit
/-! The walk's own small framework, part 1: what is known of the heap, as ONE word over lists.
An object is told by its kind and some of its fields, an array by its kind and all its components, a String (only read) by its chars. O: what may be written (new cells all); RO: what is only read; FZ: what is only read and was made, or loaded as a constant, since the body's start. -/
/-- a char that a byte holds -/
def Lat (x : Int32) : Prop := 0 ≤ x.toInt ∧ x.toInt ≤ 255
/-- the byte of a char -/
def by8 (x : Int32) : Int32 := x.toInt8.toInt32
abbrev Key : Type := String × String × String
abbrev Ob : Type := Sum (String × List (Key × Value)) (Sum (FieldType × List Value) (List Int32))
abbrev HL : Type := List (Addr × Ob)
abbrev aO (ty : FieldType) (vs : List Value) : Ob := .inr (.inl (ty, vs))
abbrev tO (cs : List Int32) : Ob := .inr (.inr cs)
abbrev bO (cs : List Int32) : Ob := .inr (.inl (.byte, (cs.map by8).map Value.int))
def slotK (Z : State) (k : Key) : Nat := RoadKit.slotOf Z k.1 k.2.1 k.2.2
def FldK (Z : State) (h : Heap) (a : Addr) (f : Key × Value) : Prop := Fld Z h a f.1.1 f.1.2.1 f.1.2.2 f.2
def ArL (Z : State) (h : Heap) (a : Addr) (ty : FieldType) (vs : List Value) : Prop :=
  ∃ c : Cell, Arr Z h a c ty ∧ c.slots = vs.toArray ∧ vs.length < 2 ^ 31 ∧ (∀ v ∈ vs, fits ty v = true) ∧ (∀ C, ty = .object C → Z.heap.size ≤ a → Ovr Z c.cls C)
def Is (Z : State) (h : Heap) (a : Addr) : Ob → Prop
  | .inl (C, fs) => Exa Z h a C ∧ (∀ f ∈ fs, FldK Z h a f) ∧ (fs.map fun f => slotK Z f.1).Nodup
  | .inr (.inl (ty, vs)) => ArL Z h a ty vs
  | .inr (.inr _) => False
abbrev vK : Key := ("java/lang/String", "value", "[B")
abbrev cK : Key := ("java/lang/String", "coder", "B")
abbrev sF (b : Addr) : List (Key × Value) := [(vK, .ref b), (cK, .int 0)]
abbrev sO (b : Addr) : Ob := .inl ("java/lang/String", sF b)
theorem ltAll {ip : List Nat} {n : Nat} (h : ip.all (fun i => Nat.ble (i + 1) n) = true) : ∀ i ∈ ip, i < n := fun i hi => Nat.le_of_ble_eq_true (List.all_eq_true.mp h i hi)
theorem nodup_at {α : Type} {L : List α} (hn : L.Nodup) {i j : Nat} {x : α} (h1 : L[i]? = some x) (h2 : L[j]? = some x) : i = j :=
  (List.getElem?_inj (List.getElem?_eq_some_iff.mp h1).1 hn).mp (h1.trans h2.symm)
theorem set_same {α : Type} {L : List α} {i : Nat} {x : α} (h : L[i]? = some x) : L.set i x = L := by
  refine List.ext_getElem? fun j => ?_
  by_cases e : i = j
  · subst e
    rw [List.getElem?_set_self (List.getElem?_eq_some_iff.mp h).1]; exact h.symm
  · rw [List.getElem?_set_ne e]
section One
variable {Z : State} {h h' : Heap} {a b : Addr} {o : Ob} {ty : FieldType} {vs : List Value} {C : String} {fs : List (Key × Value)} {v : Value} {ws : List Addr} {q : Addr × Ob} {Φ Ψ : Addr → Prop}
theorem Is.lt (F : Is Z h a o) : a < h.size := by
  rcases o with ⟨C, fs⟩ | ⟨ty, vs⟩ | cs
  · exact Exa.lt F.1
  · obtain ⟨c, A, -⟩ := F; exact A.lt
  · exact F.elim
/-- it looks at one cell -/
theorem Is.loc (e : h'[a]? = h[a]?) (F : Is Z h a o) : Is Z h' a o := by
  rcases o with ⟨C, fs⟩ | ⟨ty, vs⟩ | cs
  · refine ⟨?_, fun f hf => ?_, F.2.2⟩
    · obtain ⟨cell, k, h1, r⟩ := F.1; exact ⟨cell, k, e.trans h1, r⟩
    · obtain ⟨cell, cf, k, i, f', h1, r⟩ := F.2.1 f hf; exact ⟨cell, cf, k, i, f', e.trans h1, r⟩
  · obtain ⟨c, A, r⟩ := F; exact ⟨c, ⟨e.trans A.1, A.2⟩, r⟩
  · exact F.elim
theorem same_ext (E : Ext h h') {x : Addr} (hx : x < h.size) : h'[x]? = h[x]? := by
  have := E.2 x _ (Array.getElem?_eq_getElem hx)
  rw [this]; exact (Array.getElem?_eq_getElem hx).symm
theorem same_keep (K : Keep h h' ws) {x : Addr} (hx : x < h.size) (hn : x ∉ ws) : h'[x]? = h[x]? := by
  have := K.2.1 x _ (Array.getElem?_eq_getElem hx) hn
  rw [this]; exact (Array.getElem?_eq_getElem hx).symm
theorem Is.ext (E : Ext h h') (F : Is Z h a o) : Is Z h' a o := F.loc (same_ext E F.lt)
theorem Is.keep (K : Keep h h' ws) (hn : a ∉ ws) (F : Is Z h a o) : Is Z h' a o := F.loc (same_keep K F.lt hn)
theorem Is.other {sl : Nat} (W : Wr h h' b sl v) (hn : a ≠ b) (F : Is Z h a o) : Is Z h' a o :=
  F.keep (Keep.of_wr W) (fun q => hn (List.mem_singleton.mp q))
theorem Is.wrF {key : Key} {old : Value} {j : Nat} (W : Wr h h' a (slotK Z key) v) (hj : fs[j]? = some (key, old)) (F : Is Z h a (.inl (C, fs))) : Is Z h' a (.inl (C, fs.set j (key, v))) := by
  obtain ⟨E, H, N⟩ := F
  have hold := H _ (List.mem_of_getElem? hj)
  refine ⟨Exa.wr W E, fun f hf => ?_, ?_⟩
  · obtain ⟨i, hi⟩ := List.mem_iff_getElem?.mp hf
    by_cases e : j = i
    · subst e
      rw [List.getElem?_set_self (List.getElem?_eq_some_iff.mp hj).1] at hi
      cases hi
      exact Fld.same W hold
    · rw [List.getElem?_set_ne e] at hi
      refine Fld.other W (H _ (List.mem_of_getElem? hi)) (Or.inr fun q => e ?_)
      refine nodup_at N (x := slotK Z key) ?_ ?_
      · rw [List.getElem?_map, hj]; rfl
      · rw [List.getElem?_map, hi]; exact congrArg some q
  · have : (fs.set j (key, v)).map (fun f => slotK Z f.1) = fs.map fun f => slotK Z f.1 := by
      rw [List.map_set]
      exact set_same (by rw [List.getElem?_map, hj]; rfl)
    rw [this]; exact N
theorem Is.wrA {j : Nat} (W : Wr h h' a j v) (hj : j < vs.length) (hv : fits ty v = true) (F : Is Z h a (aO ty vs)) : Is Z h' a (aO ty (vs.set j v)) := by
  obtain ⟨c, A, hs, hl, hf, ho⟩ := F
  refine ⟨c.setSlot j v, A.same W, ?_, by rw [List.length_set]; exact hl, fun x hx => ?_, ho⟩
  · simp [Cell.setSlot, hs]
  · rcases List.mem_or_eq_of_mem_set hx with q | q
    · exact hf x q
    · rw [q]; exact hv
/-- a thing that is only read; Φ holds of its cells (a String's: its own and its array's) -/
def Foot (Φ : Addr → Prop) (Z : State) (h : Heap) : Addr × Ob → Prop
  | (a, .inr (.inr cs)) => Φ a ∧ (∀ x ∈ cs, Lat x) ∧ ∃ b, Φ b ∧ Is Z h a (sO b) ∧ Is Z h b (bO cs)
  | (a, .inr (.inl x)) => Φ a ∧ Is Z h a (.inr (.inl x))
  | (a, .inl x) => Φ a ∧ Is Z h a (.inl x)
theorem Foot.of (F : Is Z h a o) (hΦ : Φ a) : Foot Φ Z h (a, o) := by
  rcases o with x | x | cs
  · exact ⟨hΦ, F⟩
  · exact ⟨hΦ, F⟩
  · exact F.elim
theorem Foot.step (hs : ∀ x, x < h.size → Φ x → h'[x]? = h[x]? ∧ Ψ x) (F : Foot Φ Z h q) : Foot Ψ Z h' q := by
  obtain ⟨a, o⟩ := q
  rcases o with x | x | cs
  · obtain ⟨f1, f2⟩ := F
    obtain ⟨e, g⟩ := hs _ f2.lt f1
    exact ⟨g, f2.loc e⟩
  · obtain ⟨f1, f2⟩ := F
    obtain ⟨e, g⟩ := hs _ f2.lt f1
    exact ⟨g, f2.loc e⟩
  · obtain ⟨f1, f2, b, f3, f4, f5⟩ := F
    obtain ⟨e1, g1⟩ := hs _ f4.lt f1
    obtain ⟨e2, g2⟩ := hs _ f5.lt f3
    exact ⟨g1, f2, b, g2, f4.loc e1, f5.loc e2⟩
theorem Foot.imp (hs : ∀ x, x < h.size → Φ x → Ψ x) (F : Foot Φ Z h q) : Foot Ψ Z h q := F.step fun x h1 h2 => ⟨rfl, hs x h1 h2⟩
end One
/-! ### literals -/
def LitI (Z : State) (EL : List (String × Nat)) (vm : Vm) (h : Heap) (t : Addr × Addr × List Value) : Prop :=
  Is Z h t.1 (sO t.2.1) ∧ Is Z h t.2.1 (aO .byte t.2.2) ∧ ∃ p ∈ EL, ∃ u : Array UInt16, Booksv vm p.1 p.2 u t.1
/-- x is a cell of a String constant -/
def LitX (Z : State) (EL : List (String × Nat)) (vm : Vm) (h : Heap) (x : Addr) : Prop := ∃ t, LitI Z EL vm h t ∧ (x = t.1 ∨ x = t.2.1)
section Lits
variable {Z W : State} {a0 : Array Value} {EL : List (String × Nat)} {vm vm1 : Vm} {h h' : Heap} {a b x : Addr} {own : String} {ix : Nat} {u : Array UInt16} {t : Addr × Addr × List Value}
theorem booksv_later {text : String} (hW : W.Warmed39 vm1) (w : (Cond.stringLink own ix text).before a0 W = true) (B : Booksv W.vm own ix u a) : Booksv vm1 own ix u a := by
  obtain ⟨c, k, cf, i, h1, h2, h3, h4, h5, h6⟩ := B
  obtain ⟨k0, cf0, i0, u0, e1, e2, e3, e4, hnm, -, -⟩ := Cond.stringLink_spec h1 w
  cases h2.symm.trans e1
  cases h3.symm.trans e2
  cases h4.symm.trans e3
  cases h5.symm.trans e4
  obtain ⟨k', g1, g2, -, ee, -⟩ := hW.2.2.2 c k h2
  have hcf : k'.cf = some cf := by rw [g2]; exact h3
  refine ⟨c, k', cf, i, by rw [hW.alike.findClass]; exact h1, g1, hcf, h4, h5, ?_⟩
  rcases h6 with h6 | ⟨h6, h7⟩
  · left
    rcases ee ix with e0 | ⟨hop, -⟩
    · rw [e0]; exact h6
    · rw [h6] at hop; cases hop
  · rcases ee ix with e0 | ⟨-, r, r1, hr | ⟨a3, tx, si, us, rfl, -, q3, q4, q5⟩⟩
    · right; exact ⟨e0.trans h6, hW.finds h7⟩
    · exfalso
      cases r <;> simp [State.rightAt, h2, h3, hnm] at hr
    · left
      rw [h3] at q3 q4
      have e3' : si = i := by
        have := q3.symm.trans h4
        simpa using this
      subst e3'
      have e4' : us = u := by simpa [ConstantPool.utf8?, h5] using q4.symm
      subst e4'
      have e5 := hW.finds h7
      rw [q5] at e5
      have e6 : a3 = a := by simpa using e5
      rw [r1, e6]
theorem LitI.ne (hal : Z.vm.Alike vm) (H : CHv Z EL vm h) (L : LitI Z EL vm h t) (S : Safe Z EL vm h x) : x ≠ t.1 ∧ x ≠ t.2.1 := by
  obtain ⟨L1, L2, p, hp, u, hb⟩ := L
  obtain ⟨q, hqa, F⟩ := SlB.of (H p hp u _ hb)
  have hsd : q.sd = t.2.1 := by
    have G : Fld Z h t.1 "java/lang/String" "value" "[B" (.ref t.2.1) := L1.2.1 (vK, .ref t.2.1) (List.mem_cons_self ..)
    obtain ⟨cell, cf, k, i, f, g1, g2, -, -, -, -, g7⟩ := G
    have ha := F.ha
    rw [hqa] at ha
    cases (show h[t.1]? = some q.sC from ha).symm.trans g1
    obtain ⟨cS, ⟨⟨-, -, -, ⟨c1, k1, i1, f1, -⟩, -, -, -, v1, -⟩, -⟩, -⟩ := F
    obtain ⟨k2, e2⟩ := ff_back (U := Wst Z vm h) hal f1
    cases g2.symm.trans e2
    have := v1.symm.trans g7
    simpa using this
  exact ⟨fun e => S ⟨p, hp, u, _, hb, q, hqa, F, Or.inl (e.trans hqa.symm)⟩, fun e => S ⟨p, hp, u, _, hb, q, hqa, F, Or.inr (e.trans hsd.symm)⟩⟩
theorem LitX.ne (hal : Z.vm.Alike vm) (H : CHv Z EL vm h) {y : Addr} (L : LitX Z EL vm h y) (S : Safe Z EL vm h x) : x ≠ y := by
  obtain ⟨t, L, rfl | rfl⟩ := L
  · exact (L.ne hal H S).1
  · exact (L.ne hal H S).2
/-- what keeps booked cells keeps this -/
theorem LitX.step (hs : ∀ y, y < h.size → LitX Z EL vm h y → h'[y]? = h[y]?) (L : LitX Z EL vm h x) : LitX Z EL vm h' x := by
  obtain ⟨t, L, e⟩ := L
  exact ⟨t, ⟨L.1.loc (hs _ L.1.lt ⟨t, L, Or.inl rfl⟩), L.2.1.loc (hs _ L.2.1.lt ⟨t, L, Or.inr rfl⟩), L.2.2⟩, e⟩
theorem LitX.later (hZ : Z.Warmed39 vm) (hW : (Wst Z vm h).Warmed39 vm1) (w : EW Z a0 EL) (L : LitX Z EL vm h x) : LitX Z EL vm1 h x := by
  obtain ⟨t, ⟨L1, L2, p, hp, u, hb⟩, e⟩ := L
  obtain ⟨text, wl, -⟩ := w p hp
  exact ⟨t, ⟨L1, L2, p, hp, u, booksv_later (W := Wst Z vm h) (text := text) (a0 := a0) hW (mvS (s := { Z with heap := h }) hZ wl) hb⟩, e⟩
end Lits
/-! ### the whole -/
def Apart (O : HL) (x : Addr) : Prop := ∀ p ∈ O, p.1 ≠ x
def Mine (Z : State) (EL : List (String × Nat)) (vm : Vm) (h : Heap) (n0 : Nat) (O : HL) (x : Addr) : Prop := Apart O x ∧ (n0 ≤ x ∨ LitX Z EL vm h x)
def HI (Z : State) (EL : List (String × Nat)) (vm : Vm) (h : Heap) (n0 : Nat) (O RO FZ : HL) : Prop :=
  Ext Z.heap h ∧ CHv Z EL vm h ∧ (∀ p ∈ O, Is Z h p.1 p.2 ∧ Z.heap.size ≤ p.1 ∧ Safe Z EL vm h p.1) ∧ (O.map (·.1)).Nodup ∧ (∀ q ∈ RO, Foot (Apart O) Z h q) ∧ ∀ q ∈ FZ, Foot (Mine Z EL vm h n0 O) Z h q
def pick (L : HL) : List Nat → HL
  | [] => []
  | i :: r => match L[i]? with
    | some x => x :: pick L r
    | none => pick L r
def put (O : HL) : List Nat → HL → HL
  | [], _ => O
  | _ :: _, [] => O
  | i :: r, x :: xs => put (O.set i x) r xs
def merge (O : HL) (ip : List Nat) (O' : HL) : HL := put O ip (O'.take ip.length) ++ O'.drop ip.length
theorem mem_pick {L : HL} {x : Addr × Ob} : ∀ {ip : List Nat}, x ∈ pick L ip → ∃ i ∈ ip, L[i]? = some x
  | [], h => nomatch h
  | i :: r, h => by
    unfold pick at h
    cases hi : L[i]? with
    | none =>
      rw [hi] at h
      obtain ⟨j, h1, h2⟩ := mem_pick h
      exact ⟨j, List.mem_cons_of_mem _ h1, h2⟩
    | some y =>
      rw [hi] at h
      rcases List.mem_cons.mp h with rfl | h
      · exact ⟨i, List.mem_cons_self .., hi⟩
      · obtain ⟨j, h1, h2⟩ := mem_pick h
        exact ⟨j, List.mem_cons_of_mem _ h1, h2⟩
theorem at_fst {L : HL} {i : Nat} {x : Addr × Ob} (h : L[i]? = some x) : (L.map (·.1))[i]? = some x.1 := by rw [List.getElem?_map, h]; rfl
theorem nodup_pick {L : HL} (hn : (L.map (·.1)).Nodup) : ∀ {ip : List Nat}, ip.Nodup → ((pick L ip).map (·.1)).Nodup
  | [], _ => List.nodup_nil
  | i :: r, h => by
    obtain ⟨h1, h2⟩ := List.nodup_cons.mp h
    have ih := nodup_pick hn h2
    unfold pick
    cases hi : L[i]? with
    | none => exact ih
    | some y =>
      refine List.nodup_cons.mpr ⟨fun q => ?_, ih⟩
      obtain ⟨z, hz, e⟩ := List.mem_map.mp q
      obtain ⟨j, hj, hjz⟩ := mem_pick hz
      have a1 := at_fst hi
      have a2 := at_fst hjz
      rw [e] at a2
      have := nodup_at hn a1 a2
      exact h1 (this ▸ hj)
theorem put_mem {q : Addr × Ob} : ∀ {ip : List Nat} {O X : HL}, q ∈ put O ip X → q ∈ X ∨ ∃ j, O[j]? = some q ∧ (X.length = ip.length → j ∉ ip)
  | [], O, X, h => by
    obtain ⟨j, hj⟩ := List.mem_iff_getElem?.mp (show q ∈ O by cases X <;> exact h)
    exact Or.inr ⟨j, hj, fun _ z => nomatch z⟩
  | i :: r, O, [], h => by
    obtain ⟨j, hj⟩ := List.mem_iff_getElem?.mp (show q ∈ O from h)
    exact Or.inr ⟨j, hj, fun z => by simp at z⟩
  | i :: r, O, x :: xs, h => by
    rcases put_mem (ip := r) (O := O.set i x) (X := xs) h with h | ⟨j, hj, hn⟩
    · exact Or.inl (List.mem_cons_of_mem _ h)
    · by_cases e : i = j
      · subst e
        by_cases hl : i < O.length
        · rw [List.getElem?_set_self hl] at hj
          cases hj
          exact Or.inl (List.mem_cons_self ..)
        · rw [List.getElem?_eq_none (by rw [List.length_set]; omega)] at hj
          cases hj
      · rw [List.getElem?_set_ne e] at hj
        refine Or.inr ⟨j, hj, fun z => ?_⟩
        have := hn (by simpa using z)
        simp [Ne.symm e, this]
theorem put_fst : ∀ {ip : List Nat} {O X : HL}, (∀ i ∈ ip, i < O.length) → X.map (·.1) = (pick O ip).map (·.1) → (put O ip X).map (·.1) = O.map (·.1)
  | [], _, X, _, _ => by cases X <;> rfl
  | _ :: _, _, [], _, _ => rfl
  | i :: r, O, x :: xs, hl, h => by
    have hi := hl i (List.mem_cons_self ..)
    have e0 : O[i]? = some O[i] := List.getElem?_eq_getElem hi
    unfold pick at h
    rw [e0] at h
    obtain ⟨h1, h2⟩ := List.cons.inj (show x.1 :: xs.map (·.1) = O[i].1 :: (pick O r).map (·.1) from h)
    have hs : (O.set i x).map (·.1) = O.map (·.1) := by
      rw [List.map_set, h1]
      exact set_same (at_fst e0)
    have hp : ∀ r : List Nat, (pick (O.set i x) r).map (·.1) = (pick O r).map (·.1) := fun r => by
      induction r with
      | nil => rfl
      | cons j r ih =>
        have e : ((O.set i x)[j]?).map (·.1) = (O[j]?).map (·.1) := by
          rw [← List.getElem?_map, ← List.getElem?_map, hs]
        unfold pick
        cases h1 : (O.set i x)[j]? <;> cases h2 : O[j]? <;> rw [h1, h2] at e <;> simp at e
        · exact ih
        · simp only [List.map_cons, ih, e]
    show (put (O.set i x) r xs).map (·.1) = _
    rw [put_fst (fun j hj => by rw [List.length_set]; exact hl j (List.mem_cons_of_mem _ hj)) (by rw [hp]; exact h2), hs]
/-- the first of O are P's places, the rest is new -/
def Lays (P : HL) (h0 : Heap) (O : HL) : Prop := (O.map (·.1)).take P.length = P.map (·.1) ∧ ∀ q ∈ O.drop P.length, h0.size ≤ q.1
section All
variable {Z : State} {a0 : Array Value} {EL : List (String × Nat)} {vm vm1 vm2 : Vm} {h h' : Heap} {n0 : Nat} {O RO O' P PR FZ FN : HL} {a b : Addr} {o : Ob} {i j : Nat} {v : Value} {cs : List Int32}
theorem HI.at (H : HI Z EL vm h n0 O RO FZ) (hi : (O ++ (RO ++ FZ))[i]? = some (a, o)) : Foot (fun _ => True) Z h (a, o) := by
  have hm := List.mem_of_getElem? hi
  rcases List.mem_append.mp hm with q | q
  · exact Foot.of (H.2.2.1 _ q).1 trivial
  · rcases List.mem_append.mp q with q | q
    · exact (H.2.2.2.2.1 _ q).imp fun _ _ _ => trivial
    · exact (H.2.2.2.2.2 _ q).imp fun _ _ _ => trivial
theorem HI.atO {C : String} {fs : List (Key × Value)} (H : HI Z EL vm h n0 O RO FZ) (hi : (O ++ (RO ++ FZ))[i]? = some (a, .inl (C, fs))) : Is Z h a (.inl (C, fs)) := (H.at hi).2
theorem HI.atA {ty : FieldType} {vs : List Value} (H : HI Z EL vm h n0 O RO FZ) (hi : (O ++ (RO ++ FZ))[i]? = some (a, aO ty vs)) : Is Z h a (aO ty vs) := (H.at hi).2
theorem HI.ext (E : Ext h h') (H : HI Z EL vm h n0 O RO FZ) : HI Z EL vm h' n0 O RO FZ := by
  obtain ⟨h1, h2, h3, h4, h5, h6⟩ := H
  refine ⟨⟨Nat.le_trans h1.1 E.1, fun x c q => E.2 x c (h1.2 x c q)⟩, h2.ext E, fun p hp => ⟨(h3 p hp).1.ext E, (h3 p hp).2.1, Safe.ext E h2 (h3 p hp).2.2⟩, h4, fun q hq => (h5 q hq).step fun x hx hA => ⟨same_ext E hx, hA⟩, fun q hq => (h6 q hq).step fun x hx hA => ⟨same_ext E hx, hA.1, hA.2.imp id fun L => L.step fun y hy _ => same_ext E hy⟩⟩
/-- a new cell -/
theorem HI.new (E : Ext h h') (H : HI Z EL vm h n0 O RO FZ) (F : Is Z h' h.size o) : HI Z EL vm h' n0 (O ++ [(h.size, o)]) RO FZ := by
  have H' := H.ext E
  have hs : Safe Z EL vm h' h.size := Safe.ext E H.2.1 (Safe.new (Nat.le_refl _))
  have lt : ∀ p ∈ O, p.1 < h.size := fun p hp => (H.2.2.1 p hp).1.lt
  have ap : ∀ x, x < h.size → Apart O x → Apart (O ++ [(h.size, o)]) x := fun x hx hA p hp => by
    rcases List.mem_append.mp hp with hp | hp
    · exact hA p hp
    · cases List.mem_singleton.mp hp
      show h.size ≠ x
      omega
  refine ⟨H'.1, H'.2.1, fun p hp => ?_, ?_, fun q hq => (H.2.2.2.2.1 q hq).step fun x hx hA => ⟨same_ext E hx, ap x hx hA⟩, fun q hq => (H.2.2.2.2.2 q hq).step fun x hx hA => ⟨same_ext E hx, ap x hx hA.1, hA.2.imp id fun L => L.step fun y hy _ => same_ext E hy⟩⟩
  · rcases List.mem_append.mp hp with hp | hp
    · exact H'.2.2.1 p hp
    · cases List.mem_singleton.mp hp
      exact ⟨F, H.1.1, hs⟩
  · rw [List.map_append]
    refine List.nodup_append.mpr ⟨H.2.2.2.1, by simp, fun x hx y hy => ?_⟩
    obtain ⟨p, hp, rfl⟩ := List.mem_map.mp hx
    have ey : y = h.size := by simpa using hy
    intro e
    rw [ey] at e
    exact Nat.lt_irrefl _ (Nat.lt_of_le_of_lt (Nat.le_of_eq e.symm) (lt p hp))
/-- one place of the i-th is written -/
theorem HI.wr {sl : Nat} {o' : Ob} (H : HI Z EL vm h n0 O RO FZ) (hal : Z.vm.Alike vm) (hi : O[i]? = some (a, o)) (W : Wr h h' a sl v) (F : Is Z h' a o') : HI Z EL vm h' n0 (O.set i (a, o')) RO FZ := by
  obtain ⟨h1, h2, h3, h4, h5, h6⟩ := H
  have hm := List.mem_of_getElem? hi
  have S := (h3 _ hm).2.2
  have G := (h3 _ hm).2.1
  have K := Keep.of_wr W
  have fst : (O.set i (a, o')).map (·.1) = O.map (·.1) := by rw [List.map_set]; exact set_same (x := a) (at_fst hi)
  have ap : ∀ x, Apart O x → Apart (O.set i (a, o')) x := fun x hA p hp => by
    have : p.1 ∈ (O.set i (a, o')).map (·.1) := List.mem_map.mpr ⟨p, hp, rfl⟩
    rw [fst] at this
    obtain ⟨p', q1, q2⟩ := List.mem_map.mp this
    rw [← q2]; exact hA p' q1
  have st : ∀ x, x < h.size → x ≠ a → h'[x]? = h[x]? := fun x hx hn => same_keep K hx fun z => hn (List.mem_singleton.mp z)
  have lx : ∀ y, LitX Z EL vm h y → LitX Z EL vm h' y := fun y L => L.step fun y hy L => st y hy fun e => L.ne hal h2 S e.symm
  refine ⟨⟨by rw [W.size]; exact h1.1, fun x c q => K.2.1 x c (h1.2 x c q) fun z => ?_⟩, h2.wr W S, fun p hp => ?_, by rw [fst]; exact h4, fun q hq => (h5 q hq).step fun x hx hA => ⟨st x hx fun e => hA _ hm e.symm, ap x hA⟩, fun q hq => (h6 q hq).step fun x hx hA => ⟨st x hx fun e => hA.1 _ hm e.symm, ap x hA.1, hA.2.imp id (lx x)⟩⟩
  · have e := List.mem_singleton.mp z
    have l1 := (Array.getElem?_eq_some_iff.mp q).1
    rw [e] at l1
    exact Nat.lt_irrefl _ (Nat.lt_of_lt_of_le l1 G)
  · obtain ⟨j, hj⟩ := List.mem_iff_getElem?.mp hp
    by_cases e : i = j
    · subst e
      rw [List.getElem?_set_self (List.getElem?_eq_some_iff.mp hi).1] at hj
      cases hj
      exact ⟨F, G, Safe.wr W S h2 S⟩
    · rw [List.getElem?_set_ne e] at hj
      have hpO := List.mem_of_getElem? hj
      have hne : p.1 ≠ a := fun q => by
        have a1 := at_fst hi
        have a2 := at_fst hj
        rw [q] at a2
        exact e (nodup_at h4 a1 a2)
      exact ⟨(h3 p hpO).1.other W hne, (h3 p hpO).2.1, Safe.wr W S h2 (h3 p hpO).2.2⟩
/-- the tables warm, the heap stands -/
theorem HI.later (hZ : Z.Warmed39 vm) (hW : (Wst Z vm h).Warmed39 vm1) (w : EW Z a0 EL) (C : CHr Z EL vm h vm1 h) (H : HI Z EL vm h n0 O RO FZ) : HI Z EL vm1 h n0 O RO FZ := by
  obtain ⟨h1, h2, h3, h4, h5, h6⟩ := H
  exact ⟨h1, C.1, fun p hp => ⟨(h3 p hp).1, (h3 p hp).2.1, C.safe (h3 p hp).1.lt (h3 p hp).2.2⟩, h4, h5, fun q hq => (h6 q hq).imp fun x _ hA => ⟨hA.1, hA.2.imp id fun L => L.later hZ hW w⟩⟩
theorem HI.forget (H : HI Z EL vm h n0 O RO FZ) {RO' FZ' : HL} (hr : ∀ q ∈ RO', q ∈ RO) (hs : ∀ q ∈ FZ', q ∈ FZ) : HI Z EL vm h n0 O RO' FZ' := ⟨H.1, H.2.1, H.2.2.1, H.2.2.2.1, fun q hq => H.2.2.2.2.1 q (hr q hq), fun q hq => H.2.2.2.2.2 q (hs q hq)⟩
/-- what a callee is handed -/
theorem HI.call (H : HI Z EL vm h n0 O RO FZ) {n1 : Nat} {ip ir : List Nat} (hP : pick O ip = P) (hPR : pick (O ++ (RO ++ FZ)) ir = PR) (hn : ip.Nodup) (hd : ∀ j ∈ ir, j ∉ ip) : HI Z EL vm h n1 P PR [] := by
  subst hP hPR
  obtain ⟨h1, h2, h3, h4, h5, h6⟩ := id H
  have sub : ∀ x, Apart O x → Apart (pick O ip) x := fun x hA p hp => by
    obtain ⟨i, -, hi⟩ := mem_pick hp
    exact hA p (List.mem_of_getElem? hi)
  refine ⟨h1, h2, fun p hp => ?_, nodup_pick h4 hn, fun q hq => ?_, fun t ht => nomatch ht⟩
  · obtain ⟨i, -, hi⟩ := mem_pick hp
    exact h3 p (List.mem_of_getElem? hi)
  · obtain ⟨j, hj, hq⟩ := mem_pick hq
    by_cases hl : j < O.length
    · rw [List.getElem?_append_left hl] at hq
      refine Foot.of (h3 q (List.mem_of_getElem? hq)).1 fun p hp => ?_
      obtain ⟨i, hii, hi⟩ := mem_pick hp
      intro e
      have a1 := at_fst hi
      have a2 := at_fst hq
      rw [e] at a1
      exact hd j hj (nodup_at h4 a2 a1 ▸ hii)
    · rw [List.getElem?_append_right (by omega)] at hq
      rcases List.mem_append.mp (List.mem_of_getElem? hq) with q' | q'
      · exact (h5 q q').imp fun x _ hA => sub x hA
      · exact (h6 q q').imp fun x _ hA => sub x hA.1
/-- what it hands back -/
theorem HI.back (hZ : Z.Warmed39 vm) (hZ1 : Z.Warmed39 vm1) (hW : (Wst Z vm h).Warmed39 vm1) (w : EW Z a0 EL) (H : HI Z EL vm h n0 O RO FZ) (hn0 : n0 ≤ h.size) {ip : List Nat} (hP : pick O ip = P) (hn : ip.Nodup) (hl : ∀ i ∈ ip, i < O.length) (K : Keep h h' (P.map (·.1))) (C : CHr Z EL vm h vm1 h') (H' : HI Z EL vm1 h' h.size O' PR FN) (L : Lays P h O') :
    HI Z EL vm1 h' n0 (merge O ip O') RO (FZ ++ FN) := by
  subst hP
  obtain ⟨h1, h2, h3, h4, h5, h6⟩ := id H
  have hal := hZ.alike
  have plen : (pick O ip).length = ip.length := by
    clear L H' C K hn
    induction ip with
    | nil => rfl
    | cons i r ih =>
      unfold pick
      rw [List.getElem?_eq_getElem (hl i (List.mem_cons_self ..))]
      exact congrArg (· + 1) (ih fun j hj => hl j (List.mem_cons_of_mem _ hj))
  obtain ⟨L1, L2⟩ := L
  rw [plen] at L1 L2
  have Lf : (O'.take ip.length).map (·.1) = (pick O ip).map (·.1) := by rw [List.map_take]; exact L1
  have fst := put_fst hl Lf
  have xlen : (O'.take ip.length).length = ip.length := by have := congrArg List.length Lf; simpa [plen] using this
  have pnot : ∀ {j : Nat} {q : Addr × Ob}, O[j]? = some q → j ∉ ip → q.1 ∉ (pick O ip).map (·.1) := fun {j q} hj hni z => by
    obtain ⟨p, hp, e⟩ := List.mem_map.mp z
    obtain ⟨i, hii, hi⟩ := mem_pick hp
    have a1 := at_fst hi
    have a2 := at_fst hj
    rw [e] at a1
    exact hni (nodup_at h4 a2 a1 ▸ hii)
  have lt : ∀ p ∈ O, p.1 < h.size := fun p hp => (h3 p hp).1.lt
  have pO : ∀ x ∈ (pick O ip).map (·.1), ∃ p ∈ O, p.1 = x := fun x hx => by
    obtain ⟨p, hp, e⟩ := List.mem_map.mp hx
    obtain ⟨i, -, hi⟩ := mem_pick hp
    exact ⟨p, List.mem_of_getElem? hi, e⟩
  have adr : ∀ p ∈ merge O ip O', (∃ p' ∈ O, p'.1 = p.1) ∨ h.size ≤ p.1 := fun p hp => by
    rcases List.mem_append.mp hp with hp | hp
    · have : p.1 ∈ (put O ip (O'.take ip.length)).map (·.1) := List.mem_map.mpr ⟨p, hp, rfl⟩
      rw [fst] at this
      obtain ⟨p', q1, q2⟩ := List.mem_map.mp this
      exact Or.inl ⟨p', q1, q2⟩
    · exact Or.inr (L2 p hp)
  have ap : ∀ x, x < h.size → Apart O x → Apart (merge O ip O') x := fun x hx hA p hp => by
    rcases adr p hp with ⟨p', q1, q2⟩ | q1
    · rw [← q2]; exact hA p' q1
    · exact fun e => Nat.lt_irrefl _ (Nat.lt_of_lt_of_le hx (by rw [← e]; exact q1))
  have st : ∀ x, x < h.size → Apart O x → h'[x]? = h[x]? := fun x hx hA => same_keep K hx fun z => by
    obtain ⟨p, hp, e⟩ := pO _ z
    exact hA p hp e
  have hW' : (Wst Z vm h').Warmed39 vm1 := hW
  have lx : ∀ y, LitX Z EL vm h y → LitX Z EL vm1 h' y := fun y L => by
    refine LitX.later hZ hW' w (L.step fun y hy L => same_keep K hy fun z => ?_)
    obtain ⟨p, hp, e⟩ := pO _ z
    exact (LitX.ne hal h2 L (h3 p hp).2.2) e
  refine ⟨H'.1, H'.2.1, fun p hp => ?_, ?_, fun q hq => (h5 q hq).step fun x hx hA => ⟨st x hx hA, ap x hx hA⟩, fun q hq => ?_⟩
  · rcases List.mem_append.mp hp with hp | hp
    · rcases put_mem hp with hp | ⟨j, hj, hni⟩
      · exact H'.2.2.1 p (List.mem_of_mem_take hp)
      · have hpO := h3 p (List.mem_of_getElem? hj)
        exact ⟨hpO.1.keep K (pnot hj (hni xlen)), hpO.2.1, C.safe hpO.1.lt hpO.2.2⟩
    · exact H'.2.2.1 p (List.mem_of_mem_drop hp)
  · unfold merge
    rw [List.map_append, fst]
    refine List.nodup_append.mpr ⟨h4, ?_, fun x hx y hy => ?_⟩
    · rw [List.map_drop]
      exact H'.2.2.2.1.sublist (List.drop_sublist ..)
    · obtain ⟨p, hp, rfl⟩ := List.mem_map.mp hx
      obtain ⟨q, hq, rfl⟩ := List.mem_map.mp hy
      show p.1 ≠ q.1
      exact fun e => Nat.lt_irrefl _ (Nat.lt_of_lt_of_le (lt p hp) (by rw [e]; exact L2 q hq))
  · rcases List.mem_append.mp hq with hq | hq
    · exact (h6 q hq).step fun x hx hA => ⟨st x hx hA.1, ap x hx hA.1, hA.2.imp id (lx x)⟩
    · refine (H'.2.2.2.2.2 q hq).imp fun x hx hA => ⟨fun p hp => ?_, hA.2.imp (fun q => Nat.le_trans hn0 q) id⟩
      rcases List.mem_append.mp hp with hp | hp
      · rcases put_mem hp with hp | ⟨j, hj, hni⟩
        · exact hA.1 p (List.mem_of_mem_take hp)
        · have hpO := h3 p (List.mem_of_getElem? hj)
          rcases hA.2 with q | q
          · exact fun e => Nat.lt_irrefl _ (Nat.lt_of_lt_of_le hpO.1.lt (by rw [e]; exact q))
          · exact LitX.ne hZ1.alike H'.2.1 q (C.safe hpO.1.lt hpO.2.2)
      · exact hA.1 p (List.mem_of_mem_drop hp)
/-- an old thing joins what is only read -/
theorem HI.old (H : HI Z EL vm h n0 O RO FZ) (F : Is Z Z.heap a o) : HI Z EL vm h n0 O (RO ++ [(a, o)]) FZ :=
  ⟨H.1, H.2.1, H.2.2.1, H.2.2.2.1, fun q hq => by
    rcases List.mem_append.mp hq with hq | hq
    · exact H.2.2.2.2.1 q hq
    · cases List.mem_singleton.mp hq
      refine Foot.of (F.ext H.1) fun p hp e => ?_
      have l1 := (H.2.2.1 p hp).2.1
      rw [e] at l1
      exact Nat.lt_irrefl _ (Nat.lt_of_lt_of_le F.lt l1), H.2.2.2.2.2⟩
/-- a String constant joins what is only read -/
theorem HI.lit {vs : List Value} (hal : Z.vm.Alike vm) (H : HI Z EL vm h n0 O RO FZ) (L : LitI Z EL vm h (a, b, vs)) : HI Z EL vm h n0 O RO (FZ ++ [(a, sO b), (b, aO .byte vs)]) :=
  ⟨H.1, H.2.1, H.2.2.1, H.2.2.2.1, H.2.2.2.2.1, fun q hq => by
    have ap : ∀ x, (x = a ∨ x = b) → Mine Z EL vm h n0 O x := fun x hx => ⟨fun p hp => by
      have := L.ne hal H.2.1 (H.2.2.1 p hp).2.2
      rcases hx with rfl | rfl
      · exact this.1
      · exact this.2, Or.inr ⟨_, L, hx⟩⟩
    rcases List.mem_append.mp hq with hq | hq
    · exact H.2.2.2.2.2 q hq
    · rcases List.mem_cons.mp hq with rfl | hq
      · exact Foot.of L.1 (ap _ (Or.inl rfl))
      · rw [List.mem_singleton.mp hq]; exact Foot.of L.2.1 (ap _ (Or.inr rfl))⟩
/-- what was made is only read from here on -/
theorem HI.freeze (H : HI Z EL vm h n0 O RO FZ) (hi : O[i]? = some (a, o)) (ha : n0 ≤ a) : HI Z EL vm h n0 (O.eraseIdx i) RO (FZ ++ [(a, o)]) := by
  obtain ⟨h1, h2, h3, h4, h5, h6⟩ := H
  have sub : ∀ p ∈ O.eraseIdx i, p ∈ O := fun p hp => List.mem_of_mem_eraseIdx hp
  have ap : ∀ x, Apart O x → Apart (O.eraseIdx i) x := fun x hA p hp => hA p (sub p hp)
  refine ⟨h1, h2, fun p hp => h3 p (sub p hp), ?_, fun q hq => (h5 q hq).imp fun x _ hA => ap x hA, fun q hq => ?_⟩
  · exact h4.sublist (List.Sublist.map _ (List.eraseIdx_sublist ..))
  · rcases List.mem_append.mp hq with hq | hq
    · exact (h6 q hq).imp fun x _ hA => ⟨ap x hA.1, hA.2⟩
    · rw [List.mem_singleton.mp hq]
      refine Foot.of (h3 _ (List.mem_of_getElem? hi)).1 ⟨fun p hp e => ?_, Or.inl ha⟩
      obtain ⟨j, hj⟩ := List.mem_iff_getElem?.mp hp
      rw [List.getElem?_eraseIdx] at hj
      have a1 := at_fst hi
      split at hj
      · have a2 := at_fst hj
        rw [e] at a2
        have := nodup_at h4 a1 a2
        omega
      · have a2 := at_fst hj
        rw [e] at a2
        have := nodup_at h4 a1 a2
        omega
/-- a String's two cells, told as its chars -/
theorem HI.str (H : HI Z EL vm h n0 O RO FZ) (hi : FZ[i]? = some (a, sO b)) (hj : FZ[j]? = some (b, bO cs)) (hc : ∀ x ∈ cs, Lat x) : HI Z EL vm h n0 O RO (FZ ++ [(a, tO cs)]) :=
  ⟨H.1, H.2.1, H.2.2.1, H.2.2.2.1, H.2.2.2.2.1, fun q hq => by
    rcases List.mem_append.mp hq with hq | hq
    · exact H.2.2.2.2.2 q hq
    · rw [List.mem_singleton.mp hq]
      obtain ⟨f1, f2⟩ := H.2.2.2.2.2 _ (List.mem_of_getElem? hi)
      obtain ⟨g1, g2⟩ := H.2.2.2.2.2 _ (List.mem_of_getElem? hj)
      exact ⟨f1, hc, b, g1, f2, g2⟩⟩
/-- .. and back -/
theorem HI.openR (H : HI Z EL vm h n0 O RO FZ) (hi : RO[i]? = some (a, tO cs)) : (∀ x ∈ cs, Lat x) ∧ ∃ b, HI Z EL vm h n0 O (RO ++ [(a, sO b), (b, bO cs)]) FZ := by
  obtain ⟨f1, f2, b, f3, f4, f5⟩ := H.2.2.2.2.1 _ (List.mem_of_getElem? hi)
  refine ⟨f2, b, H.1, H.2.1, H.2.2.1, H.2.2.2.1, fun q hq => ?_, H.2.2.2.2.2⟩
  rcases List.mem_append.mp hq with hq | hq
  · exact H.2.2.2.2.1 q hq
  · rcases List.mem_cons.mp hq with rfl | hq
    · exact Foot.of f4 f1
    · rw [List.mem_singleton.mp hq]; exact Foot.of f5 f3
theorem HI.openF (H : HI Z EL vm h n0 O RO FZ) (hi : FZ[i]? = some (a, tO cs)) : (∀ x ∈ cs, Lat x) ∧ ∃ b, HI Z EL vm h n0 O RO (FZ ++ [(a, sO b), (b, bO cs)]) := by
  obtain ⟨f1, f2, b, f3, f4, f5⟩ := H.2.2.2.2.2 _ (List.mem_of_getElem? hi)
  refine ⟨f2, b, H.1, H.2.1, H.2.2.1, H.2.2.2.1, H.2.2.2.2.1, fun q hq => ?_⟩
  rcases List.mem_append.mp hq with hq | hq
  · exact H.2.2.2.2.2 q hq
  · rcases List.mem_cons.mp hq with rfl | hq
    · exact Foot.of f4 f1
    · rw [List.mem_singleton.mp hq]; exact Foot.of f5 f3
end All
end Jvm.Own

namespace Jvm.Own
open Jvm Jvm.ClassFile Sem Op Lib Bundle Jvm.Free Jvm.Stand Jvm.LawKit Jvm.RoadKit
open Jvm.Free.XT (ushr ushrL cmpL)
/-! The framework, part 2: where a walk stands, and its steps. -/
def Goes (p : Program) (e : Env) (below : List Frame) (Post : Outcome → State → Prop) (S : State) : Prop := ∃ s₂ o, Steps p.tables e below S s₂ ∧ s₂.status = .running ∧ Ended s₂ below o ∧ Post o s₂
theorem Goes.pre {p : Program} {e : Env} {below : List Frame} {Post : Outcome → State → Prop} {S S' : State} (g : Goes p e below Post S') (k : ∀ t, Steps p.tables e below S' t → Steps p.tables e below S t) : Goes p e below Post S := by
  obtain ⟨t, o, h1, h2⟩ := g; exact ⟨t, o, k t h1, h2⟩
def Ctx (EL : List (String × Nat)) (Z : State) (name : String) (bytes : ByteArray) (maxL : Nat) (ret : Option FieldType) (p : Program) (meth : Method) (c : Code) : Prop :=
  p.tables.exec = Jvm.exec ∧ c.code = bytes ∧ c.maxLocals = maxL ∧ meth.sig.returnType = ret ∧ meth.locks = false ∧ meth.name = name ∧ ∃ a0, EW Z a0 EL
/-- where the walk of a body stands -/
def Now (nar : Bool) (EL : List (String × Nat)) (Z : State) (own name : String) (bytes : ByteArray) (maxL : Nat) (ret : Option FieldType) (p : Program) (l : Launch) (e : Env) (R : Room) (s : State) (m : MethodId) (args : Array Value) (below : List Frame) (meth : Method) (c : Code) (P : HL)
    (vm : Vm) (T : State) (k n : Nat) (O RO FZ : HL) : Prop :=
  Ctx EL Z name bytes maxL ret p meth c ∧ ∃ locs, Stand p l e R (s.setVm vm) m args below meth c T locs k n ∧ s.Since vm T.heap.size ∧ Z.Warmed39 vm ∧ vm.findClass own = some m.cls ∧ Fr Z.heap.size locs ∧ HI Z EL vm T.heap s.heap.size O RO FZ ∧ Keep s.heap T.heap (P.map (·.1)) ∧ CHr Z EL s.vm s.heap vm T.heap ∧ (nar = true → s.WarmedH vm) ∧ Lays P s.heap O
/-- what a body's end says -/
def Out (nar : Bool) (EL : List (String × Nat)) (Z : State) (P PR : HL) (Q : Option Value → HL → HL → Prop) (cells slots : Nat) (U : State) (o : Outcome) (U' : State) : Prop :=
  ∃ (v : Option Value) (L : List Loc) (O' FN : HL), o = .returned v ∧ Q v O' FN ∧ Fr Z.heap.size L ∧ HI Z EL U'.vm U'.heap U.heap.size O' PR FN ∧ Keep U.heap U'.heap (P.map (·.1)) ∧ Lays P U.heap O' ∧ CHr Z EL U.vm U.heap U'.vm U'.heap ∧ (nar = true → U.WarmedH U'.vm) ∧ ReturnedEndW U o U' L cells slots
/-- **a body's contract**: handed P (to write) and PR (to read), with these arguments, it returns; Q tells the value and what has become of P (new cells behind) -/
def ConW (nar : Bool) (EL : List (String × Nat)) (l : Launch) (Z : State) (ws : List Cond) (y : MethodName) (bytes : ByteArray) (maxL : Nat) (ret : Option FieldType) (rm : Room) (as' : List Value) (P PR : HL) (Q : Option Value → HL → HL → Prop) : Prop :=
  MetFree l y (head1 (Cond.code y bytes maxL ret :: ws) rm) (fun a U => a = as'.toArray ∧ Z.Warmed39 U.vm ∧ HI Z EL U.vm U.heap U.heap.size P PR []) (fun _ _ _ _ _ => True) (fun _ U o U' => Out nar EL Z P PR Q rm.cells rm.slots U o U')
abbrev Con (nar : Bool) (EL : List (String × Nat)) (l : Launch) (Z : State) (y : MethodName) (bytes : ByteArray) (maxL : Nat) (ret : Option FieldType) (rm : Room) (as' : List Value) (P PR : HL) (Q : Option Value → HL → HL → Prop) : Prop := ConW nar EL l Z [] y bytes maxL ret rm as' P PR Q
section Steps
variable {nar : Bool} {EL : List (String × Nat)} {Z : State} {a0 : Array Value} {own name : String} {bytes : ByteArray} {maxL : Nat} {ret : Option FieldType} {p : Program} {l : Launch} {e : Env} {R : Room} {s : State} {m : MethodId} {args : Array Value} {below : List Frame} {meth : Method} {c : Code} {P O RO O' RO' FZ FZ' : HL}
variable {vm : Vm} {T : State} {k n : Nat} {Post : Outcome → State → Prop} {pc : Nat} {Ls : Array Slot} {st : List Value}

theorem Now.cast (N : Now nar EL Z own name bytes maxL ret p l e R s m args below meth c P vm T k n O RO FZ) (h : O = O') : Now nar EL Z own name bytes maxL ret p l e R s m args below meth c P vm T k n O' RO FZ := h ▸ N
theorem Now.cast3 (N : Now nar EL Z own name bytes maxL ret p l e R s m args below meth c P vm T k n O RO FZ) (h : O = O') (h2 : RO = RO') (h3 : FZ = FZ') : Now nar EL Z own name bytes maxL ret p l e R s m args below meth c P vm T k n O' RO' FZ' := h ▸ h2 ▸ h3 ▸ N
theorem Now.more (N : Now nar EL Z own name bytes maxL ret p l e R s m args below meth c P vm T k n O RO FZ) {k' n' : Nat} (h1 : k ≤ k') (h2 : n ≤ n') : Now nar EL Z own name bytes maxL ret p l e R s m args below meth c P vm T k' n' O RO FZ := by
  obtain ⟨C, locs, X, r⟩ := N; exact ⟨C, locs, X.mono h1 h2, r⟩
theorem Now.forget (N : Now nar EL Z own name bytes maxL ret p l e R s m args below meth c P vm T k n O RO FZ) (hr : ∀ q ∈ RO', q ∈ RO) (hs : ∀ q ∈ FZ', q ∈ FZ) : Now nar EL Z own name bytes maxL ret p l e R s m args below meth c P vm T k n O RO' FZ' := by
  obtain ⟨C, locs, X, h1, h2, h3, h4, H, r⟩ := N; exact ⟨C, locs, X, h1, h2, h3, h4, H.forget hr hs, r⟩
theorem Now.either (N : Now nar EL Z own name bytes maxL ret p l e R s m args below meth c P vm T k n O RO FZ) {w : Addr} {q : Ob} {FN : HL} (hF : FZ = FZ' ++ FN) (h : FN = [(w, q)] ∨ (FN = [] ∧ (w, q) ∈ FZ')) : Now nar EL Z own name bytes maxL ret p l e R s m args below meth c P vm T k n O RO (FZ' ++ [(w, q)]) := by
  subst hF
  rcases h with rfl | ⟨rfl, h⟩
  · exact N
  · rw [List.append_nil] at N; exact N.forget (fun _ h => h) (fun z hz => (List.mem_append.mp hz).elim id (fun hz => by rw [List.mem_singleton.mp hz]; exact h))
theorem Now.str (N : Now nar EL Z own name bytes maxL ret p l e R s m args below meth c P vm T k n O RO FZ) {a b : Addr} {cs : List Int32} (i j : Nat) (hi : FZ[i]? = some (a, sO b)) (hj : FZ[j]? = some (b, bO cs)) (hc : ∀ x ∈ cs, Lat x) : Now nar EL Z own name bytes maxL ret p l e R s m args below meth c P vm T k n O RO (FZ ++ [(a, tO cs)]) := by
  obtain ⟨C, locs, X, h1, h2, h3, h4, H, r⟩ := N; exact ⟨C, locs, X, h1, h2, h3, h4, H.str hi hj hc, r⟩
theorem Now.openR (N : Now nar EL Z own name bytes maxL ret p l e R s m args below meth c P vm T k n O RO FZ) {a : Addr} {cs : List Int32} (i : Nat) (hi : RO[i]? = some (a, tO cs)) : (∀ x ∈ cs, Lat x) ∧ ∃ b, Now nar EL Z own name bytes maxL ret p l e R s m args below meth c P vm T k n O (RO ++ [(a, sO b), (b, bO cs)]) FZ := by
  obtain ⟨C, locs, X, h1, h2, h3, h4, H, r⟩ := N
  obtain ⟨hc, b, H'⟩ := H.openR hi
  exact ⟨hc, b, C, locs, X, h1, h2, h3, h4, H', r⟩
theorem Now.openF (N : Now nar EL Z own name bytes maxL ret p l e R s m args below meth c P vm T k n O RO FZ) {a : Addr} {cs : List Int32} (i : Nat) (hi : FZ[i]? = some (a, tO cs)) : (∀ x ∈ cs, Lat x) ∧ ∃ b, Now nar EL Z own name bytes maxL ret p l e R s m args below meth c P vm T k n O RO (FZ ++ [(a, sO b), (b, bO cs)]) := by
  obtain ⟨C, locs, X, h1, h2, h3, h4, H, r⟩ := N
  obtain ⟨hc, b, H'⟩ := H.openF hi
  exact ⟨hc, b, C, locs, X, h1, h2, h3, h4, H', r⟩
theorem Now.old (N : Now nar EL Z own name bytes maxL ret p l e R s m args below meth c P vm T k n O RO FZ) {a : Addr} {o : Ob} (F : Is Z Z.heap a o) : Now nar EL Z own name bytes maxL ret p l e R s m args below meth c P vm T k n O (RO ++ [(a, o)]) FZ := by
  obtain ⟨C, locs, X, h1, h2, h3, h4, H, r⟩ := N; exact ⟨C, locs, X, h1, h2, h3, h4, H.old F, r⟩
theorem Now.is (N : Now nar EL Z own name bytes maxL ret p l e R s m args below meth c P vm T k n O RO FZ) {i : Nat} {a : Addr} {o : Ob} (hi : (O ++ (RO ++ FZ))[i]? = some (a, o)) : Foot (fun _ => True) Z T.heap (a, o) := by
  obtain ⟨C, locs, X, h1, h2, h3, h4, H, r⟩ := N; exact H.at hi
theorem Now.nodup (N : Now nar EL Z own name bytes maxL ret p l e R s m args below meth c P vm T k n O RO FZ) : (O.map (·.1)).Nodup := by
  obtain ⟨C, locs, X, h1, h2, h3, h4, H, r⟩ := N; exact H.2.2.2.1
theorem Now.apart (N : Now nar EL Z own name bytes maxL ret p l e R s m args below meth c P vm T k n O RO FZ) {i j : Nat} {a b : Addr} {o o' : Ob} (hi : O[i]? = some (a, o)) (hj : O[j]? = some (b, o')) (hn : i ≠ j) : a ≠ b := fun q => by
  have a1 := at_fst hi
  have a2 := at_fst hj
  have a1' : (O.map (·.1))[i]? = some a := a1
  have a2' : (O.map (·.1))[j]? = some a := by rw [q]; exact a2
  exact hn (nodup_at N.nodup a1' a2')
theorem Now.aloadN (N : Now nar EL Z own name bytes maxL ret p l e R s m args below meth c P vm T k n O RO FZ) {j : Fin 4} {v : Value} (hd : decode bytes pc = .ok (.aload_n j, 1)) (hl : Ls[j.val]? = some (.val v)) (hv : v.isRef = true) (g : Goes p e below Post (T.setTop (mkF m (pc + 1) Ls (v :: st)))) : Goes p e below Post (T.setTop (mkF m pc Ls st)) := by
  obtain ⟨⟨hx, hby, -⟩, locs, X, -⟩ := N
  exact g.pre fun t q => XS.aloadN X.here hx rfl (hb hby hd) hl hv q
theorem Now.aload (N : Now nar EL Z own name bytes maxL ret p l e R s m args below meth c P vm T k n O RO FZ) {j : Nat} {v : Value} (hd : decode bytes pc = .ok (.aload j, 2)) (hl : Ls[j]? = some (.val v)) (hv : v.isRef = true) (g : Goes p e below Post (T.setTop (mkF m (pc + 2) Ls (v :: st)))) : Goes p e below Post (T.setTop (mkF m pc Ls st)) := by
  obtain ⟨⟨hx, hby, -⟩, locs, X, -⟩ := N
  exact g.pre fun t q => XS.aload X.here hx rfl (hb hby hd) hl hv q
theorem Now.iloadN (N : Now nar EL Z own name bytes maxL ret p l e R s m args below meth c P vm T k n O RO FZ) {j : Fin 4} {v : Int32} (hd : decode bytes pc = .ok (.iload_n j, 1)) (hl : Ls[j.val]? = some (.val (.int v))) (g : Goes p e below Post (T.setTop (mkF m (pc + 1) Ls (.int v :: st)))) : Goes p e below Post (T.setTop (mkF m pc Ls st)) := by
  obtain ⟨⟨hx, hby, -⟩, locs, X, -⟩ := N
  exact g.pre fun t q => XS.iloadN X.here hx rfl (hb hby hd) hl q
theorem Now.iload (N : Now nar EL Z own name bytes maxL ret p l e R s m args below meth c P vm T k n O RO FZ) {j : Nat} {v : Int32} (hd : decode bytes pc = .ok (.iload j, 2)) (hl : Ls[j]? = some (.val (.int v))) (g : Goes p e below Post (T.setTop (mkF m (pc + 2) Ls (.int v :: st)))) : Goes p e below Post (T.setTop (mkF m pc Ls st)) := by
  obtain ⟨⟨hx, hby, -⟩, locs, X, -⟩ := N
  exact g.pre fun t q => XS.iload X.here hx rfl (hb hby hd) hl q
theorem Now.lloadN (N : Now nar EL Z own name bytes maxL ret p l e R s m args below meth c P vm T k n O RO FZ) {j : Fin 4} {v : Int64} (hd : decode bytes pc = .ok (.lload_n j, 1)) (hl : Ls[j.val]? = some (.val (.long v))) (g : Goes p e below Post (T.setTop (mkF m (pc + 1) Ls (.long v :: st)))) : Goes p e below Post (T.setTop (mkF m pc Ls st)) := by
  obtain ⟨⟨hx, hby, -⟩, locs, X, -⟩ := N
  exact g.pre fun t q => XT.lloadN X.here hx rfl (hb hby hd) hl q
theorem Now.lload (N : Now nar EL Z own name bytes maxL ret p l e R s m args below meth c P vm T k n O RO FZ) {j : Nat} {v : Int64} (hd : decode bytes pc = .ok (.lload j, 2)) (hl : Ls[j]? = some (.val (.long v))) (g : Goes p e below Post (T.setTop (mkF m (pc + 2) Ls (.long v :: st)))) : Goes p e below Post (T.setTop (mkF m pc Ls st)) := by
  obtain ⟨⟨hx, hby, -⟩, locs, X, -⟩ := N
  exact g.pre fun t q => XT.lload X.here hx rfl (hb hby hd) hl q
theorem Now.iconst (N : Now nar EL Z own name bytes maxL ret p l e R s m args below meth c P vm T k n O RO FZ) {i : Int} (v : Int32) (hd : decode bytes pc = .ok (.iconst i, 1)) (hv : Int32.ofInt i = v) (g : Goes p e below Post (T.setTop (mkF m (pc + 1) Ls (.int v :: st)))) : Goes p e below Post (T.setTop (mkF m pc Ls st)) := by
  obtain ⟨⟨hx, hby, -⟩, locs, X, -⟩ := N
  exact g.pre fun t q => XT.iconstV X.here hx rfl v (hb hby hd) hv q
theorem Now.bipush (N : Now nar EL Z own name bytes maxL ret p l e R s m args below meth c P vm T k n O RO FZ) {i : Int} (v : Int32) (hd : decode bytes pc = .ok (.bipush i, 2)) (hv : (Int8.ofInt i).toInt32 = v) (g : Goes p e below Post (T.setTop (mkF m (pc + 2) Ls (.int v :: st)))) : Goes p e below Post (T.setTop (mkF m pc Ls st)) := by
  obtain ⟨⟨hx, hby, -⟩, locs, X, -⟩ := N
  exact g.pre fun t q => XT.bipushV X.here hx rfl v (hb hby hd) hv q
theorem Now.sipush (N : Now nar EL Z own name bytes maxL ret p l e R s m args below meth c P vm T k n O RO FZ) {i : Int} (v : Int32) (hd : decode bytes pc = .ok (.sipush i, 3)) (hv : (Int16.ofInt i).toInt32 = v) (g : Goes p e below Post (T.setTop (mkF m (pc + 3) Ls (.int v :: st)))) : Goes p e below Post (T.setTop (mkF m pc Ls st)) := by
  obtain ⟨⟨hx, hby, -⟩, locs, X, -⟩ := N
  exact g.pre fun t q => XT.sipushV X.here hx rfl v (hb hby hd) hv q
theorem Now.lconst (N : Now nar EL Z own name bytes maxL ret p l e R s m args below meth c P vm T k n O RO FZ) {j : Fin 2} (v : Int64) (hd : decode bytes pc = .ok (.lconst j, 1)) (hv : Int64.ofNat j = v) (g : Goes p e below Post (T.setTop (mkF m (pc + 1) Ls (.long v :: st)))) : Goes p e below Post (T.setTop (mkF m pc Ls st)) := by
  obtain ⟨⟨hx, hby, -⟩, locs, X, -⟩ := N
  exact g.pre fun t q => XT.lconstV X.here hx rfl v (hb hby hd) hv q
theorem Now.aconst (N : Now nar EL Z own name bytes maxL ret p l e R s m args below meth c P vm T k n O RO FZ)  (hd : decode bytes pc = .ok (.aconst_null, 1)) (g : Goes p e below Post (T.setTop (mkF m (pc + 1) Ls (.null :: st)))) : Goes p e below Post (T.setTop (mkF m pc Ls st)) := by
  obtain ⟨⟨hx, hby, -⟩, locs, X, -⟩ := N
  exact g.pre fun t q => XS.aconstNull X.here hx rfl (hb hby hd) q
theorem Now.iadd (N : Now nar EL Z own name bytes maxL ret p l e R s m args below meth c P vm T k n O RO FZ) {x y : Int32} (hd : decode bytes pc = .ok (.iadd, 1)) (g : Goes p e below Post (T.setTop (mkF m (pc + 1) Ls (.int (x + y) :: st)))) : Goes p e below Post (T.setTop (mkF m pc Ls (.int y :: .int x :: st))) := by
  obtain ⟨⟨hx, hby, -⟩, locs, X, -⟩ := N
  exact g.pre fun t q => XS.iadd X.here hx rfl (hb hby hd) rfl q
theorem Now.isub (N : Now nar EL Z own name bytes maxL ret p l e R s m args below meth c P vm T k n O RO FZ) {x y : Int32} (hd : decode bytes pc = .ok (.isub, 1)) (g : Goes p e below Post (T.setTop (mkF m (pc + 1) Ls (.int (x - y) :: st)))) : Goes p e below Post (T.setTop (mkF m pc Ls (.int y :: .int x :: st))) := by
  obtain ⟨⟨hx, hby, -⟩, locs, X, -⟩ := N
  exact g.pre fun t q => XS.isub X.here hx rfl (hb hby hd) rfl q
theorem Now.iand (N : Now nar EL Z own name bytes maxL ret p l e R s m args below meth c P vm T k n O RO FZ) {x y : Int32} (hd : decode bytes pc = .ok (.iand, 1)) (g : Goes p e below Post (T.setTop (mkF m (pc + 1) Ls (.int (x &&& y) :: st)))) : Goes p e below Post (T.setTop (mkF m pc Ls (.int y :: .int x :: st))) := by
  obtain ⟨⟨hx, hby, -⟩, locs, X, -⟩ := N
  exact g.pre fun t q => XS.iand X.here hx rfl (hb hby hd) rfl q
theorem Now.imul (N : Now nar EL Z own name bytes maxL ret p l e R s m args below meth c P vm T k n O RO FZ) {x y : Int32} (hd : decode bytes pc = .ok (.imul, 1)) (g : Goes p e below Post (T.setTop (mkF m (pc + 1) Ls (.int (x * y) :: st)))) : Goes p e below Post (T.setTop (mkF m pc Ls (.int y :: .int x :: st))) := by
  obtain ⟨⟨hx, hby, -⟩, locs, X, -⟩ := N
  exact g.pre fun t q => XS.imul X.here hx rfl (hb hby hd) rfl q
theorem Now.ixor (N : Now nar EL Z own name bytes maxL ret p l e R s m args below meth c P vm T k n O RO FZ) {x y : Int32} (hd : decode bytes pc = .ok (.ixor, 1)) (g : Goes p e below Post (T.setTop (mkF m (pc + 1) Ls (.int (x ^^^ y) :: st)))) : Goes p e below Post (T.setTop (mkF m pc Ls (.int y :: .int x :: st))) := by
  obtain ⟨⟨hx, hby, -⟩, locs, X, -⟩ := N
  exact g.pre fun t q => XT.ixor X.here hx rfl (hb hby hd) rfl q
theorem Now.ior (N : Now nar EL Z own name bytes maxL ret p l e R s m args below meth c P vm T k n O RO FZ) {x y : Int32} (hd : decode bytes pc = .ok (.ior, 1)) (g : Goes p e below Post (T.setTop (mkF m (pc + 1) Ls (.int (x ||| y) :: st)))) : Goes p e below Post (T.setTop (mkF m pc Ls (.int y :: .int x :: st))) := by
  obtain ⟨⟨hx, hby, -⟩, locs, X, -⟩ := N
  exact g.pre fun t q => XT.ior X.here hx rfl (hb hby hd) rfl q
theorem Now.ishl (N : Now nar EL Z own name bytes maxL ret p l e R s m args below meth c P vm T k n O RO FZ) {x y : Int32} (hd : decode bytes pc = .ok (.ishl, 1)) (g : Goes p e below Post (T.setTop (mkF m (pc + 1) Ls (.int (x <<< (y &&& 31)) :: st)))) : Goes p e below Post (T.setTop (mkF m pc Ls (.int y :: .int x :: st))) := by
  obtain ⟨⟨hx, hby, -⟩, locs, X, -⟩ := N
  exact g.pre fun t q => XT.ishl X.here hx rfl (hb hby hd) rfl q
theorem Now.ishr (N : Now nar EL Z own name bytes maxL ret p l e R s m args below meth c P vm T k n O RO FZ) {x y : Int32} (hd : decode bytes pc = .ok (.ishr, 1)) (g : Goes p e below Post (T.setTop (mkF m (pc + 1) Ls (.int (x >>> (y &&& 31)) :: st)))) : Goes p e below Post (T.setTop (mkF m pc Ls (.int y :: .int x :: st))) := by
  obtain ⟨⟨hx, hby, -⟩, locs, X, -⟩ := N
  exact g.pre fun t q => XT.ishr X.here hx rfl (hb hby hd) rfl q
theorem Now.iushr (N : Now nar EL Z own name bytes maxL ret p l e R s m args below meth c P vm T k n O RO FZ) {x y : Int32} (hd : decode bytes pc = .ok (.iushr, 1)) (g : Goes p e below Post (T.setTop (mkF m (pc + 1) Ls (.int (ushr x y) :: st)))) : Goes p e below Post (T.setTop (mkF m pc Ls (.int y :: .int x :: st))) := by
  obtain ⟨⟨hx, hby, -⟩, locs, X, -⟩ := N
  exact g.pre fun t q => XT.iushr X.here hx rfl (hb hby hd) rfl q
theorem Now.ladd (N : Now nar EL Z own name bytes maxL ret p l e R s m args below meth c P vm T k n O RO FZ) {x y : Int64} (hd : decode bytes pc = .ok (.ladd, 1)) (g : Goes p e below Post (T.setTop (mkF m (pc + 1) Ls (.long (x + y) :: st)))) : Goes p e below Post (T.setTop (mkF m pc Ls (.long y :: .long x :: st))) := by
  obtain ⟨⟨hx, hby, -⟩, locs, X, -⟩ := N
  exact g.pre fun t q => XT.ladd X.here hx rfl (hb hby hd) rfl q
theorem Now.lsub (N : Now nar EL Z own name bytes maxL ret p l e R s m args below meth c P vm T k n O RO FZ) {x y : Int64} (hd : decode bytes pc = .ok (.lsub, 1)) (g : Goes p e below Post (T.setTop (mkF m (pc + 1) Ls (.long (x - y) :: st)))) : Goes p e below Post (T.setTop (mkF m pc Ls (.long y :: .long x :: st))) := by
  obtain ⟨⟨hx, hby, -⟩, locs, X, -⟩ := N
  exact g.pre fun t q => XT.lsub X.here hx rfl (hb hby hd) rfl q
theorem Now.land (N : Now nar EL Z own name bytes maxL ret p l e R s m args below meth c P vm T k n O RO FZ) {x y : Int64} (hd : decode bytes pc = .ok (.land, 1)) (g : Goes p e below Post (T.setTop (mkF m (pc + 1) Ls (.long (x &&& y) :: st)))) : Goes p e below Post (T.setTop (mkF m pc Ls (.long y :: .long x :: st))) := by
  obtain ⟨⟨hx, hby, -⟩, locs, X, -⟩ := N
  exact g.pre fun t q => XT.land X.here hx rfl (hb hby hd) rfl q
theorem Now.lor (N : Now nar EL Z own name bytes maxL ret p l e R s m args below meth c P vm T k n O RO FZ) {x y : Int64} (hd : decode bytes pc = .ok (.lor, 1)) (g : Goes p e below Post (T.setTop (mkF m (pc + 1) Ls (.long (x ||| y) :: st)))) : Goes p e below Post (T.setTop (mkF m pc Ls (.long y :: .long x :: st))) := by
  obtain ⟨⟨hx, hby, -⟩, locs, X, -⟩ := N
  exact g.pre fun t q => XT.lor X.here hx rfl (hb hby hd) rfl q
theorem Now.lushr (N : Now nar EL Z own name bytes maxL ret p l e R s m args below meth c P vm T k n O RO FZ) {x : Int64} {y : Int32} (hd : decode bytes pc = .ok (.lushr, 1)) (g : Goes p e below Post (T.setTop (mkF m (pc + 1) Ls (.long (ushrL x y) :: st)))) : Goes p e below Post (T.setTop (mkF m pc Ls (.int y :: .long x :: st))) := by
  obtain ⟨⟨hx, hby, -⟩, locs, X, -⟩ := N
  exact g.pre fun t q => XT.lushr X.here hx rfl (hb hby hd) rfl q
theorem Now.lrem (N : Now nar EL Z own name bytes maxL ret p l e R s m args below meth c P vm T k n O RO FZ) {x y : Int64} (hd : decode bytes pc = .ok (.lrem, 1)) (hy : y ≠ 0) (g : Goes p e below Post (T.setTop (mkF m (pc + 1) Ls (.long (x - (x / y) * y) :: st)))) : Goes p e below Post (T.setTop (mkF m pc Ls (.long y :: .long x :: st))) := by
  obtain ⟨⟨hx, hby, -⟩, locs, X, -⟩ := N
  exact g.pre fun t q => XT.lrem X.here hx rfl (hb hby hd) rfl hy q
theorem Now.idiv (N : Now nar EL Z own name bytes maxL ret p l e R s m args below meth c P vm T k n O RO FZ) {x y : Int32} (hd : decode bytes pc = .ok (.idiv, 1)) (hy : y ≠ 0) (g : Goes p e below Post (T.setTop (mkF m (pc + 1) Ls (.int (x / y) :: st)))) : Goes p e below Post (T.setTop (mkF m pc Ls (.int y :: .int x :: st))) := by
  obtain ⟨⟨hx, hby, -⟩, locs, X, -⟩ := N
  exact g.pre fun t q => XS.idiv X.here hx rfl (hb hby hd) rfl hy q
theorem Now.irem (N : Now nar EL Z own name bytes maxL ret p l e R s m args below meth c P vm T k n O RO FZ) {x y : Int32} (hd : decode bytes pc = .ok (.irem, 1)) (hy : y ≠ 0) (g : Goes p e below Post (T.setTop (mkF m (pc + 1) Ls (.int (x % y) :: st)))) : Goes p e below Post (T.setTop (mkF m pc Ls (.int y :: .int x :: st))) := by
  obtain ⟨⟨hx, hby, -⟩, locs, X, -⟩ := N
  exact g.pre fun t q => iremM X hx rfl (hb hby hd) rfl hy q
theorem Now.ineg (N : Now nar EL Z own name bytes maxL ret p l e R s m args below meth c P vm T k n O RO FZ) {x : Int32} (hd : decode bytes pc = .ok (.ineg, 1)) (g : Goes p e below Post (T.setTop (mkF m (pc + 1) Ls (.int (-x) :: st)))) : Goes p e below Post (T.setTop (mkF m pc Ls (.int x :: st))) := by
  obtain ⟨⟨hx, hby, -⟩, locs, X, -⟩ := N
  exact g.pre fun t q => XS.ineg X.here hx rfl (hb hby hd) rfl q
theorem Now.i2l (N : Now nar EL Z own name bytes maxL ret p l e R s m args below meth c P vm T k n O RO FZ) {x : Int32} (hd : decode bytes pc = .ok (.i2l, 1)) (g : Goes p e below Post (T.setTop (mkF m (pc + 1) Ls (.long (x.toInt64) :: st)))) : Goes p e below Post (T.setTop (mkF m pc Ls (.int x :: st))) := by
  obtain ⟨⟨hx, hby, -⟩, locs, X, -⟩ := N
  exact g.pre fun t q => XT.i2l X.here hx rfl (hb hby hd) rfl q
theorem Now.l2i (N : Now nar EL Z own name bytes maxL ret p l e R s m args below meth c P vm T k n O RO FZ) {x : Int64} (hd : decode bytes pc = .ok (.l2i, 1)) (g : Goes p e below Post (T.setTop (mkF m (pc + 1) Ls (.int (x.toInt32) :: st)))) : Goes p e below Post (T.setTop (mkF m pc Ls (.long x :: st))) := by
  obtain ⟨⟨hx, hby, -⟩, locs, X, -⟩ := N
  exact g.pre fun t q => XT.l2i X.here hx rfl (hb hby hd) rfl q
theorem Now.i2b (N : Now nar EL Z own name bytes maxL ret p l e R s m args below meth c P vm T k n O RO FZ) {x : Int32} (hd : decode bytes pc = .ok (.i2b, 1)) (g : Goes p e below Post (T.setTop (mkF m (pc + 1) Ls (.int (x.toInt8.toInt32) :: st)))) : Goes p e below Post (T.setTop (mkF m pc Ls (.int x :: st))) := by
  obtain ⟨⟨hx, hby, -⟩, locs, X, -⟩ := N
  exact g.pre fun t q => XT.i2b X.here hx rfl (hb hby hd) rfl q
theorem Now.i2c (N : Now nar EL Z own name bytes maxL ret p l e R s m args below meth c P vm T k n O RO FZ) {x : Int32} (hd : decode bytes pc = .ok (.i2c, 1)) (g : Goes p e below Post (T.setTop (mkF m (pc + 1) Ls (.int (x.toUInt32.toUInt16.toUInt32.toInt32) :: st)))) : Goes p e below Post (T.setTop (mkF m pc Ls (.int x :: st))) := by
  obtain ⟨⟨hx, hby, -⟩, locs, X, -⟩ := N
  exact g.pre fun t q => XT.i2c X.here hx rfl (hb hby hd) rfl q
theorem Now.i2s (N : Now nar EL Z own name bytes maxL ret p l e R s m args below meth c P vm T k n O RO FZ) {x : Int32} (hd : decode bytes pc = .ok (.i2s, 1)) (g : Goes p e below Post (T.setTop (mkF m (pc + 1) Ls (.int (x.toInt16.toInt32) :: st)))) : Goes p e below Post (T.setTop (mkF m pc Ls (.int x :: st))) := by
  obtain ⟨⟨hx, hby, -⟩, locs, X, -⟩ := N
  exact g.pre fun t q => XT.i2s X.here hx rfl (hb hby hd) rfl q
theorem Now.lcmp (N : Now nar EL Z own name bytes maxL ret p l e R s m args below meth c P vm T k n O RO FZ) {x y : Int64} (hd : decode bytes pc = .ok (.lcmp, 1)) (g : Goes p e below Post (T.setTop (mkF m (pc + 1) Ls (.int (cmpL x y) :: st)))) : Goes p e below Post (T.setTop (mkF m pc Ls (.long y :: .long x :: st))) := by
  obtain ⟨⟨hx, hby, -⟩, locs, X, -⟩ := N
  exact g.pre fun t q => XT.lcmp X.here hx rfl (hb hby hd) rfl q
theorem Now.pop (N : Now nar EL Z own name bytes maxL ret p l e R s m args below meth c P vm T k n O RO FZ) {x : Value} (hd : decode bytes pc = .ok (.pop, 1)) (hc : x.category = 1) (g : Goes p e below Post (T.setTop (mkF m (pc + 1) Ls st))) : Goes p e below Post (T.setTop (mkF m pc Ls (x :: st))) := by
  obtain ⟨⟨hx, hby, -⟩, locs, X, -⟩ := N
  exact g.pre fun t q => XT.pop X.here hx rfl (hb hby hd) rfl hc q
theorem Now.dup (N : Now nar EL Z own name bytes maxL ret p l e R s m args below meth c P vm T k n O RO FZ) {x : Value} (hd : decode bytes pc = .ok (.dup, 1)) (hc : x.category = 1) (g : Goes p e below Post (T.setTop (mkF m (pc + 1) Ls (x :: x :: st)))) : Goes p e below Post (T.setTop (mkF m pc Ls (x :: st))) := by
  obtain ⟨⟨hx, hby, -⟩, locs, X, -⟩ := N
  exact g.pre fun t q => XS.dup X.here hx rfl (hb hby hd) rfl hc q
theorem Now.dupX1 (N : Now nar EL Z own name bytes maxL ret p l e R s m args below meth c P vm T k n O RO FZ) {x y : Value} (hd : decode bytes pc = .ok (.dup_x1, 1)) (hc : x.category = 1) (hc' : y.category = 1) (g : Goes p e below Post (T.setTop (mkF m (pc + 1) Ls (x :: y :: x :: st)))) : Goes p e below Post (T.setTop (mkF m pc Ls (x :: y :: st))) := by
  obtain ⟨⟨hx, hby, -⟩, locs, X, -⟩ := N
  exact g.pre fun t q => XT.dupX1 X.here hx rfl (hb hby hd) rfl hc hc' q
theorem Now.istoreN (N : Now nar EL Z own name bytes maxL ret p l e R s m args below meth c P vm T k n O RO FZ) {j : Fin 4} {x : Int32} {l' : Array Slot} (hd : decode bytes pc = .ok (.istore_n j, 1)) (hl : storeLocals Ls j.val (.int x) = some l') (g : Goes p e below Post (T.setTop (mkF m (pc + 1) l' st))) : Goes p e below Post (T.setTop (mkF m pc Ls (.int x :: st))) := by
  obtain ⟨⟨hx, hby, -⟩, locs, X, -⟩ := N
  exact g.pre fun t q => XS.istoreN X.here hx rfl (hb hby hd) rfl hl q
theorem Now.istore (N : Now nar EL Z own name bytes maxL ret p l e R s m args below meth c P vm T k n O RO FZ) {j : Nat} {x : Int32} {l' : Array Slot} (hd : decode bytes pc = .ok (.istore j, 2)) (hl : storeLocals Ls j (.int x) = some l') (g : Goes p e below Post (T.setTop (mkF m (pc + 2) l' st))) : Goes p e below Post (T.setTop (mkF m pc Ls (.int x :: st))) := by
  obtain ⟨⟨hx, hby, -⟩, locs, X, -⟩ := N
  exact g.pre fun t q => XS.istore X.here hx rfl (hb hby hd) rfl hl q
theorem Now.lstoreN (N : Now nar EL Z own name bytes maxL ret p l e R s m args below meth c P vm T k n O RO FZ) {j : Fin 4} {x : Int64} {l' : Array Slot} (hd : decode bytes pc = .ok (.lstore_n j, 1)) (hl : storeLocals Ls j.val (.long x) = some l') (g : Goes p e below Post (T.setTop (mkF m (pc + 1) l' st))) : Goes p e below Post (T.setTop (mkF m pc Ls (.long x :: st))) := by
  obtain ⟨⟨hx, hby, -⟩, locs, X, -⟩ := N
  exact g.pre fun t q => XT.lstoreN X.here hx rfl (hb hby hd) rfl hl q
theorem Now.lstore (N : Now nar EL Z own name bytes maxL ret p l e R s m args below meth c P vm T k n O RO FZ) {j : Nat} {x : Int64} {l' : Array Slot} (hd : decode bytes pc = .ok (.lstore j, 2)) (hl : storeLocals Ls j (.long x) = some l') (g : Goes p e below Post (T.setTop (mkF m (pc + 2) l' st))) : Goes p e below Post (T.setTop (mkF m pc Ls (.long x :: st))) := by
  obtain ⟨⟨hx, hby, -⟩, locs, X, -⟩ := N
  exact g.pre fun t q => XT.lstore X.here hx rfl (hb hby hd) rfl hl q
theorem Now.astoreN (N : Now nar EL Z own name bytes maxL ret p l e R s m args below meth c P vm T k n O RO FZ) {j : Fin 4} {x : Value} {l' : Array Slot} (hd : decode bytes pc = .ok (.astore_n j, 1)) (hv : x.isRef = true) (hl : storeLocals Ls j.val x = some l') (g : Goes p e below Post (T.setTop (mkF m (pc + 1) l' st))) : Goes p e below Post (T.setTop (mkF m pc Ls (x :: st))) := by
  obtain ⟨⟨hx, hby, -⟩, locs, X, -⟩ := N
  exact g.pre fun t q => XS.astoreN X.here hx rfl (hb hby hd) rfl hv hl q
theorem Now.astore (N : Now nar EL Z own name bytes maxL ret p l e R s m args below meth c P vm T k n O RO FZ) {j : Nat} {x : Value} {l' : Array Slot} (hd : decode bytes pc = .ok (.astore j, 2)) (hv : x.isRef = true) (hl : storeLocals Ls j x = some l') (g : Goes p e below Post (T.setTop (mkF m (pc + 2) l' st))) : Goes p e below Post (T.setTop (mkF m pc Ls (x :: st))) := by
  obtain ⟨⟨hx, hby, -⟩, locs, X, -⟩ := N
  exact g.pre fun t q => XS.astore X.here hx rfl (hb hby hd) rfl hv hl q
theorem Now.iinc (N : Now nar EL Z own name bytes maxL ret p l e R s m args below meth c P vm T k n O RO FZ) {j : Nat} {i : Int} {x : Int32} {l' : Array Slot} (v : Int32) (hd : decode bytes pc = .ok (.iinc j i, 3)) (hv : Int32.ofInt i = v) (hl : Ls[j]? = some (.val (.int x))) (hl' : storeLocals Ls j (.int (x + v)) = some l') (g : Goes p e below Post (T.setTop (mkF m (pc + 3) l' st))) : Goes p e below Post (T.setTop (mkF m pc Ls st)) := by
  obtain ⟨⟨hx, hby, -⟩, locs, X, -⟩ := N
  exact g.pre fun t q => XT.iincV X.here hx rfl v (hb hby hd) hv hl hl' q
theorem Now.goto (N : Now nar EL Z own name bytes maxL ret p l e R s m args below meth c P vm T k n O RO FZ) {o : Int} {pc' : Nat} (hd : decode bytes pc = .ok (.goto o, 3)) (hp : (pc : Int) + o = (pc' : Int)) (g : Goes p e below Post (T.setTop (mkF m pc' Ls st))) : Goes p e below Post (T.setTop (mkF m pc Ls st)) := by
  obtain ⟨⟨hx, hby, -⟩, locs, X, -⟩ := N
  exact g.pre fun t q => XS.goto X.here hx rfl (pc0 := pc) rfl (hb hby hd) (by omega) (by omega) q
theorem Now.ifeqT (N : Now nar EL Z own name bytes maxL ret p l e R s m args below meth c P vm T k n O RO FZ) {o : Int} {pc' : Nat} {x : Int32} (hd : decode bytes pc = .ok (.ifCond .eq o, 3)) (hp : (pc : Int) + o = (pc' : Int)) (hc : x = 0) (g : Goes p e below Post (T.setTop (mkF m pc' Ls st))) : Goes p e below Post (T.setTop (mkF m pc Ls (.int x :: st))) := by
  obtain ⟨⟨hx, hby, -⟩, locs, X, -⟩ := N
  exact g.pre fun t q => XS.ifYes X.here hx rfl (pc0 := pc) rfl (hb hby hd) rfl (XT.i0_eq_t hc) (by omega) (by omega) q
theorem Now.ifeqF (N : Now nar EL Z own name bytes maxL ret p l e R s m args below meth c P vm T k n O RO FZ) {o : Int} {x : Int32} (hd : decode bytes pc = .ok (.ifCond .eq o, 3)) (hc : ¬ x = 0) (g : Goes p e below Post (T.setTop (mkF m (pc + 3) Ls st))) : Goes p e below Post (T.setTop (mkF m pc Ls (.int x :: st))) := by
  obtain ⟨⟨hx, hby, -⟩, locs, X, -⟩ := N
  exact g.pre fun t q => XS.ifNo X.here hx rfl (hb hby hd) rfl (XT.i0_eq_f hc) q
theorem Now.icmpeqT (N : Now nar EL Z own name bytes maxL ret p l e R s m args below meth c P vm T k n O RO FZ) {o : Int} {pc' : Nat} {x y : Int32} (hd : decode bytes pc = .ok (.if_icmp .eq o, 3)) (hp : (pc : Int) + o = (pc' : Int)) (hc : x = y) (g : Goes p e below Post (T.setTop (mkF m pc' Ls st))) : Goes p e below Post (T.setTop (mkF m pc Ls (.int y :: .int x :: st))) := by
  obtain ⟨⟨hx, hby, -⟩, locs, X, -⟩ := N
  exact g.pre fun t q => XS.icmpYes X.here hx rfl (pc0 := pc) rfl (hb hby hd) rfl (XT.ii_eq_t hc) (by omega) (by omega) q
theorem Now.icmpeqF (N : Now nar EL Z own name bytes maxL ret p l e R s m args below meth c P vm T k n O RO FZ) {o : Int} {x y : Int32} (hd : decode bytes pc = .ok (.if_icmp .eq o, 3)) (hc : ¬ x = y) (g : Goes p e below Post (T.setTop (mkF m (pc + 3) Ls st))) : Goes p e below Post (T.setTop (mkF m pc Ls (.int y :: .int x :: st))) := by
  obtain ⟨⟨hx, hby, -⟩, locs, X, -⟩ := N
  exact g.pre fun t q => XS.icmpNo X.here hx rfl (hb hby hd) rfl (XT.ii_eq_f hc) q
theorem Now.lcmpeqT (N : Now nar EL Z own name bytes maxL ret p l e R s m args below meth c P vm T k n O RO FZ) {o : Int} {pc' : Nat} {x y : Int64} (hd : decode bytes pc = .ok (.ifCond .eq o, 3)) (hp : (pc : Int) + o = (pc' : Int)) (hc : x = y) (g : Goes p e below Post (T.setTop (mkF m pc' Ls st))) : Goes p e below Post (T.setTop (mkF m pc Ls (.int (cmpL x y) :: st))) := by
  obtain ⟨⟨hx, hby, -⟩, locs, X, -⟩ := N
  exact g.pre fun t q => XS.ifYes X.here hx rfl (pc0 := pc) rfl (hb hby hd) rfl (XT.ll_eq_t hc) (by omega) (by omega) q
theorem Now.lcmpeqF (N : Now nar EL Z own name bytes maxL ret p l e R s m args below meth c P vm T k n O RO FZ) {o : Int} {x y : Int64} (hd : decode bytes pc = .ok (.ifCond .eq o, 3)) (hc : ¬ x = y) (g : Goes p e below Post (T.setTop (mkF m (pc + 3) Ls st))) : Goes p e below Post (T.setTop (mkF m pc Ls (.int (cmpL x y) :: st))) := by
  obtain ⟨⟨hx, hby, -⟩, locs, X, -⟩ := N
  exact g.pre fun t q => XS.ifNo X.here hx rfl (hb hby hd) rfl (XT.ll_eq_f hc) q
theorem Now.ifneT (N : Now nar EL Z own name bytes maxL ret p l e R s m args below meth c P vm T k n O RO FZ) {o : Int} {pc' : Nat} {x : Int32} (hd : decode bytes pc = .ok (.ifCond .ne o, 3)) (hp : (pc : Int) + o = (pc' : Int)) (hc : ¬ x = 0) (g : Goes p e below Post (T.setTop (mkF m pc' Ls st))) : Goes p e below Post (T.setTop (mkF m pc Ls (.int x :: st))) := by
  obtain ⟨⟨hx, hby, -⟩, locs, X, -⟩ := N
  exact g.pre fun t q => XS.ifYes X.here hx rfl (pc0 := pc) rfl (hb hby hd) rfl (XT.i0_ne_t hc) (by omega) (by omega) q
theorem Now.ifneF (N : Now nar EL Z own name bytes maxL ret p l e R s m args below meth c P vm T k n O RO FZ) {o : Int} {x : Int32} (hd : decode bytes pc = .ok (.ifCond .ne o, 3)) (hc : x = 0) (g : Goes p e below Post (T.setTop (mkF m (pc + 3) Ls st))) : Goes p e below Post (T.setTop (mkF m pc Ls (.int x :: st))) := by
  obtain ⟨⟨hx, hby, -⟩, locs, X, -⟩ := N
  exact g.pre fun t q => XS.ifNo X.here hx rfl (hb hby hd) rfl (XT.i0_ne_f hc) q
theorem Now.icmpneT (N : Now nar EL Z own name bytes maxL ret p l e R s m args below meth c P vm T k n O RO FZ) {o : Int} {pc' : Nat} {x y : Int32} (hd : decode bytes pc = .ok (.if_icmp .ne o, 3)) (hp : (pc : Int) + o = (pc' : Int)) (hc : ¬ x = y) (g : Goes p e below Post (T.setTop (mkF m pc' Ls st))) : Goes p e below Post (T.setTop (mkF m pc Ls (.int y :: .int x :: st))) := by
  obtain ⟨⟨hx, hby, -⟩, locs, X, -⟩ := N
  exact g.pre fun t q => XS.icmpYes X.here hx rfl (pc0 := pc) rfl (hb hby hd) rfl (XT.ii_ne_t hc) (by omega) (by omega) q
theorem Now.icmpneF (N : Now nar EL Z own name bytes maxL ret p l e R s m args below meth c P vm T k n O RO FZ) {o : Int} {x y : Int32} (hd : decode bytes pc = .ok (.if_icmp .ne o, 3)) (hc : x = y) (g : Goes p e below Post (T.setTop (mkF m (pc + 3) Ls st))) : Goes p e below Post (T.setTop (mkF m pc Ls (.int y :: .int x :: st))) := by
  obtain ⟨⟨hx, hby, -⟩, locs, X, -⟩ := N
  exact g.pre fun t q => XS.icmpNo X.here hx rfl (hb hby hd) rfl (XT.ii_ne_f hc) q
theorem Now.lcmpneT (N : Now nar EL Z own name bytes maxL ret p l e R s m args below meth c P vm T k n O RO FZ) {o : Int} {pc' : Nat} {x y : Int64} (hd : decode bytes pc = .ok (.ifCond .ne o, 3)) (hp : (pc : Int) + o = (pc' : Int)) (hc : ¬ x = y) (g : Goes p e below Post (T.setTop (mkF m pc' Ls st))) : Goes p e below Post (T.setTop (mkF m pc Ls (.int (cmpL x y) :: st))) := by
  obtain ⟨⟨hx, hby, -⟩, locs, X, -⟩ := N
  exact g.pre fun t q => XS.ifYes X.here hx rfl (pc0 := pc) rfl (hb hby hd) rfl (XT.ll_ne_t hc) (by omega) (by omega) q
theorem Now.lcmpneF (N : Now nar EL Z own name bytes maxL ret p l e R s m args below meth c P vm T k n O RO FZ) {o : Int} {x y : Int64} (hd : decode bytes pc = .ok (.ifCond .ne o, 3)) (hc : x = y) (g : Goes p e below Post (T.setTop (mkF m (pc + 3) Ls st))) : Goes p e below Post (T.setTop (mkF m pc Ls (.int (cmpL x y) :: st))) := by
  obtain ⟨⟨hx, hby, -⟩, locs, X, -⟩ := N
  exact g.pre fun t q => XS.ifNo X.here hx rfl (hb hby hd) rfl (XT.ll_ne_f hc) q
theorem Now.ifltT (N : Now nar EL Z own name bytes maxL ret p l e R s m args below meth c P vm T k n O RO FZ) {o : Int} {pc' : Nat} {x : Int32} (hd : decode bytes pc = .ok (.ifCond .lt o, 3)) (hp : (pc : Int) + o = (pc' : Int)) (hc : x < 0) (g : Goes p e below Post (T.setTop (mkF m pc' Ls st))) : Goes p e below Post (T.setTop (mkF m pc Ls (.int x :: st))) := by
  obtain ⟨⟨hx, hby, -⟩, locs, X, -⟩ := N
  exact g.pre fun t q => XS.ifYes X.here hx rfl (pc0 := pc) rfl (hb hby hd) rfl (XT.i0_lt_t hc) (by omega) (by omega) q
theorem Now.ifltF (N : Now nar EL Z own name bytes maxL ret p l e R s m args below meth c P vm T k n O RO FZ) {o : Int} {x : Int32} (hd : decode bytes pc = .ok (.ifCond .lt o, 3)) (hc : ¬ x < 0) (g : Goes p e below Post (T.setTop (mkF m (pc + 3) Ls st))) : Goes p e below Post (T.setTop (mkF m pc Ls (.int x :: st))) := by
  obtain ⟨⟨hx, hby, -⟩, locs, X, -⟩ := N
  exact g.pre fun t q => XS.ifNo X.here hx rfl (hb hby hd) rfl (XT.i0_lt_f hc) q
theorem Now.icmpltT (N : Now nar EL Z own name bytes maxL ret p l e R s m args below meth c P vm T k n O RO FZ) {o : Int} {pc' : Nat} {x y : Int32} (hd : decode bytes pc = .ok (.if_icmp .lt o, 3)) (hp : (pc : Int) + o = (pc' : Int)) (hc : x < y) (g : Goes p e below Post (T.setTop (mkF m pc' Ls st))) : Goes p e below Post (T.setTop (mkF m pc Ls (.int y :: .int x :: st))) := by
  obtain ⟨⟨hx, hby, -⟩, locs, X, -⟩ := N
  exact g.pre fun t q => XS.icmpYes X.here hx rfl (pc0 := pc) rfl (hb hby hd) rfl (XT.ii_lt_t hc) (by omega) (by omega) q
theorem Now.icmpltF (N : Now nar EL Z own name bytes maxL ret p l e R s m args below meth c P vm T k n O RO FZ) {o : Int} {x y : Int32} (hd : decode bytes pc = .ok (.if_icmp .lt o, 3)) (hc : ¬ x < y) (g : Goes p e below Post (T.setTop (mkF m (pc + 3) Ls st))) : Goes p e below Post (T.setTop (mkF m pc Ls (.int y :: .int x :: st))) := by
  obtain ⟨⟨hx, hby, -⟩, locs, X, -⟩ := N
  exact g.pre fun t q => XS.icmpNo X.here hx rfl (hb hby hd) rfl (XT.ii_lt_f hc) q
theorem Now.lcmpltT (N : Now nar EL Z own name bytes maxL ret p l e R s m args below meth c P vm T k n O RO FZ) {o : Int} {pc' : Nat} {x y : Int64} (hd : decode bytes pc = .ok (.ifCond .lt o, 3)) (hp : (pc : Int) + o = (pc' : Int)) (hc : x < y) (g : Goes p e below Post (T.setTop (mkF m pc' Ls st))) : Goes p e below Post (T.setTop (mkF m pc Ls (.int (cmpL x y) :: st))) := by
  obtain ⟨⟨hx, hby, -⟩, locs, X, -⟩ := N
  exact g.pre fun t q => XS.ifYes X.here hx rfl (pc0 := pc) rfl (hb hby hd) rfl (XT.ll_lt_t hc) (by omega) (by omega) q
theorem Now.lcmpltF (N : Now nar EL Z own name bytes maxL ret p l e R s m args below meth c P vm T k n O RO FZ) {o : Int} {x y : Int64} (hd : decode bytes pc = .ok (.ifCond .lt o, 3)) (hc : ¬ x < y) (g : Goes p e below Post (T.setTop (mkF m (pc + 3) Ls st))) : Goes p e below Post (T.setTop (mkF m pc Ls (.int (cmpL x y) :: st))) := by
  obtain ⟨⟨hx, hby, -⟩, locs, X, -⟩ := N
  exact g.pre fun t q => XS.ifNo X.here hx rfl (hb hby hd) rfl (XT.ll_lt_f hc) q
theorem Now.ifgeT (N : Now nar EL Z own name bytes maxL ret p l e R s m args below meth c P vm T k n O RO FZ) {o : Int} {pc' : Nat} {x : Int32} (hd : decode bytes pc = .ok (.ifCond .ge o, 3)) (hp : (pc : Int) + o = (pc' : Int)) (hc : ¬ x < 0) (g : Goes p e below Post (T.setTop (mkF m pc' Ls st))) : Goes p e below Post (T.setTop (mkF m pc Ls (.int x :: st))) := by
  obtain ⟨⟨hx, hby, -⟩, locs, X, -⟩ := N
  exact g.pre fun t q => XS.ifYes X.here hx rfl (pc0 := pc) rfl (hb hby hd) rfl (XT.i0_ge_t hc) (by omega) (by omega) q
theorem Now.ifgeF (N : Now nar EL Z own name bytes maxL ret p l e R s m args below meth c P vm T k n O RO FZ) {o : Int} {x : Int32} (hd : decode bytes pc = .ok (.ifCond .ge o, 3)) (hc : x < 0) (g : Goes p e below Post (T.setTop (mkF m (pc + 3) Ls st))) : Goes p e below Post (T.setTop (mkF m pc Ls (.int x :: st))) := by
  obtain ⟨⟨hx, hby, -⟩, locs, X, -⟩ := N
  exact g.pre fun t q => XS.ifNo X.here hx rfl (hb hby hd) rfl (XT.i0_ge_f hc) q
theorem Now.icmpgeT (N : Now nar EL Z own name bytes maxL ret p l e R s m args below meth c P vm T k n O RO FZ) {o : Int} {pc' : Nat} {x y : Int32} (hd : decode bytes pc = .ok (.if_icmp .ge o, 3)) (hp : (pc : Int) + o = (pc' : Int)) (hc : ¬ x < y) (g : Goes p e below Post (T.setTop (mkF m pc' Ls st))) : Goes p e below Post (T.setTop (mkF m pc Ls (.int y :: .int x :: st))) := by
  obtain ⟨⟨hx, hby, -⟩, locs, X, -⟩ := N
  exact g.pre fun t q => XS.icmpYes X.here hx rfl (pc0 := pc) rfl (hb hby hd) rfl (XT.ii_ge_t hc) (by omega) (by omega) q
theorem Now.icmpgeF (N : Now nar EL Z own name bytes maxL ret p l e R s m args below meth c P vm T k n O RO FZ) {o : Int} {x y : Int32} (hd : decode bytes pc = .ok (.if_icmp .ge o, 3)) (hc : x < y) (g : Goes p e below Post (T.setTop (mkF m (pc + 3) Ls st))) : Goes p e below Post (T.setTop (mkF m pc Ls (.int y :: .int x :: st))) := by
  obtain ⟨⟨hx, hby, -⟩, locs, X, -⟩ := N
  exact g.pre fun t q => XS.icmpNo X.here hx rfl (hb hby hd) rfl (XT.ii_ge_f hc) q
theorem Now.lcmpgeT (N : Now nar EL Z own name bytes maxL ret p l e R s m args below meth c P vm T k n O RO FZ) {o : Int} {pc' : Nat} {x y : Int64} (hd : decode bytes pc = .ok (.ifCond .ge o, 3)) (hp : (pc : Int) + o = (pc' : Int)) (hc : ¬ x < y) (g : Goes p e below Post (T.setTop (mkF m pc' Ls st))) : Goes p e below Post (T.setTop (mkF m pc Ls (.int (cmpL x y) :: st))) := by
  obtain ⟨⟨hx, hby, -⟩, locs, X, -⟩ := N
  exact g.pre fun t q => XS.ifYes X.here hx rfl (pc0 := pc) rfl (hb hby hd) rfl (XT.ll_ge_t hc) (by omega) (by omega) q
theorem Now.lcmpgeF (N : Now nar EL Z own name bytes maxL ret p l e R s m args below meth c P vm T k n O RO FZ) {o : Int} {x y : Int64} (hd : decode bytes pc = .ok (.ifCond .ge o, 3)) (hc : x < y) (g : Goes p e below Post (T.setTop (mkF m (pc + 3) Ls st))) : Goes p e below Post (T.setTop (mkF m pc Ls (.int (cmpL x y) :: st))) := by
  obtain ⟨⟨hx, hby, -⟩, locs, X, -⟩ := N
  exact g.pre fun t q => XS.ifNo X.here hx rfl (hb hby hd) rfl (XT.ll_ge_f hc) q
theorem Now.ifgtT (N : Now nar EL Z own name bytes maxL ret p l e R s m args below meth c P vm T k n O RO FZ) {o : Int} {pc' : Nat} {x : Int32} (hd : decode bytes pc = .ok (.ifCond .gt o, 3)) (hp : (pc : Int) + o = (pc' : Int)) (hc : 0 < x) (g : Goes p e below Post (T.setTop (mkF m pc' Ls st))) : Goes p e below Post (T.setTop (mkF m pc Ls (.int x :: st))) := by
  obtain ⟨⟨hx, hby, -⟩, locs, X, -⟩ := N
  exact g.pre fun t q => XS.ifYes X.here hx rfl (pc0 := pc) rfl (hb hby hd) rfl (XT.i0_gt_t hc) (by omega) (by omega) q
theorem Now.ifgtF (N : Now nar EL Z own name bytes maxL ret p l e R s m args below meth c P vm T k n O RO FZ) {o : Int} {x : Int32} (hd : decode bytes pc = .ok (.ifCond .gt o, 3)) (hc : ¬ 0 < x) (g : Goes p e below Post (T.setTop (mkF m (pc + 3) Ls st))) : Goes p e below Post (T.setTop (mkF m pc Ls (.int x :: st))) := by
  obtain ⟨⟨hx, hby, -⟩, locs, X, -⟩ := N
  exact g.pre fun t q => XS.ifNo X.here hx rfl (hb hby hd) rfl (XT.i0_gt_f hc) q
theorem Now.icmpgtT (N : Now nar EL Z own name bytes maxL ret p l e R s m args below meth c P vm T k n O RO FZ) {o : Int} {pc' : Nat} {x y : Int32} (hd : decode bytes pc = .ok (.if_icmp .gt o, 3)) (hp : (pc : Int) + o = (pc' : Int)) (hc : y < x) (g : Goes p e below Post (T.setTop (mkF m pc' Ls st))) : Goes p e below Post (T.setTop (mkF m pc Ls (.int y :: .int x :: st))) := by
  obtain ⟨⟨hx, hby, -⟩, locs, X, -⟩ := N
  exact g.pre fun t q => XS.icmpYes X.here hx rfl (pc0 := pc) rfl (hb hby hd) rfl (XT.ii_gt_t hc) (by omega) (by omega) q
theorem Now.icmpgtF (N : Now nar EL Z own name bytes maxL ret p l e R s m args below meth c P vm T k n O RO FZ) {o : Int} {x y : Int32} (hd : decode bytes pc = .ok (.if_icmp .gt o, 3)) (hc : ¬ y < x) (g : Goes p e below Post (T.setTop (mkF m (pc + 3) Ls st))) : Goes p e below Post (T.setTop (mkF m pc Ls (.int y :: .int x :: st))) := by
  obtain ⟨⟨hx, hby, -⟩, locs, X, -⟩ := N
  exact g.pre fun t q => XS.icmpNo X.here hx rfl (hb hby hd) rfl (XT.ii_gt_f hc) q
theorem Now.lcmpgtT (N : Now nar EL Z own name bytes maxL ret p l e R s m args below meth c P vm T k n O RO FZ) {o : Int} {pc' : Nat} {x y : Int64} (hd : decode bytes pc = .ok (.ifCond .gt o, 3)) (hp : (pc : Int) + o = (pc' : Int)) (hc : y < x) (g : Goes p e below Post (T.setTop (mkF m pc' Ls st))) : Goes p e below Post (T.setTop (mkF m pc Ls (.int (cmpL x y) :: st))) := by
  obtain ⟨⟨hx, hby, -⟩, locs, X, -⟩ := N
  exact g.pre fun t q => XS.ifYes X.here hx rfl (pc0 := pc) rfl (hb hby hd) rfl (XT.ll_gt_t hc) (by omega) (by omega) q
theorem Now.lcmpgtF (N : Now nar EL Z own name bytes maxL ret p l e R s m args below meth c P vm T k n O RO FZ) {o : Int} {x y : Int64} (hd : decode bytes pc = .ok (.ifCond .gt o, 3)) (hc : ¬ y < x) (g : Goes p e below Post (T.setTop (mkF m (pc + 3) Ls st))) : Goes p e below Post (T.setTop (mkF m pc Ls (.int (cmpL x y) :: st))) := by
  obtain ⟨⟨hx, hby, -⟩, locs, X, -⟩ := N
  exact g.pre fun t q => XS.ifNo X.here hx rfl (hb hby hd) rfl (XT.ll_gt_f hc) q
theorem Now.ifleT (N : Now nar EL Z own name bytes maxL ret p l e R s m args below meth c P vm T k n O RO FZ) {o : Int} {pc' : Nat} {x : Int32} (hd : decode bytes pc = .ok (.ifCond .le o, 3)) (hp : (pc : Int) + o = (pc' : Int)) (hc : ¬ 0 < x) (g : Goes p e below Post (T.setTop (mkF m pc' Ls st))) : Goes p e below Post (T.setTop (mkF m pc Ls (.int x :: st))) := by
  obtain ⟨⟨hx, hby, -⟩, locs, X, -⟩ := N
  exact g.pre fun t q => XS.ifYes X.here hx rfl (pc0 := pc) rfl (hb hby hd) rfl (XT.i0_le_t hc) (by omega) (by omega) q
theorem Now.ifleF (N : Now nar EL Z own name bytes maxL ret p l e R s m args below meth c P vm T k n O RO FZ) {o : Int} {x : Int32} (hd : decode bytes pc = .ok (.ifCond .le o, 3)) (hc : 0 < x) (g : Goes p e below Post (T.setTop (mkF m (pc + 3) Ls st))) : Goes p e below Post (T.setTop (mkF m pc Ls (.int x :: st))) := by
  obtain ⟨⟨hx, hby, -⟩, locs, X, -⟩ := N
  exact g.pre fun t q => XS.ifNo X.here hx rfl (hb hby hd) rfl (XT.i0_le_f hc) q
theorem Now.icmpleT (N : Now nar EL Z own name bytes maxL ret p l e R s m args below meth c P vm T k n O RO FZ) {o : Int} {pc' : Nat} {x y : Int32} (hd : decode bytes pc = .ok (.if_icmp .le o, 3)) (hp : (pc : Int) + o = (pc' : Int)) (hc : ¬ y < x) (g : Goes p e below Post (T.setTop (mkF m pc' Ls st))) : Goes p e below Post (T.setTop (mkF m pc Ls (.int y :: .int x :: st))) := by
  obtain ⟨⟨hx, hby, -⟩, locs, X, -⟩ := N
  exact g.pre fun t q => XS.icmpYes X.here hx rfl (pc0 := pc) rfl (hb hby hd) rfl (XT.ii_le_t hc) (by omega) (by omega) q
theorem Now.icmpleF (N : Now nar EL Z own name bytes maxL ret p l e R s m args below meth c P vm T k n O RO FZ) {o : Int} {x y : Int32} (hd : decode bytes pc = .ok (.if_icmp .le o, 3)) (hc : y < x) (g : Goes p e below Post (T.setTop (mkF m (pc + 3) Ls st))) : Goes p e below Post (T.setTop (mkF m pc Ls (.int y :: .int x :: st))) := by
  obtain ⟨⟨hx, hby, -⟩, locs, X, -⟩ := N
  exact g.pre fun t q => XS.icmpNo X.here hx rfl (hb hby hd) rfl (XT.ii_le_f hc) q
theorem Now.lcmpleT (N : Now nar EL Z own name bytes maxL ret p l e R s m args below meth c P vm T k n O RO FZ) {o : Int} {pc' : Nat} {x y : Int64} (hd : decode bytes pc = .ok (.ifCond .le o, 3)) (hp : (pc : Int) + o = (pc' : Int)) (hc : ¬ y < x) (g : Goes p e below Post (T.setTop (mkF m pc' Ls st))) : Goes p e below Post (T.setTop (mkF m pc Ls (.int (cmpL x y) :: st))) := by
  obtain ⟨⟨hx, hby, -⟩, locs, X, -⟩ := N
  exact g.pre fun t q => XS.ifYes X.here hx rfl (pc0 := pc) rfl (hb hby hd) rfl (XT.ll_le_t hc) (by omega) (by omega) q
theorem Now.lcmpleF (N : Now nar EL Z own name bytes maxL ret p l e R s m args below meth c P vm T k n O RO FZ) {o : Int} {x y : Int64} (hd : decode bytes pc = .ok (.ifCond .le o, 3)) (hc : y < x) (g : Goes p e below Post (T.setTop (mkF m (pc + 3) Ls st))) : Goes p e below Post (T.setTop (mkF m pc Ls (.int (cmpL x y) :: st))) := by
  obtain ⟨⟨hx, hby, -⟩, locs, X, -⟩ := N
  exact g.pre fun t q => XS.ifNo X.here hx rfl (hb hby hd) rfl (XT.ll_le_f hc) q
theorem Now.ifnullT (N : Now nar EL Z own name bytes maxL ret p l e R s m args below meth c P vm T k n O RO FZ) {o : Int} {pc' : Nat} (hd : decode bytes pc = .ok (.ifnull o, 3)) (hp : (pc : Int) + o = (pc' : Int)) (g : Goes p e below Post (T.setTop (mkF m pc' Ls st))) : Goes p e below Post (T.setTop (mkF m pc Ls (.null :: st))) := by
  obtain ⟨⟨hx, hby, -⟩, locs, X, -⟩ := N
  exact g.pre fun t q => XS.ifnullYes X.here hx rfl (pc0 := pc) rfl (hb hby hd) rfl (by omega) (by omega) q
theorem Now.ifnullF (N : Now nar EL Z own name bytes maxL ret p l e R s m args below meth c P vm T k n O RO FZ) {o : Int} {b : Addr} (hd : decode bytes pc = .ok (.ifnull o, 3)) (g : Goes p e below Post (T.setTop (mkF m (pc + 3) Ls st))) : Goes p e below Post (T.setTop (mkF m pc Ls (.ref b :: st))) := by
  obtain ⟨⟨hx, hby, -⟩, locs, X, -⟩ := N
  exact g.pre fun t q => XS.ifnullNo X.here hx rfl (hb hby hd) rfl q
theorem Now.ifnonnullT (N : Now nar EL Z own name bytes maxL ret p l e R s m args below meth c P vm T k n O RO FZ) {o : Int} {pc' : Nat} {b : Addr} (hd : decode bytes pc = .ok (.ifnonnull o, 3)) (hp : (pc : Int) + o = (pc' : Int)) (g : Goes p e below Post (T.setTop (mkF m pc' Ls st))) : Goes p e below Post (T.setTop (mkF m pc Ls (.ref b :: st))) := by
  obtain ⟨⟨hx, hby, -⟩, locs, X, -⟩ := N
  exact g.pre fun t q => XT.ifnonnullYes X.here hx rfl (pc0 := pc) rfl (hb hby hd) rfl (by omega) (by omega) q
theorem Now.ifnonnullF (N : Now nar EL Z own name bytes maxL ret p l e R s m args below meth c P vm T k n O RO FZ) {o : Int} (hd : decode bytes pc = .ok (.ifnonnull o, 3)) (g : Goes p e below Post (T.setTop (mkF m (pc + 3) Ls st))) : Goes p e below Post (T.setTop (mkF m pc Ls (.null :: st))) := by
  obtain ⟨⟨hx, hby, -⟩, locs, X, -⟩ := N
  exact g.pre fun t q => XT.ifnonnullNo X.here hx rfl (hb hby hd) rfl q
theorem Now.acmpeqT (N : Now nar EL Z own name bytes maxL ret p l e R s m args below meth c P vm T k n O RO FZ) {o : Int} {pc' : Nat} {x y : Value} (hd : decode bytes pc = .ok (.if_acmp .eq o, 3)) (hp : (pc : Int) + o = (pc' : Int)) (h1 : x.isRef = true) (h2 : y.isRef = true) (hc : x = y) (g : Goes p e below Post (T.setTop (mkF m pc' Ls st))) : Goes p e below Post (T.setTop (mkF m pc Ls (y :: x :: st))) := by
  obtain ⟨⟨hx, hby, -⟩, locs, X, -⟩ := N
  exact g.pre fun t q => XT.acmpYes X.here hx rfl (pc0 := pc) rfl (hb hby hd) rfl h1 h2 (XT.aa_eq_t hc) (by omega) (by omega) q
theorem Now.acmpeqF (N : Now nar EL Z own name bytes maxL ret p l e R s m args below meth c P vm T k n O RO FZ) {o : Int} {x y : Value} (hd : decode bytes pc = .ok (.if_acmp .eq o, 3)) (h1 : x.isRef = true) (h2 : y.isRef = true) (hc : ¬ x = y) (g : Goes p e below Post (T.setTop (mkF m (pc + 3) Ls st))) : Goes p e below Post (T.setTop (mkF m pc Ls (y :: x :: st))) := by
  obtain ⟨⟨hx, hby, -⟩, locs, X, -⟩ := N
  exact g.pre fun t q => XT.acmpNo X.here hx rfl (hb hby hd) rfl h1 h2 (XT.aa_eq_f hc) q
theorem Now.acmpneT (N : Now nar EL Z own name bytes maxL ret p l e R s m args below meth c P vm T k n O RO FZ) {o : Int} {pc' : Nat} {x y : Value} (hd : decode bytes pc = .ok (.if_acmp .ne o, 3)) (hp : (pc : Int) + o = (pc' : Int)) (h1 : x.isRef = true) (h2 : y.isRef = true) (hc : ¬ x = y) (g : Goes p e below Post (T.setTop (mkF m pc' Ls st))) : Goes p e below Post (T.setTop (mkF m pc Ls (y :: x :: st))) := by
  obtain ⟨⟨hx, hby, -⟩, locs, X, -⟩ := N
  exact g.pre fun t q => XT.acmpYes X.here hx rfl (pc0 := pc) rfl (hb hby hd) rfl h1 h2 (XT.aa_ne_t hc) (by omega) (by omega) q
theorem Now.acmpneF (N : Now nar EL Z own name bytes maxL ret p l e R s m args below meth c P vm T k n O RO FZ) {o : Int} {x y : Value} (hd : decode bytes pc = .ok (.if_acmp .ne o, 3)) (h1 : x.isRef = true) (h2 : y.isRef = true) (hc : x = y) (g : Goes p e below Post (T.setTop (mkF m (pc + 3) Ls st))) : Goes p e below Post (T.setTop (mkF m pc Ls (y :: x :: st))) := by
  obtain ⟨⟨hx, hby, -⟩, locs, X, -⟩ := N
  exact g.pre fun t q => XT.acmpNo X.here hx rfl (hb hby hd) rfl h1 h2 (XT.aa_ne_f hc) q
theorem Now.ldcI (N : Now nar EL Z own name bytes maxL ret p l e R s m args below meth c P vm T k n O RO FZ) {idx : Nat} {v : Int32} (w : (Cond.constant own idx v).before a0 Z = true) (hd : decode bytes pc = .ok (.ldc idx, 2)) (g : Goes p e below Post (T.setTop (mkF m (pc + 2) Ls (.int v :: st)))) : Goes p e below Post (T.setTop (mkF m pc Ls st)) := by
  obtain ⟨⟨hx, hby, -⟩, locs, X, h1, h2, h3, -⟩ := N
  exact g.pre fun t q => Stand.ldcI X hx h3 (mv (s := s.setVm vm) h2 w) rfl (hb hby hd) q
theorem Now.ldcWI (N : Now nar EL Z own name bytes maxL ret p l e R s m args below meth c P vm T k n O RO FZ) {idx : Nat} {v : Int32} (w : (Cond.constant own idx v).before a0 Z = true) (hd : decode bytes pc = .ok (.ldc_w idx, 3)) (g : Goes p e below Post (T.setTop (mkF m (pc + 3) Ls (.int v :: st)))) : Goes p e below Post (T.setTop (mkF m pc Ls st)) := by
  obtain ⟨⟨hx, hby, -⟩, locs, X, h1, h2, h3, -⟩ := N
  exact g.pre fun t q => Stand.ldcWI X hx h3 (mv (s := s.setVm vm) h2 w) rfl (hb hby hd) q
theorem Now.ldc2J (N : Now nar EL Z own name bytes maxL ret p l e R s m args below meth c P vm T k n O RO FZ) {idx : Nat} {v : Int64} (w : (Cond.constantLong own idx v).before a0 Z = true) (hd : decode bytes pc = .ok (.ldc2_w idx, 3)) (g : Goes p e below Post (T.setTop (mkF m (pc + 3) Ls (.long v :: st)))) : Goes p e below Post (T.setTop (mkF m pc Ls st)) := by
  obtain ⟨⟨hx, hby, -⟩, locs, X, h1, h2, h3, -⟩ := N
  exact g.pre fun t q => Stand.ldc2J X hx h3 (mv (s := s.setVm vm) h2 w) rfl (hb hby hd) q
theorem Now.same (N : Now nar EL Z own name bytes maxL ret p l e R s m args below meth c P vm T k n O RO FZ) {T' : State} (X' : ∃ locs, Stand p l e R (s.setVm vm) m args below meth c T' locs k n ∧ Fr Z.heap.size locs) (he : T'.heap = T.heap) : Now nar EL Z own name bytes maxL ret p l e R s m args below meth c P vm T' k n O RO FZ := by
  obtain ⟨C, locs, X, h1, h2, h3, h4, H, r⟩ := N
  obtain ⟨locs', X', h4'⟩ := X'
  exact ⟨C, locs', X', by rw [he]; exact h1, h2, h3, h4', by rw [he]; exact H, by rw [he]; exact r⟩
theorem Now.getfield (N : Now nar EL Z own name bytes maxL ret p l e R s m args below meth c P vm T k n O RO FZ) {idx : Nat} {R0 F nm d C : String} {a : Addr} {v : Value} {fs : List (Key × Value)} (i : Nat) (hd : decode bytes pc = .ok (.getfield idx, 3)) (w : (Cond.fieldLink own idx R0 nm d).before a0 Z = true) (via : Via Z R0 F nm d)
    (hi : (O ++ (RO ++ FZ))[i]? = some (a, .inl (C, fs))) (hf : ((F, nm, d), v) ∈ fs) (g : ∀ T, Now nar EL Z own name bytes maxL ret p l e R s m args below meth c P vm T k n O RO FZ → Goes p e below Post (T.setTop (mkF m (pc + 3) Ls (v :: st)))) : Goes p e below Post (T.setTop (mkF m pc Ls (.ref a :: st))) := by
  obtain ⟨⟨hx, hby, hr⟩, locs, X, h1, h2, h3, h4, H, r⟩ := id N
  obtain ⟨T', X', e', st'⟩ := getF (host := "") X hx (s := s.setVm vm) h2 h3 (Or.inl w) via rfl ((H.atO hi).2.1 _ hf) (g := mkF m pc Ls (.ref a :: st)) rfl rfl (hb hby hd)
  exact (g T' (N.same ⟨locs, X', h4⟩ e')).pre st'
theorem Now.getstatic (N : Now nar EL Z own name bytes maxL ret p l e R s m args below meth c P vm T k n O RO FZ) {idx : Nat} {R0 F nm d : String} {v : Value} (hd : decode bytes pc = .ok (.getstatic idx, 3)) (w : (Cond.fieldLink own idx R0 nm d).before a0 Z = true) (via : Via Z R0 F nm d)
    (S : Sta Z Z.heap F nm d v) (g : ∀ T, Now nar EL Z own name bytes maxL ret p l e R s m args below meth c P vm T k n O RO FZ → Goes p e below Post (T.setTop (mkF m (pc + 3) Ls (v :: st)))) : Goes p e below Post (T.setTop (mkF m pc Ls st)) := by
  obtain ⟨⟨hx, hby, hr⟩, locs, X, h1, h2, h3, h4, H, r⟩ := id N
  obtain ⟨T', X', e', st'⟩ := getS (host := "") X hx (s := s.setVm vm) h2 h3 w via rfl (S.ext H.1) (g := mkF m pc Ls st) rfl (hb hby hd)
  exact (g T' (N.same ⟨locs, X', h4⟩ e')).pre st'
theorem Now.getstaticNest (N : Now nar EL Z own name bytes maxL ret p l e R s m args below meth c P vm T k n O RO FZ) {idx : Nat} {R0 F nm d host : String} {v : Value} (hd : decode bytes pc = .ok (.getstatic idx, 3)) (w : (Cond.fieldLinkNest own idx R0 nm d host).before a0 Z = true) (via : Via Z R0 F nm d)
    (S : Sta Z Z.heap F nm d v) (g : ∀ T, Now nar EL Z own name bytes maxL ret p l e R s m args below meth c P vm T k n O RO FZ → Goes p e below Post (T.setTop (mkF m (pc + 3) Ls (v :: st)))) : Goes p e below Post (T.setTop (mkF m pc Ls st)) := by
  obtain ⟨⟨hx, hby, hr⟩, locs, X, h1, h2, h3, h4, H, r⟩ := id N
  obtain ⟨T', X', e', st'⟩ := getS2 (host := host) X hx (s := s.setVm vm) h2 h3 (Or.inr w) via rfl (S.ext H.1) (g := mkF m pc Ls st) rfl (hb hby hd)
  exact (g T' (N.same ⟨locs, X', h4⟩ e')).pre st'
theorem Now.arraylength (N : Now nar EL Z own name bytes maxL ret p l e R s m args below meth c P vm T k n O RO FZ) {a : Addr} {ty : FieldType} {vs : List Value} (z : Int32) (i : Nat) (hd : decode bytes pc = .ok (.arraylength, 1)) (hi : (O ++ (RO ++ FZ))[i]? = some (a, aO ty vs)) (hz : vs.length.toInt32 = z) (g : Goes p e below Post (T.setTop (mkF m (pc + 1) Ls (.int z :: st)))) : Goes p e below Post (T.setTop (mkF m pc Ls (.ref a :: st))) := by
  obtain ⟨⟨hx, hby, hr⟩, locs, X, h1, h2, h3, h4, H, r⟩ := N
  obtain ⟨cl, A, hs, -⟩ := H.atA hi
  refine g.pre fun t q => X.arraylength hx A.1 (State.isArrayOf_alike (T := s.setVm vm) h2.alike A.2.1) (g := mkF m pc Ls (.ref a :: st)) rfl rfl (hb hby hd) t ?_
  rw [hs, List.size_toArray, hz]; exact q
theorem in_of {vs : List Value} {c : Cell} {z : Int32} {j : Nat} {v : Value} (hs : c.slots = vs.toArray) (hz : z.toNatClampNeg = j) (h0 : ¬ z < 0) (hv : vs[j]? = some v) : ¬ (z < 0 ∨ c.slots.size ≤ z.toNatClampNeg) ∧ c.slots[z.toNatClampNeg]? = some v := by
  have hl := (List.getElem?_eq_some_iff.mp hv).1
  refine ⟨fun q => q.elim h0 fun q => ?_, ?_⟩
  · rw [hs, List.size_toArray, hz] at q; omega
  · rw [hs, hz]; simpa using hv
theorem Now.caload (N : Now nar EL Z own name bytes maxL ret p l e R s m args below meth c P vm T k n O RO FZ) {a : Addr} {vs : List Value} {z : Int32} {v : Value} (i j : Nat) (hd : decode bytes pc = .ok (.caload, 1)) (hi : (O ++ (RO ++ FZ))[i]? = some (a, aO .char vs)) (hz : z.toNatClampNeg = j) (h0 : ¬ z < 0) (hv : vs[j]? = some v) (g : Goes p e below Post (T.setTop (mkF m (pc + 1) Ls (v :: st)))) : Goes p e below Post (T.setTop (mkF m pc Ls (.int z :: .ref a :: st))) := by
  obtain ⟨⟨hx, hby, hr⟩, locs, X, h1, h2, h3, h4, H, r⟩ := N
  obtain ⟨cl, A, hs, -⟩ := H.atA hi
  obtain ⟨q1, q2⟩ := in_of hs hz h0 hv
  exact g.pre fun t q => X.caload hx A.1 (State.isArrayOf_alike (T := s.setVm vm) h2.alike A.2.1) A.2.2 q1 q2 (g := mkF m pc Ls (.int z :: .ref a :: st)) rfl rfl (hb hby hd) t q
theorem Now.baload (N : Now nar EL Z own name bytes maxL ret p l e R s m args below meth c P vm T k n O RO FZ) {a : Addr} {vs : List Value} {z : Int32} {v : Value} (i j : Nat) (hd : decode bytes pc = .ok (.baload, 1)) (hi : (O ++ (RO ++ FZ))[i]? = some (a, aO .byte vs)) (hz : z.toNatClampNeg = j) (h0 : ¬ z < 0) (hv : vs[j]? = some v) (g : Goes p e below Post (T.setTop (mkF m (pc + 1) Ls (v :: st)))) : Goes p e below Post (T.setTop (mkF m pc Ls (.int z :: .ref a :: st))) := by
  obtain ⟨⟨hx, hby, hr⟩, locs, X, h1, h2, h3, h4, H, r⟩ := N
  obtain ⟨cl, A, hs, -⟩ := H.atA hi
  obtain ⟨q1, q2⟩ := in_of hs hz h0 hv
  exact g.pre fun t q => X.baloadBytes hx A.1 (State.isArrayOf_alike (T := s.setVm vm) h2.alike A.2.1) A.2.2 q1 q2 (g := mkF m pc Ls (.int z :: .ref a :: st)) rfl rfl (hb hby hd) t q
theorem Now.iaload (N : Now nar EL Z own name bytes maxL ret p l e R s m args below meth c P vm T k n O RO FZ) {a : Addr} {vs : List Value} {z : Int32} {v : Value} (i j : Nat) (hd : decode bytes pc = .ok (.iaload, 1)) (hi : (O ++ (RO ++ FZ))[i]? = some (a, aO .int vs)) (hz : z.toNatClampNeg = j) (h0 : ¬ z < 0) (hv : vs[j]? = some v) (g : Goes p e below Post (T.setTop (mkF m (pc + 1) Ls (v :: st)))) : Goes p e below Post (T.setTop (mkF m pc Ls (.int z :: .ref a :: st))) := by
  obtain ⟨⟨hx, hby, hr⟩, locs, X, h1, h2, h3, h4, H, r⟩ := N
  obtain ⟨cl, A, hs, -⟩ := H.atA hi
  obtain ⟨q1, q2⟩ := in_of hs hz h0 hv
  exact g.pre fun t q => X.iaload hx A.1 (State.isArrayOf_alike (T := s.setVm vm) h2.alike A.2.1) A.2.2 q1 q2 (g := mkF m pc Ls (.int z :: .ref a :: st)) rfl rfl (hb hby hd) t q
theorem Now.laload (N : Now nar EL Z own name bytes maxL ret p l e R s m args below meth c P vm T k n O RO FZ) {a : Addr} {vs : List Value} {z : Int32} {v : Value} (i j : Nat) (hd : decode bytes pc = .ok (.laload, 1)) (hi : (O ++ (RO ++ FZ))[i]? = some (a, aO .long vs)) (hz : z.toNatClampNeg = j) (h0 : ¬ z < 0) (hv : vs[j]? = some v) (g : Goes p e below Post (T.setTop (mkF m (pc + 1) Ls (v :: st)))) : Goes p e below Post (T.setTop (mkF m pc Ls (.int z :: .ref a :: st))) := by
  obtain ⟨⟨hx, hby, hr⟩, locs, X, h1, h2, h3, h4, H, r⟩ := N
  obtain ⟨cl, A, hs, -⟩ := H.atA hi
  obtain ⟨q1, q2⟩ := in_of hs hz h0 hv
  exact g.pre fun t q => X.laload hx A.1 (State.isArrayOf_alike (T := s.setVm vm) h2.alike A.2.1) A.2.2 q1 q2 (g := mkF m pc Ls (.int z :: .ref a :: st)) rfl rfl (hb hby hd) t q
theorem Now.aaload (N : Now nar EL Z own name bytes maxL ret p l e R s m args below meth c P vm T k n O RO FZ) {a : Addr} {ty : FieldType} {vs : List Value} {z : Int32} {v : Value} (i j : Nat) (hd : decode bytes pc = .ok (.aaload, 1)) (hi : (O ++ (RO ++ FZ))[i]? = some (a, aO ty vs)) (ht : ty.isReference = true) (hz : z.toNatClampNeg = j) (h0 : ¬ z < 0) (hv : vs[j]? = some v) (g : Goes p e below Post (T.setTop (mkF m (pc + 1) Ls (v :: st)))) : Goes p e below Post (T.setTop (mkF m pc Ls (.int z :: .ref a :: st))) := by
  obtain ⟨⟨hx, hby, hr⟩, locs, X, h1, h2, h3, h4, H, r⟩ := N
  obtain ⟨cl, A, hs, -⟩ := H.atA hi
  obtain ⟨q1, q2⟩ := in_of hs hz h0 hv
  exact g.pre fun t q => X.aaload hx A.1 (State.isArrayOf_alike (T := s.setVm vm) h2.alike A.2.1) ht A.2.2 q1 q2 (g := mkF m pc Ls (.int z :: .ref a :: st)) rfl rfl (hb hby hd) t q
theorem Now.checkcast (N : Now nar EL Z own name bytes maxL ret p l e R s m args below meth c P vm T k n O RO FZ) {idx : Nat} {K C : String} {a : Addr} {fs : List (Key × Value)} (i : Nat) (hd : decode bytes pc = .ok (.checkcast idx, 3)) (w : (Cond.classLink own idx K).before a0 Z = true) (wc : (Cond.castable C K).before a0 Z = true) (hi : (O ++ (RO ++ FZ))[i]? = some (a, .inl (C, fs)))
    (g : ∀ T, Now nar EL Z own name bytes maxL ret p l e R s m args below meth c P vm T k n O RO FZ → Goes p e below Post (T.setTop (mkF m (pc + 3) Ls (.ref a :: st)))) : Goes p e below Post (T.setTop (mkF m pc Ls (.ref a :: st))) := by
  obtain ⟨⟨hx, hby, hr⟩, locs, X, h1, h2, h3, h4, H, r⟩ := id N
  obtain ⟨T', X', e', st'⟩ := castY X hx (s := s.setVm vm) h2 h3 w rfl (Ins.of_exa (H.atO hi).1 wc) (g := mkF m pc Ls (.ref a :: st)) rfl rfl (hb hby hd)
  exact (g T' (N.same ⟨locs, X', h4⟩ e')).pre st'
theorem Now.checkcastNull (N : Now nar EL Z own name bytes maxL ret p l e R s m args below meth c P vm T k n O RO FZ) {idx : Nat} (hd : decode bytes pc = .ok (.checkcast idx, 3)) (g : Goes p e below Post (T.setTop (mkF m (pc + 3) Ls (.null :: st)))) : Goes p e below Post (T.setTop (mkF m pc Ls (.null :: st))) := by
  obtain ⟨⟨hx, hby, hr⟩, locs, X, h1, h2, h3, h4, H, r⟩ := id N
  exact g.pre (Stand.checkcastNull X hx (g := mkF m pc Ls (.null :: st)) rfl rfl (hb hby hd))
theorem Now.instY (N : Now nar EL Z own name bytes maxL ret p l e R s m args below meth c P vm T k n O RO FZ) {idx : Nat} {K C : String} {a : Addr} {fs : List (Key × Value)} (i : Nat) (hd : decode bytes pc = .ok (.instanceof idx, 3)) (w : (Cond.classLink own idx K).before a0 Z = true) (wc : (Cond.castable C K).before a0 Z = true) (hi : (O ++ (RO ++ FZ))[i]? = some (a, .inl (C, fs)))
    (g : ∀ T, Now nar EL Z own name bytes maxL ret p l e R s m args below meth c P vm T k n O RO FZ → Goes p e below Post (T.setTop (mkF m (pc + 3) Ls (.int 1 :: st)))) : Goes p e below Post (T.setTop (mkF m pc Ls (.ref a :: st))) := by
  obtain ⟨⟨hx, hby, hr⟩, locs, X, h1, h2, h3, h4, H, r⟩ := id N
  obtain ⟨T', X', e', st'⟩ := RoadKit.instY X hx (s := s.setVm vm) h2 h3 w rfl (Ins.of_exa (H.atO hi).1 wc) (g := mkF m pc Ls (.ref a :: st)) rfl rfl (hb hby hd)
  exact (g T' (N.same ⟨locs, X', h4⟩ e')).pre st'
theorem Now.instN (N : Now nar EL Z own name bytes maxL ret p l e R s m args below meth c P vm T k n O RO FZ) {idx : Nat} {K C : String} {a : Addr} {fs : List (Key × Value)} (i : Nat) (hd : decode bytes pc = .ok (.instanceof idx, 3)) (w : (Cond.classLink own idx K).before a0 Z = true) (F : ∃ c t, Z.vm.findClass C = some c ∧ Z.vm.findClass K = some t ∧ Z.vm.assignable c t = false) (hi : (O ++ (RO ++ FZ))[i]? = some (a, .inl (C, fs)))
    (g : ∀ T, Now nar EL Z own name bytes maxL ret p l e R s m args below meth c P vm T k n O RO FZ → Goes p e below Post (T.setTop (mkF m (pc + 3) Ls (.int 0 :: st)))) : Goes p e below Post (T.setTop (mkF m pc Ls (.ref a :: st))) := by
  obtain ⟨⟨hx, hby, hr⟩, locs, X, h1, h2, h3, h4, H, r⟩ := id N
  obtain ⟨T', X', e', st'⟩ := instNo X hx (s := s.setVm vm) h2 h3 w rfl (H.atO hi).1 F (g := mkF m pc Ls (.ref a :: st)) rfl rfl (hb hby hd)
  exact (g T' (N.same ⟨locs, X', h4⟩ e')).pre st'
theorem Now.instNull (N : Now nar EL Z own name bytes maxL ret p l e R s m args below meth c P vm T k n O RO FZ) {idx : Nat} (hd : decode bytes pc = .ok (.instanceof idx, 3)) (g : Goes p e below Post (T.setTop (mkF m (pc + 3) Ls (.int 0 :: st)))) : Goes p e below Post (T.setTop (mkF m pc Ls (.null :: st))) := by
  obtain ⟨⟨hx, hby, hr⟩, locs, X, h1, h2, h3, h4, H, r⟩ := id N
  exact g.pre (Stand.instanceofNull X hx (g := mkF m pc Ls (.null :: st)) rfl rfl (hb hby hd))
theorem Lays.app {h0 : Heap} {x : Addr × Ob} (L : Lays P h0 O) (hx : h0.size ≤ x.1) (hl : P.length ≤ O.length) : Lays P h0 (O ++ [x]) := by
  refine ⟨?_, fun q hq => ?_⟩
  · rw [List.map_append, List.take_append_of_le_length (by simpa using hl)]; exact L.1
  · rw [List.drop_append_of_le_length hl] at hq
    rcases List.mem_append.mp hq with hq | hq
    · exact L.2 q hq
    · rw [List.mem_singleton.mp hq]; exact hx
theorem Lays.len {h0 : Heap} (L : Lays P h0 O) : P.length ≤ O.length := by
  have := congrArg List.length L.1
  rw [List.length_take, List.length_map, List.length_map] at this
  omega
theorem Lays.set {h0 : Heap} {i : Nat} {a : Addr} {o o' : Ob} (L : Lays P h0 O) (hi : O[i]? = some (a, o)) : Lays P h0 (O.set i (a, o')) := by
  have fst : (O.set i (a, o')).map (·.1) = O.map (·.1) := by rw [List.map_set]; exact set_same (x := a) (at_fst hi)
  refine ⟨by rw [fst]; exact L.1, fun q hq => ?_⟩
  have : q.1 ∈ ((O.set i (a, o')).drop P.length).map (·.1) := List.mem_map.mpr ⟨q, hq, rfl⟩
  rw [List.map_drop, fst, ← List.map_drop] at this
  obtain ⟨p, h1, h2⟩ := List.mem_map.mp this
  rw [← h2]; exact L.2 p h1
theorem Lays.erase {h0 : Heap} {i : Nat} (L : Lays P h0 O) (hi : P.length ≤ i) : Lays P h0 (O.eraseIdx i) := by
  refine ⟨?_, fun q hq => ?_⟩
  · rw [← L.1]
    refine List.ext_getElem? fun j => ?_
    by_cases hj : j < P.length
    · rw [List.getElem?_take_of_lt hj, List.getElem?_take_of_lt hj, List.getElem?_map, List.getElem?_map, List.getElem?_eraseIdx, if_pos (by omega)]
    · rw [List.getElem?_eq_none (by rw [List.length_take]; omega), List.getElem?_eq_none (by rw [List.length_take]; omega)]
  · obtain ⟨j, hj⟩ := List.mem_iff_getElem?.mp hq
    rw [List.getElem?_drop, List.getElem?_eraseIdx] at hj
    split at hj
    · exact L.2 q (List.mem_of_getElem? (by rw [List.getElem?_drop]; exact hj))
    · exact L.2 q (List.mem_of_getElem? (i := j + 1) (by rw [List.getElem?_drop]; exact hj))
theorem Now.freeze (N : Now nar EL Z own name bytes maxL ret p l e R s m args below meth c P vm T k n O RO FZ) {a : Addr} {o : Ob} (i : Nat) (hi : O[i]? = some (a, o)) (hp : P.length ≤ i) (hO : O.eraseIdx i = O') : Now nar EL Z own name bytes maxL ret p l e R s m args below meth c P vm T k n O' RO (FZ ++ [(a, o)]) := by
  subst hO
  obtain ⟨C, locs, X, h1, h2, h3, h4, H, K, CR, hw, L⟩ := N
  have ha : s.heap.size ≤ a := by
    refine L.2 (a, o) (List.mem_of_getElem? (i := i - P.length) ?_)
    rw [List.getElem?_drop, show P.length + (i - P.length) = i by omega]; exact hi
  exact ⟨C, locs, X, h1, h2, h3, h4, H.freeze hi ha, K, CR, hw, L.erase hp⟩
theorem Now.grown (N : Now nar EL Z own name bytes maxL ret p l e R s m args below meth c P vm T k n O RO FZ) {T' : State} {k' n' : Nat} {o : Ob} (X' : ∃ locs, Stand p l e R (s.setVm vm) m args below meth c T' locs k' n' ∧ Fr Z.heap.size locs) (E : Ext T.heap T'.heap) (F : Is Z T'.heap T.heap.size o) : Now nar EL Z own name bytes maxL ret p l e R s m args below meth c P vm T' k' n' (O ++ [(T.heap.size, o)]) RO FZ ∧ s.heap.size ≤ T.heap.size := by
  obtain ⟨C, locs, X, h1, h2, h3, h4, H, K, CR, hw, L⟩ := N
  obtain ⟨locs', X', h4'⟩ := X'
  exact ⟨⟨C, locs', X', ⟨h1.1, h1.2.mono E.1⟩, h2, h3, h4', H.new E F, K.ext E, CR.trans (CHr.ext E H.2.1), hw, L.app K.1 L.len⟩, K.1⟩
theorem Now.new (N : Now nar EL Z own name bytes maxL ret p l e R s m args below meth c P vm T k n O RO FZ) {idx kk : Nat} {C : String} {fs : List (Key × Value)} (hd : decode bytes pc = .ok (.new idx, 3)) (w : (Cond.classLink own idx C).before a0 Z = true) (wi : (Cond.instantiable C kk).before a0 Z = true) (wz : (Cond.initialized C).before a0 Z = true)
    (hL : (∀ f ∈ fs, Laid Z a0 C f.1.1 f.1.2.1 f.1.2.2 ∧ ∃ ty, parseFieldDescriptor f.1.2.2 = some ty ∧ f.2 = defaultValue ty) ∧ (fs.map fun f => slotK Z f.1).Nodup) (hc : k + 1 ≤ R.cells) (hs : n + kk ≤ R.slots)
    (g : ∀ a T, s.heap.size ≤ a → Now nar EL Z own name bytes maxL ret p l e R s m args below meth c P vm T (k + 1) (n + kk) (O ++ [(a, .inl (C, fs))]) RO FZ → Goes p e below Post (T.setTop (mkF m (pc + 3) Ls (.ref a :: st)))) : Goes p e below Post (T.setTop (mkF m pc Ls st)) := by
  obtain ⟨⟨hx, hby, hr⟩, locs, X, h1, h2, h3, h4, H, r⟩ := id N
  obtain ⟨T', h', X', e', E, A, D, -, st'⟩ := newO X hx (s := s.setVm vm) h2 h3 w wi wz rfl (g := mkF m pc Ls st) rfl (hb hby hd) hc hs
  subst e'
  obtain ⟨N', q⟩ := N.grown (o := .inl (C, fs)) ⟨locs, X', h4⟩ E ⟨A, fun f hf => by
    obtain ⟨l1, ty, l2, l3⟩ := hL.1 f hf
    have := D l1 l2
    unfold FldK
    rw [l3]; exact this, hL.2⟩
  exact (g _ T' q N').pre st'
theorem ar_new {h : Heap} {a : Addr} {cA : ClassId} {ty : FieldType} {z : Int32} {j : Nat} (A : Arr Z h a (newA cA ty z) ty) (hz : z.toNatClampNeg = j) (hO : ∀ C, ty = .object C → Ovr Z cA C) (hf : fits ty (defaultValue ty) = true) : Is Z h a (aO ty (List.replicate j (defaultValue ty))) := by
  refine ⟨_, A, ?_, ?_, fun v hv => ?_, fun C q _ => hO C q⟩
  · simp [newA, hz]
  · rw [List.length_replicate, ← hz]; have := Int32.toInt_lt z; simp only [Int32.toNatClampNeg]; omega
  · rw [(List.mem_replicate.mp hv).2]; exact hf
theorem Now.newarray (N : Now nar EL Z own name bytes maxL ret p l e R s m args below meth c P vm T k n O RO FZ) {aty : ArrayType} {z : Int32} (j cap : Nat) (hd : decode bytes pc = .ok (.newarray aty, 2)) (w : (Cond.arrayClass (newarray.typeOf aty)).before a0 Z = true) (hz : z.toNatClampNeg = j) (h0 : ¬ z < 0) (hcap : j ≤ cap) (hb8 : cap * 8 ≤ 536870912) (hc : k + 1 ≤ R.cells) (hs : n + cap ≤ R.slots)
    (g : ∀ a T, s.heap.size ≤ a → Now nar EL Z own name bytes maxL ret p l e R s m args below meth c P vm T (k + 1) (n + cap) (O ++ [(a, aO (newarray.typeOf aty) (List.replicate j (defaultValue (newarray.typeOf aty))))]) RO FZ → Goes p e below Post (T.setTop (mkF m (pc + 2) Ls (.ref a :: st)))) : Goes p e below Post (T.setTop (mkF m pc Ls (.int z :: st))) := by
  obtain ⟨⟨hx, hby, hr⟩, locs, X, h1, h2, h3, h4, H, r⟩ := id N
  obtain ⟨T', h', cA, X', e', E, A, st'⟩ := newP X hx (s := s.setVm vm) h2 w rfl (g := mkF m pc Ls (.int z :: st)) rfl (hb hby hd) rfl h0 (cap := cap) (by omega) hb8 hc hs
  subst e'
  obtain ⟨N', q⟩ := N.grown (o := aO (newarray.typeOf aty) (List.replicate j (defaultValue (newarray.typeOf aty)))) ⟨locs, X', h4⟩ E (ar_new A hz (fun C q => by cases aty <;> cases q) (by cases aty <;> decide))
  exact (g _ T' q N').pre st'
theorem Now.anewarray (N : Now nar EL Z own name bytes maxL ret p l e R s m args below meth c P vm T k n O RO FZ) {idx : Nat} {C : String} {z : Int32} (j cap : Nat) (hd : decode bytes pc = .ok (.anewarray idx, 3)) (w : (Cond.classLink own idx C).before a0 Z = true) (w2 : (Cond.arrayOver (.object C)).before a0 Z = true) (hz : z.toNatClampNeg = j) (h0 : ¬ z < 0) (hcap : j ≤ cap) (hb8 : cap * 8 ≤ 536870912) (hc : k + 1 ≤ R.cells) (hs : n + cap ≤ R.slots)
    (g : ∀ a T, s.heap.size ≤ a → Now nar EL Z own name bytes maxL ret p l e R s m args below meth c P vm T (k + 1) (n + cap) (O ++ [(a, aO (.object C) (List.replicate j .null))]) RO FZ → Goes p e below Post (T.setTop (mkF m (pc + 3) Ls (.ref a :: st)))) : Goes p e below Post (T.setTop (mkF m pc Ls (.int z :: st))) := by
  obtain ⟨⟨hx, hby, hr⟩, locs, X, h1, h2, h3, h4, H, r⟩ := id N
  obtain ⟨T', h', cA, X', e', E, A, Ov, st'⟩ := newR X hx (s := s.setVm vm) h2 h3 w w2 rfl (g := mkF m pc Ls (.int z :: st)) rfl (hb hby hd) rfl h0 (cap := cap) (by omega) hb8 hc hs
  subst e'
  obtain ⟨N', q⟩ := N.grown (o := aO (.object C) (List.replicate j .null)) ⟨locs, X', h4⟩ E (ar_new (ty := .object C) A hz (fun C' q => by cases q; exact Ov) rfl)
  exact (g _ T' q N').pre st'
theorem in_P {h0 : Heap} {i : Nat} {a : Addr} {o : Ob} (L : Lays P h0 O) (hi : O[i]? = some (a, o)) : a ∈ P.map (·.1) ∨ h0.size ≤ a := by
  by_cases q : i < P.length
  · left
    rw [← L.1]
    have : ((O.map (·.1)).take P.length)[i]? = some a := by rw [List.getElem?_take_of_lt q]; exact at_fst hi
    exact List.mem_of_getElem? this
  · right
    refine L.2 (a, o) ?_
    have : (O.drop P.length)[i - P.length]? = some (a, o) := by rw [List.getElem?_drop, show P.length + (i - P.length) = i by omega]; exact hi
    exact List.mem_of_getElem? this
theorem wrote {locs : List Loc} {T' : State} {i sl : Nat} {a : Addr} {o o' : Ob} {v : Value} (C : Ctx EL Z name bytes maxL ret p meth c) (h1 : s.Since vm T.heap.size) (h2 : Z.Warmed39 vm) (h3 : vm.findClass own = some m.cls) (h4 : Fr Z.heap.size locs) (H : HI Z EL vm T.heap s.heap.size O RO FZ) (r : Keep s.heap T.heap (P.map (·.1)) ∧ CHr Z EL s.vm s.heap vm T.heap ∧ (nar = true → s.WarmedH vm) ∧ Lays P s.heap O)
    (hi : O[i]? = some (a, o)) (X' : Stand p l e R (s.setVm vm) m args below meth c T' (locs ++ [⟨a, sl⟩]) k n) (W : Wr T.heap T'.heap a sl v) (F : Is Z T'.heap a o') : Now nar EL Z own name bytes maxL ret p l e R s m args below meth c P vm T' k n (O.set i (a, o')) RO FZ := by
  obtain ⟨K, CR, hw, L⟩ := r
  have ha := H.2.2.1 _ (List.mem_of_getElem? hi)
  exact ⟨C, _, X', by rw [W.size]; exact h1, h2, h3, h4.app (fun y hy => by cases List.mem_singleton.mp hy; exact ha.2.1), H.wr h2.alike hi W F, K.wr W (in_P L hi), CR.trans (CHr.wr W ha.2.2 H.2.1), hw, L.set hi⟩
theorem Now.putfield (N : Now nar EL Z own name bytes maxL ret p l e R s m args below meth c P vm T k n O RO FZ) {idx kk : Nat} {R0 F nm d C : String} {a : Addr} {v v' old : Value} {ty : FieldType} {fs : List (Key × Value)} (i j : Nat) (hd : decode bytes pc = .ok (.putfield idx, 3)) (w : (Cond.fieldLink own idx R0 nm d).before a0 Z = true) (via : Via Z R0 F nm d)
    (L : (Cond.lays C F nm d).before a0 Z = true ∨ ((Cond.laysFinal C F nm d).before a0 Z = true ∧ own = F ∧ name = "<init>")) (wi : (Cond.instantiable C kk).before a0 Z = true)
    (hi : O[i]? = some (a, .inl (C, fs))) (hj : fs[j]? = some ((F, nm, d), old)) (hty : parseFieldDescriptor d = some ty) (hn : narrow ty v = v') (hf : fits ty v' = true) (hO : O.set i (a, .inl (C, fs.set j ((F, nm, d), v'))) = O')
    (g : ∀ T, Now nar EL Z own name bytes maxL ret p l e R s m args below meth c P vm T k n O' RO FZ → Goes p e below Post (T.setTop (mkF m (pc + 3) Ls st))) : Goes p e below Post (T.setTop (mkF m pc Ls (v :: .ref a :: st))) := by
  subst hO
  obtain ⟨Cx, locs, X, h1, h2, h3, h4, H, r⟩ := id N
  obtain ⟨hx, hby, hml, hret, hlk, hnm, hr⟩ := id Cx
  have I := (H.2.2.1 _ (List.mem_of_getElem? hi)).1
  obtain ⟨T', h', X', e', W, st'⟩ := putFN X hx (s := s.setVm vm) h2 h3 w via rfl (I.2.1 _ (List.mem_of_getElem? hj)) I.1 (L.imp id fun q => ⟨q.1, q.2.1, hnm.trans q.2.2⟩) wi hty hn hf (g := mkF m pc Ls (v :: .ref a :: st)) rfl rfl (hb hby hd)
  subst e'
  exact (g T' (wrote Cx h1 h2 h3 h4 H r hi X' W (Is.wrF W hj I))).pre st'
theorem in_of' {vs : List Value} {c : Cell} {z : Int32} {j : Nat} (hs : c.slots = vs.toArray) (hz : z.toNatClampNeg = j) (h0 : ¬ z < 0) (hj : j < vs.length) : ¬ (z < 0 ∨ c.slots.size ≤ z.toNatClampNeg) := fun q => q.elim h0 fun q => by
  rw [hs, List.size_toArray, hz] at q; omega
theorem Now.castore (N : Now nar EL Z own name bytes maxL ret p l e R s m args below meth c P vm T k n O RO FZ) {a : Addr} {vs : List Value} {z : Int32} {x : Int32} {v' : Value} (i j : Nat) (hd : decode bytes pc = .ok (.castore, 1)) (hi : O[i]? = some (a, aO .char vs)) (hz : z.toNatClampNeg = j) (h0 : ¬ z < 0) (hj : j < vs.length) (hv : .int (RoadKit.nar .char x) = v') (hO : O.set i (a, aO .char (vs.set j v')) = O')
    (g : ∀ T, Now nar EL Z own name bytes maxL ret p l e R s m args below meth c P vm T k n O' RO FZ → Goes p e below Post (T.setTop (mkF m (pc + 1) Ls st))) : Goes p e below Post (T.setTop (mkF m pc Ls (.int x :: .int z :: .ref a :: st))) := by
  subst hO hv
  obtain ⟨Cx, locs, X, h1, h2, h3, h4, H, r⟩ := id N
  obtain ⟨hx, hby, hr⟩ := id Cx
  have I := (H.2.2.1 _ (List.mem_of_getElem? hi)).1
  obtain ⟨cl, A, hs, -⟩ := id I
  obtain ⟨T', h', X', e', W, st'⟩ := stC X hx (s := s.setVm vm) h2 rfl A (in_of' hs hz h0 hj) (g := mkF m pc Ls (.int x :: .int z :: .ref a :: st)) rfl rfl (hb hby hd)
  subst e'
  rw [hz] at X' W
  exact (g T' (wrote Cx h1 h2 h3 h4 H r hi X' W (Is.wrA W hj (fits_nar_char x) I))).pre st'
theorem Now.bastore (N : Now nar EL Z own name bytes maxL ret p l e R s m args below meth c P vm T k n O RO FZ) {a : Addr} {vs : List Value} {z : Int32} {x : Int32} {v' : Value} (i j : Nat) (hd : decode bytes pc = .ok (.bastore, 1)) (hi : O[i]? = some (a, aO .byte vs)) (hz : z.toNatClampNeg = j) (h0 : ¬ z < 0) (hj : j < vs.length) (hv : .int (RoadKit.nar .byte x) = v') (hO : O.set i (a, aO .byte (vs.set j v')) = O')
    (g : ∀ T, Now nar EL Z own name bytes maxL ret p l e R s m args below meth c P vm T k n O' RO FZ → Goes p e below Post (T.setTop (mkF m (pc + 1) Ls st))) : Goes p e below Post (T.setTop (mkF m pc Ls (.int x :: .int z :: .ref a :: st))) := by
  subst hO hv
  obtain ⟨Cx, locs, X, h1, h2, h3, h4, H, r⟩ := id N
  obtain ⟨hx, hby, hr⟩ := id Cx
  have I := (H.2.2.1 _ (List.mem_of_getElem? hi)).1
  obtain ⟨cl, A, hs, -⟩ := id I
  obtain ⟨T', h', X', e', W, st'⟩ := stB X hx (s := s.setVm vm) h2 rfl A (in_of' hs hz h0 hj) (g := mkF m pc Ls (.int x :: .int z :: .ref a :: st)) rfl rfl (hb hby hd)
  subst e'
  rw [hz] at X' W
  exact (g T' (wrote Cx h1 h2 h3 h4 H r hi X' W (Is.wrA W hj (fits_nar_byte x) I))).pre st'
theorem Now.iastore (N : Now nar EL Z own name bytes maxL ret p l e R s m args below meth c P vm T k n O RO FZ) {a : Addr} {vs : List Value} {z : Int32} {x : Int32} {v' : Value} (i j : Nat) (hd : decode bytes pc = .ok (.iastore, 1)) (hi : O[i]? = some (a, aO .int vs)) (hz : z.toNatClampNeg = j) (h0 : ¬ z < 0) (hj : j < vs.length) (hv : .int x = v') (hO : O.set i (a, aO .int (vs.set j v')) = O')
    (g : ∀ T, Now nar EL Z own name bytes maxL ret p l e R s m args below meth c P vm T k n O' RO FZ → Goes p e below Post (T.setTop (mkF m (pc + 1) Ls st))) : Goes p e below Post (T.setTop (mkF m pc Ls (.int x :: .int z :: .ref a :: st))) := by
  subst hO hv
  obtain ⟨Cx, locs, X, h1, h2, h3, h4, H, r⟩ := id N
  obtain ⟨hx, hby, hr⟩ := id Cx
  have I := (H.2.2.1 _ (List.mem_of_getElem? hi)).1
  obtain ⟨cl, A, hs, -⟩ := id I
  obtain ⟨T', h', X', e', W, st'⟩ := stI X hx (s := s.setVm vm) h2 rfl A (in_of' hs hz h0 hj) (g := mkF m pc Ls (.int x :: .int z :: .ref a :: st)) rfl rfl (hb hby hd)
  subst e'
  rw [hz] at X' W
  exact (g T' (wrote Cx h1 h2 h3 h4 H r hi X' W (Is.wrA W hj (rfl) I))).pre st'
theorem Now.lastore (N : Now nar EL Z own name bytes maxL ret p l e R s m args below meth c P vm T k n O RO FZ) {a : Addr} {vs : List Value} {z : Int32} {x : Int64} {v' : Value} (i j : Nat) (hd : decode bytes pc = .ok (.lastore, 1)) (hi : O[i]? = some (a, aO .long vs)) (hz : z.toNatClampNeg = j) (h0 : ¬ z < 0) (hj : j < vs.length) (hv : .long x = v') (hO : O.set i (a, aO .long (vs.set j v')) = O')
    (g : ∀ T, Now nar EL Z own name bytes maxL ret p l e R s m args below meth c P vm T k n O' RO FZ → Goes p e below Post (T.setTop (mkF m (pc + 1) Ls st))) : Goes p e below Post (T.setTop (mkF m pc Ls (.long x :: .int z :: .ref a :: st))) := by
  subst hO hv
  obtain ⟨Cx, locs, X, h1, h2, h3, h4, H, r⟩ := id N
  obtain ⟨hx, hby, hr⟩ := id Cx
  have I := (H.2.2.1 _ (List.mem_of_getElem? hi)).1
  obtain ⟨cl, A, hs, -⟩ := id I
  obtain ⟨T', h', X', e', W, st'⟩ := stJ X hx (s := s.setVm vm) h2 rfl A (in_of' hs hz h0 hj) (g := mkF m pc Ls (.long x :: .int z :: .ref a :: st)) rfl rfl (hb hby hd)
  subst e'
  rw [hz] at X' W
  exact (g T' (wrote Cx h1 h2 h3 h4 H r hi X' W (Is.wrA W hj (rfl) I))).pre st'
theorem Now.aastore (N : Now nar EL Z own name bytes maxL ret p l e R s m args below meth c P vm T k n O RO FZ) {a b : Addr} {C K : String} {vs : List Value} {fs : List (Key × Value)} {z : Int32} (i j i2 : Nat) (hd : decode bytes pc = .ok (.aastore, 1)) (hi : O[i]? = some (a, aO (.object K) vs)) (h2' : (O ++ (RO ++ FZ))[i2]? = some (b, .inl (C, fs))) (wc : (Cond.castable C K).before a0 Z = true) (hz : z.toNatClampNeg = j) (h0 : ¬ z < 0) (hj : j < vs.length) (hO : O.set i (a, aO (.object K) (vs.set j (.ref b))) = O')
    (g : ∀ T, Now nar EL Z own name bytes maxL ret p l e R s m args below meth c P vm T k n O' RO FZ → Goes p e below Post (T.setTop (mkF m (pc + 1) Ls st))) : Goes p e below Post (T.setTop (mkF m pc Ls (.ref b :: .int z :: .ref a :: st))) := by
  subst hO
  obtain ⟨Cx, locs, X, h1, h2, h3, h4, H, r⟩ := id N
  obtain ⟨hx, hby, hr⟩ := id Cx
  have I := (H.2.2.1 _ (List.mem_of_getElem? hi)).1
  obtain ⟨cl, A, hs, -, -, hO⟩ := id I
  have S : Sto Z T.heap a (.ref b) := Sto.of A (hO K rfl (H.2.2.1 _ (List.mem_of_getElem? hi)).2.1) (Ins.of_exa (H.atO h2').1 wc)
  obtain ⟨T', h', X', e', W, st'⟩ := stR X hx (s := s.setVm vm) h2 rfl A (in_of' hs hz h0 hj) rfl S (g := mkF m pc Ls (.ref b :: .int z :: .ref a :: st)) rfl rfl (hb hby hd)
  subst e'
  rw [hz] at X' W
  exact (g T' (wrote Cx h1 h2 h3 h4 H r hi X' W (Is.wrA W hj rfl I))).pre st'
theorem Now.objInit (N : Now nar EL Z own name bytes maxL ret p l e R s m args below meth c P vm T k n O RO FZ) {idx : Nat} {a : Addr} (hd : decode bytes pc = .ok (.invokespecial idx, 3)) (w1 : (Cond.methodLink own idx Lib.objectInit).before a0 Z = true) (w2 : (Cond.instanceMethod Lib.objectInit).before a0 Z = true) (w3 : (Cond.code Lib.objectInit ⟨#[0xb1]⟩ 1 none).before a0 Z = true) (hsz : Ls.size = maxL) (hf : 1 ≤ R.frames) (hl : (st.map fun v => v.category).sum + 12 ≤ R.locals)
    (g : ∀ T, Now nar EL Z own name bytes maxL ret p l e R s m args below meth c P vm T k n O RO FZ → Goes p e below Post (T.setTop (mkF m (pc + 3) Ls st))) : Goes p e below Post (T.setTop (mkF m pc Ls (.ref a :: st))) := by
  obtain ⟨⟨hx, hby, hml, hr⟩, locs, X, h1, h2, h3, h4, H, r⟩ := id N
  obtain ⟨T', X', e', st'⟩ := initO X hx (s := s.setVm vm) h2 h3 w1 w2 w3 rfl (g := mkF m pc Ls (.ref a :: st)) rfl (hsz.trans hml.symm) rfl (hb hby hd) hf (W := (st.map fun v => v.category).sum) (by show 2 * 0 + _ ≤ _; omega) hl
  exact (g T' (N.same ⟨locs, X', h4⟩ e')).pre st'
theorem arl_of_arv {h : Heap} {a : Addr} {cA : ClassId} {ty : FieldType} {z : Int32} {vs : List Value} {d : Value} (F : Arv Z h a cA ty z vs d) (hl : z.toNatClampNeg = vs.length) (hO : ∀ C, ty ≠ .object C) : ArL Z h a ty vs := by
  obtain ⟨cl, A, q1, q2, q3, H, G⟩ := F
  have hsz : cl.slots.size = vs.length := q2.trans hl
  have at' : ∀ j, j < vs.length → vs.getD j d = vs[j]! := fun j hj => by simp [hj]
  refine ⟨cl, A, ?_, ?_, fun v hv => ?_, fun C q _ => absurd q (hO C)⟩
  · apply Array.ext
    · rw [hsz, List.size_toArray]
    · intro j h1 h2
      have e := H j h1
      rw [Array.getElem?_eq_getElem h1] at e
      have hj : j < vs.length := by omega
      rw [Option.some.inj e]
      simp [hj]
  · rw [← hl]; have := Int32.toInt_lt z; simp only [Int32.toNatClampNeg]; omega
  · obtain ⟨j, hj⟩ := List.mem_iff_getElem?.mp hv
    have hlt := (List.getElem?_eq_some_iff.mp hj).1
    have := G j (by omega)
    rw [List.getD_eq_getElem?_getD, hj] at this
    exact this
theorem arv_of_arl {h : Heap} {a : Addr} {ty : FieldType} {z : Int32} {vs : List Value} (d : Value) (F : ArL Z h a ty vs) (hz : ¬ z < 0) (hl : z.toNatClampNeg = vs.length) : ∃ cA, Arv Z h a cA ty z vs d := by
  obtain ⟨cl, A, hs, hb, hf, -⟩ := F
  have hsz : cl.slots.size = vs.length := by rw [hs, List.size_toArray]
  refine ⟨cl.cls, cl, A, rfl, hsz.trans hl.symm, hz, fun j hj => ?_, fun j hj => ?_⟩
  · rw [hs]
    have hj' : j < vs.length := by omega
    simp [hj']
  · have hj' : j < vs.length := by omega
    rw [List.getD_eq_getElem?_getD, List.getElem?_eq_getElem hj']
    exact hf _ (List.getElem_mem hj')
theorem booksv_of_lit {W : State} {own text : String} {idx : Nat} {a : Addr} (w : (Cond.stringLink own idx text).before a0 W = true) (L : Lit W own idx a) : ∃ u, Booksv W.vm own idx u a := by
  have q : W.resolvedAt? own idx = some (.string a) := L
  cases hc : W.vm.findClass own with
  | none => simp [State.resolvedAt?, hc] at q
  | some cc =>
    obtain ⟨k, cf, i, u, e1, e2, e3, e4, -, -, -⟩ := Cond.stringLink_spec hc w
    refine ⟨u, cc, k, cf, i, hc, e1, e2, e3, e4, Or.inl ?_⟩
    simp [State.resolvedAt?, hc, e1] at q
    cases hr : k.resolved[idx]? with
    | none => rw [hr] at q; cases q
    | some o => rw [hr] at q; cases o with
      | none => cases q
      | some r => simpa using q
theorem Now.ldc (N : Now nar EL Z own name bytes maxL ret p l e R s m args below meth c P vm T k n O RO FZ) {idx nn : Nat} {text : String} {vs : List Value} {z : Int32} (hd : decode bytes pc = .ok (.ldc idx, 2)) (w : (Cond.stringLink own idx text).before a0 Z = true) (wS : ∀ a ∈ Bundle.stringAtoms, a.before a0 Z = true) (hEL : EW Z a0 EL) (hm : (own, idx) ∈ EL) (hN : nar = false)
    (hsl : slotK Z vK ≠ slotK Z cK) (ht : (∀ c ∈ text.toList, c.toNat < 256) ∧ text.toList.map (fun c => Value.int (Jvm.Lit.byteI c.toNat.toUInt16)) = vs) (hz : ¬ z < 0) (hzl : z.toNatClampNeg = vs.length) (hn : 4 * text.toList.length ≤ nn) (hbig : nn ≤ 536870912) (hc : k + 2 ≤ R.cells) (hs : n + (nn + 4) ≤ R.slots)
    (g : ∀ a b vm T, Now nar EL Z own name bytes maxL ret p l e R s m args below meth c P vm T (k + 2) (n + (nn + 4)) O RO (FZ ++ [(a, sO b), (b, aO .byte vs)]) → Goes p e below Post (T.setTop (mkF m (pc + 2) Ls (.ref a :: st)))) : Goes p e below Post (T.setTop (mkF m pc Ls st)) := by
  obtain ⟨Cx, locs, X, h1, h2, h3, h4, H, K, CR, hw, L⟩ := id N
  obtain ⟨hx, hby, hr⟩ := id Cx
  obtain ⟨a, T', h', k1, b, cA, X', e', E, hS, hk1, hZ', hf', EA, FC, FV, AV, la, lb, CR', LI, -, st'⟩ := ldcCH (s := s.setVm vm) (vm0 := vm) X hx h2 h3 w wS rfl ((State.WarmedH.refl (s.setVm vm)).since T.heap.size) (Nat.le_refl _) hEL hm H.2.1 ht hz hzl (g := mkF m pc Ls st) rfl (hb hby hd) hn hbig hc hs
  subst e'
  have hW : (Wst Z vm T.heap).Warmed39 T'.vm := hS.1
  obtain ⟨u, hb'⟩ := booksv_of_lit (W := (s.setVm vm).setVm T'.vm) (a0 := a0) (mvS (s := s.setVm vm) hZ' w) LI
  have LL' : LitI Z EL T'.vm T'.heap (a, b, vs) := ⟨⟨EA, fun f hf => by
    rcases List.mem_cons.mp hf with rfl | hf
    · exact FV
    · rw [List.mem_singleton.mp hf]; exact FC, by simp [hsl]⟩, arl_of_arv AV hzl (fun C q => by cases q), _, hm, u, hb'⟩
  have hW' : (Wst Z vm T'.heap).Warmed39 T'.vm := hS.1
  have H1 : HI Z EL T'.vm T'.heap s.heap.size O RO FZ := by
    obtain ⟨i1, i2, i3, i4, i5, i6⟩ := H
    exact ⟨⟨Nat.le_trans i1.1 E.1, fun x c q => E.2 x c (i1.2 x c q)⟩, CR'.1, fun q hq => ⟨(i3 q hq).1.ext E, (i3 q hq).2.1, CR'.safe (i3 q hq).1.lt (i3 q hq).2.2⟩, i4, fun q hq => (i5 q hq).step fun x hx hA => ⟨same_ext E hx, hA⟩, fun q hq => (i6 q hq).step fun x hx hA => ⟨same_ext E hx, hA.1, hA.2.imp id fun L => (L.step fun y hy _ => same_ext E hy).later h2 hW' hEL⟩⟩
  exact (g a b T'.vm T' ⟨Cx, locs, X', h1.trans ⟨hS.1, hS.2.mono hk1⟩ E.1, hZ', hf', h4, H1.lit hZ'.alike LL', K.ext E, CR.trans CR', fun q => (by rw [hN] at q; cases q), L⟩).pre st'
theorem Now.leave (N : Now nar EL Z own name bytes maxL ret p l e R s m args below meth c P vm T k n O RO FZ) {PR : HL} {Q : Option Value → HL → HL → Prop} {cells slots : Nat} {v : Option Value} {FN : HL} (hv : ret = none → v = none) (hro : ∀ q ∈ PR, q ∈ RO) (hlt : ∀ q ∈ FN, q ∈ FZ) (hk : k ≤ cells) (hn : n ≤ slots) (hQ : Q v O FN) :
    ∃ fs, (∀ (f : JFrame) (acts : List Action), f.method = m → f.locked = none → f.entered = [] → (doReturn e (T.setTop f) acts v).1 = T.setFrames fs) ∧ (T.setFrames fs).status = .running ∧ Ended (T.setFrames fs) below (.returned v) ∧ Out nar EL Z P PR Q cells slots s (.returned v) (T.setFrames fs) := by
  obtain ⟨⟨hx, hby, hml, hret, hlk, hnm, a0, hEL⟩, locs, X, h1, h2, h3, h4, H, K, CR, hw, L⟩ := N
  obtain ⟨fs, g1, g2, g3, g4⟩ := (X.mono hk hn).leaveW h1 (Nat.le_refl _) (v := v) (fun q => hv (hret ▸ q)) hlk
  have A := CHv.at X h2 hEL H.2.1
  have H' := (H.later h2 (show (Wst Z vm T.heap).Warmed39 T.vm from X.warmed.wide) hEL A).forget hro hlt
  exact ⟨fs, g1, g2, g3, v, locs, O, FN, rfl, hQ, h4, H', K, L, CR.trans A, fun q => State.WarmedH.trans (t := s.setVm vm) (hw q) X.warmed, g4⟩
theorem Now.retV (N : Now nar EL Z own name bytes maxL ret p l e R s m args below meth c P vm T k n O RO FZ) {PR : HL} {Q : Option Value → HL → HL → Prop} {cells slots : Nat} (FN : HL) (hro : ∀ q ∈ PR, q ∈ RO) (hlt : ∀ q ∈ FN, q ∈ FZ) (hk : k ≤ cells) (hn : n ≤ slots) (hd : decode bytes pc = .ok (.return_, 1)) (hret : ret = none) (hQ : Q none O FN) : Goes p e below (Out nar EL Z P PR Q cells slots s) (T.setTop (mkF m pc Ls [])) := by
  obtain ⟨fs, g1, g2, g3, g4⟩ := N.leave (PR := PR) (v := none) (fun _ => rfl) hro hlt hk hn hQ
  obtain ⟨⟨hx, hby, hml, hret', hlk, hnm, hr⟩, locs, X, -⟩ := N
  exact ⟨_, _, X.returnOut hx (hret'.trans hret) (hb hby hd) g1, g2, g3, g4⟩
theorem Now.ireturn (N : Now nar EL Z own name bytes maxL ret p l e R s m args below meth c P vm T k n O RO FZ) {PR : HL} {Q : Option Value → HL → HL → Prop} {cells slots : Nat} (FN : HL) (hro : ∀ q ∈ PR, q ∈ RO) (hlt : ∀ q ∈ FN, q ∈ FZ) (hk : k ≤ cells) (hn : n ≤ slots) {t : FieldType} {x : Int32} (hd : decode bytes pc = .ok (.ireturn, 1)) (hret : ret = some t) (ht : t = .int ∨ t = .boolean ∨ t = .byte ∨ t = .char ∨ t = .short) (hnar : narrow t (.int x) = .int x) (hQ : Q (some (.int x)) O FN) : Goes p e below (Out nar EL Z P PR Q cells slots s) (T.setTop (mkF m pc Ls (.int x :: st))) := by
  obtain ⟨fs, g1, g2, g3, g4⟩ := N.leave (PR := PR) (v := some (.int x)) (fun q => by rw [hret] at q; cases q) hro hlt hk hn hQ
  obtain ⟨⟨hx, hby, hml, hret', hlk, hnm, -⟩, locs, X, -⟩ := N
  exact ⟨_, _, retOut X hx (hret'.trans hret) hnar (Or.inl ⟨rfl, ht, x, rfl⟩) (hb hby hd) g1, g2, g3, g4⟩
theorem Now.lreturn (N : Now nar EL Z own name bytes maxL ret p l e R s m args below meth c P vm T k n O RO FZ) {PR : HL} {Q : Option Value → HL → HL → Prop} {cells slots : Nat} (FN : HL) (hro : ∀ q ∈ PR, q ∈ RO) (hlt : ∀ q ∈ FN, q ∈ FZ) (hk : k ≤ cells) (hn : n ≤ slots) {t : FieldType} {x : Int64} (hd : decode bytes pc = .ok (.lreturn, 1)) (hret : ret = some t) (ht : t = .long) (hnar : narrow t (.long x) = .long x) (hQ : Q (some (.long x)) O FN) : Goes p e below (Out nar EL Z P PR Q cells slots s) (T.setTop (mkF m pc Ls (.long x :: st))) := by
  obtain ⟨fs, g1, g2, g3, g4⟩ := N.leave (PR := PR) (v := some (.long x)) (fun q => by rw [hret] at q; cases q) hro hlt hk hn hQ
  obtain ⟨⟨hx, hby, hml, hret', hlk, hnm, -⟩, locs, X, -⟩ := N
  exact ⟨_, _, retOut X hx (hret'.trans hret) hnar (Or.inr (Or.inl ⟨rfl, ht, x, rfl⟩)) (hb hby hd) g1, g2, g3, g4⟩
theorem Now.areturn (N : Now nar EL Z own name bytes maxL ret p l e R s m args below meth c P vm T k n O RO FZ) {PR : HL} {Q : Option Value → HL → HL → Prop} {cells slots : Nat} (FN : HL) (hro : ∀ q ∈ PR, q ∈ RO) (hlt : ∀ q ∈ FN, q ∈ FZ) (hk : k ≤ cells) (hn : n ≤ slots) {t : FieldType} {x : Value} (hd : decode bytes pc = .ok (.areturn, 1)) (hret : ret = some t) (ht : t.isReference = true) (hr : x.isRef = true) (hnar : narrow t (x) = x) (hQ : Q (some (x)) O FN) : Goes p e below (Out nar EL Z P PR Q cells slots s) (T.setTop (mkF m pc Ls (x :: st))) := by
  obtain ⟨fs, g1, g2, g3, g4⟩ := N.leave (PR := PR) (v := some (x)) (fun q => by rw [hret] at q; cases q) hro hlt hk hn hQ
  obtain ⟨⟨hx, hby, hml, hret', hlk, hnm, -⟩, locs, X, -⟩ := N
  exact ⟨_, _, retOut X hx (hret'.trans hret) hnar (Or.inr (Or.inr (Or.inr (Or.inr ⟨rfl, ht, hr⟩)))) (hb hby hd) g1, g2, g3, g4⟩
end Steps
/-- a contract is a walk -/
theorem Con.intro {ws : List Cond} {nar : Bool} {EL : List (String × Nat)} {l : Launch} {Z : State} {y : MethodName} {bytes : ByteArray} {maxL : Nat} {ret : Option FieldType} {rm : Room} {as' : List Value} {P PR : HL} {Q : Option Value → HL → HL → Prop} {own name : String} (hpn : plainFor y = true) (ho : y.cls = own) (hnm' : y.name = name) (hEW : ∃ a0, EW Z a0 EL) (Ls : Array Slot) (hLs : Jvm.Sym.laidSlots as' ++ List.replicate (maxL - (Jvm.Sym.laidSlots as').length) .unset = Ls.toList)
    (body : ∀ p e s m below meth c T, Now nar EL Z own name bytes maxL ret p l e rm s m as'.toArray below meth c P s.vm T 0 0 P PR [] → Goes p e below (Out nar EL Z P PR Q rm.cells rm.slots s) (T.setTop (mkF m 0 Ls []))) : ConW nar EL l Z ws y bytes maxL ret rm as' P PR Q := by
  subst ho hnm'
  refine MetFree.of_bodySF hpn hisR ?_
  intro p e s m args below meth c s₁ Bd hml hP _
  obtain ⟨rfl, hZ, H⟩ := hP
  have X0 : Stand p l e rm s m as'.toArray below meth c s₁ [] 0 0 := Stand.of_body Bd
  have e0 : s₁.heap = s.heap := by rw [Bd.state]; rfl
  have N : Now nar EL Z y.cls y.name bytes maxL ret p l e rm s m as'.toArray below meth c P s.vm s₁ 0 0 P PR [] :=
    ⟨⟨Bd.exec, Bd.bytes, hml, Bd.returns, Bd.notSynchronized, (name_of_methodNamed Bd.named Bd.method).1, hEW⟩, [], X0, (State.WarmedH.refl s).since _, hZ, findClass_of_methodNamed Bd.named, Fr.nil _, by rw [e0]; exact H, by rw [e0]; exact Keep.refl _ _, by rw [e0]; exact CHr.refl H.2.1, fun _ => State.WarmedH.refl s, by rw [← List.length_map (f := (·.1)), List.take_length], fun q hq => by rw [List.drop_length] at hq; exact nomatch hq⟩
  obtain ⟨s₂, o, h1, h2, h3, h4⟩ := body p e s m below meth c s₁ N
  exact ⟨s₂, o, (XT.entry (args := as'.toArray) hLs).trans h1, h2, h3, h4⟩
end Jvm.Own

namespace Jvm.Own
open Jvm Jvm.ClassFile Sem Op Lib Bundle Jvm.Free Jvm.Stand Jvm.LawKit Jvm.RoadKit
open Jvm.Free.XT (ushr ushrL cmpL)
/-! The framework, part 3: calls by contract. -/
section Calls
variable {nar : Bool} {EL : List (String × Nat)} {Z : State} {a0 : Array Value} {own name : String} {bytes : ByteArray} {maxL : Nat} {ret : Option FieldType} {p : Program} {l : Launch} {e : Env} {R : Room} {s : State} {m : MethodId} {args : Array Value} {below : List Frame} {meth : Method} {c : Code} {P O RO FZ : HL}
variable {vm : Vm} {T : State} {k n : Nat} {Post : Outcome → State → Prop} {pc : Nat} {Ls : Array Slot} {st : List Value}
variable {y z : MethodName} {cb : ByteArray} {cl : Nat} {cr : Option FieldType} {rm : Room} {as' : List Value} {CP CR : HL} {Q : Option Value → HL → HL → Prop} {ip ir : List Nat} {idx : Nat}
/-- what a call leaves, as Back's Post -/
def Left (nar : Bool) (EL : List (String × Nat)) (Z : State) (s : State) (vm : Vm) (T : State) (rm : Room) (CP CR : HL) (Q : Option Value → HL → HL → Prop) (A : Free.Pt) (v : Option Value) (B : Free.Pt) : Prop :=
  ∃ (L : List Loc) (O' FN : HL), Q v O' FN ∧ Fr Z.heap.size L ∧ HI Z EL B.U.vm B.U.heap T.heap.size O' CR FN ∧ Keep T.heap B.U.heap (CP.map (·.1)) ∧ Lays CP T.heap O' ∧ CHr Z EL vm T.heap B.U.vm B.U.heap ∧ (nar = true → (s.setVm vm).WarmedH B.U.vm) ∧ B.locs = A.locs ++ L ∧ B.cells = A.cells + rm.cells ∧ B.slots = A.slots + rm.slots
theorem Con.back (C : Con nar EL l Z y cb cl cr rm as' CP CR Q) (N : Now nar EL Z own name bytes maxL ret p l e R s m args below meth c P vm T k n O RO FZ) (wc : (Cond.code y cb cl cr).before a0 Z = true) (wz : (Cond.initialized y.cls).before a0 Z = true) (hP : pick O ip = CP) (hPR : pick (O ++ (RO ++ FZ)) ir = CR) (hn : ip.Nodup) (hd : ∀ j ∈ ir, j ∉ ip) {W len : Nat} (hf : rm.frames + 1 ≤ R.frames) (hl : W + (cl + 11) + rm.locals ≤ R.locals) :
    BackS l R p e below (s.setVm vm) args y len W (fun A a => a = as'.toArray ∧ A.U.heap = T.heap ∧ A.cells + rm.cells ≤ R.cells ∧ A.slots + rm.slots ≤ R.slots) (fun A _ v B => Left nar EL Z s vm T rm CP CR Q A v B) := by
  obtain ⟨⟨hx, hby, hml, hret, hlk, hnm, a1, hEL⟩, locs, X, h1, h2, h3, h4, H, r⟩ := N
  have H0 := H.call (n1 := T.heap.size) hP hPR hn hd
  refine BackS.of_freeW (bytes := cb) (maxL := cl) (ret := cr) (E := fun _ U o U' L k n => k = rm.cells ∧ n = rm.slots ∧ ∃ (v : Option Value) (O' FN : HL), o = .returned v ∧ Q v O' FN ∧ Fr Z.heap.size L ∧ HI Z EL U'.vm U'.heap U.heap.size O' CR FN ∧ Keep U.heap U'.heap (CP.map (·.1)) ∧ Lays CP U.heap O' ∧ CHr Z EL U.vm U.heap U'.vm U'.heap ∧ (nar = true → U.WarmedH U'.vm)) C hf hl
    (fun m meth c A a Y hp => ?_) (fun m meth c A a g mk Y hp => ?_) (fun _ _ _ _ _ _ _ _ _ => trivial) (fun _ _ _ _ q => ?_) (fun m meth c A a g mk v t L k n Y hp _ _ q => ?_)
  · have hU : Z.Warmed39 A.U.vm := wtrans (s := s.setVm vm) h2 Y.warmed
    exact ⟨by show (Cond.and _ .tt).before a A.U = true; rw [Cond.before_and, mv hU wc]; rfl, mv hU wc, mv hU wz, hp.2.2.1, hp.2.2.2⟩
  · have hU : Z.Warmed39 A.U.vm := wtrans (s := s.setVm vm) h2 Y.warmed
    refine ⟨hp.1, hU, ?_⟩
    show HI Z EL A.U.vm A.U.heap A.U.heap.size CP CR []
    rw [hp.2.1]
    exact H0.later h2 (show (Wst Z vm T.heap).Warmed39 A.U.vm from Y.warmed.wide) hEL (CHv.at Y h2 hEL H.2.1)
  · obtain ⟨v, L, O', FN, q1, q2, q3, q4, q5, q6, q7, q8, q9⟩ := q
    exact ⟨L, _, _, q9, rfl, rfl, v, O', FN, q1, q2, q3, q4, q5, q6, q7, q8⟩
  · obtain ⟨e1, e2, v', O', FN, q1, q2, q3, q4, q5, q6, q7, q8⟩ := q
    cases q1; subst e1 e2
    have q4' : HI Z EL t.vm t.heap A.U.heap.size O' CR FN := q4
    have q5' : Keep A.U.heap t.heap (CP.map (·.1)) := q5
    have q6' : Lays CP A.U.heap O' := q6
    have q7' : CHr Z EL A.U.vm A.U.heap t.vm t.heap := q7
    rw [hp.2.1] at q4' q5' q6' q7'
    exact ⟨L, O', FN, q2, q3, q4', q5', q6', (CHv.at Y h2 hEL H.2.1).trans q7', fun q => State.WarmedH.trans (t := A.U) Y.warmed (q8 q), rfl, rfl, rfl⟩
theorem Lays.merge {h0 : Heap} {h1 : Heap} {O' : HL} (L : Lays P h0 O) (hle : h0.size ≤ h1.size) (hP : pick O ip = CP) (hl : ∀ i ∈ ip, i < O.length) (L' : Lays CP h1 O') : Lays P h0 (merge O ip O') := by
  subst hP
  have plen : (pick O ip).length = ip.length := by
    clear L'
    induction ip with
    | nil => rfl
    | cons i r ih =>
      unfold pick
      rw [List.getElem?_eq_getElem (hl i (List.mem_cons_self ..))]
      exact congrArg (· + 1) (ih fun j hj => hl j (List.mem_cons_of_mem _ hj))
  obtain ⟨L1, L2⟩ := L'
  rw [plen] at L1 L2
  have Lf : (O'.take ip.length).map (·.1) = (pick O ip).map (·.1) := by rw [List.map_take]; exact L1
  have fst := put_fst hl Lf
  have len : (put O ip (O'.take ip.length)).length = O.length := by have := congrArg List.length fst; simpa using this
  have hPO := L.len
  unfold Own.merge
  refine ⟨?_, fun q hq => ?_⟩
  · rw [List.map_append, List.take_append_of_le_length (by rw [List.length_map, len]; exact hPO), fst]; exact L.1
  · rw [List.drop_append_of_le_length (by rw [len]; exact hPO)] at hq
    rcases List.mem_append.mp hq with hq | hq
    · have : q.1 ∈ ((put O ip (O'.take ip.length)).drop P.length).map (·.1) := List.mem_map.mpr ⟨q, hq, rfl⟩
      rw [List.map_drop, fst, ← List.map_drop] at this
      obtain ⟨p', q1, q2⟩ := List.mem_map.mp this
      rw [← q2]; exact L.2 p' q1
    · exact Nat.le_trans hle (L2 q hq)
/-- the walk behind a call -/
theorem Now.after (N : Now nar EL Z own name bytes maxL ret p l e R s m args below meth c P vm T k n O RO FZ) {locs' : List Loc} {B : Free.Pt} {v : Option Value} {vm₁ : Vm} (hP : pick O ip = CP) (hn : ip.Nodup) (hl : ∀ i ∈ ip, i < O.length) (hlocs : ∀ locs, Stand p l e R (s.setVm vm) m args below meth c T locs k n → True)
    (X' : Stand p l e R ((s.setVm vm).setVm B.U.vm) m args below meth c B.U B.locs B.cells B.slots) (hS : (s.setVm vm).Since B.U.vm B.U.heap.size) (hg : T.heap.size ≤ B.U.heap.size) (hfr : Fr Z.heap.size locs') (q : Left nar EL Z s vm T rm CP CR Q ⟨T.setVm vm₁, locs', k, n⟩ v B) :
    ∃ O' FN, Q v O' FN ∧ Now nar EL Z own name bytes maxL ret p l e R s m args below meth c P B.U.vm B.U (k + rm.cells) (n + rm.slots) (merge O ip O') RO (FZ ++ FN) := by
  obtain ⟨⟨hx, hby, hml, hret, hlk, hnm, a1, hEL⟩, locs, X, h1, h2, h3, h4, H, K, CRr, hw, L⟩ := N
  obtain ⟨Lc, O', FN, q1, q2, q3, q4, q5, q6, q7, l1, l2, l3⟩ := q
  have hW : (Wst Z vm T.heap).Warmed39 B.U.vm := hS.1
  have hZ' : Z.Warmed39 B.U.vm := State.Warmed39.trans (t := s.setVm vm) h2 hS.1
  rw [l2, l3] at X'
  refine ⟨O', FN, q1, ⟨hx, hby, hml, hret, hlk, hnm, a1, hEL⟩, B.locs, X', h1.trans hS hg, hZ', ?_, ?_, H.back h2 hZ' hW hEL K.1 hP hn hl q4 q6 q3 q5, ?_, CRr.trans q6, fun q => State.WarmedH.trans (t := s.setVm vm) (hw q) (q7 q), L.merge K.1 hP hl q5⟩
  · rw [hS.1.alike.findClass]; exact h3
  · rw [l1]; exact hfr.app q2
  · refine K.trans q4 fun x hx => ?_
    obtain ⟨pp, hp, rfl⟩ := List.mem_map.mp hx
    rw [← hP] at hp
    obtain ⟨i, -, hi⟩ := mem_pick hp
    exact in_P L hi
theorem Now.callS (N : Now nar EL Z own name bytes maxL ret p l e R s m args below meth c P vm T k n O RO FZ) (C : Con nar EL l Z y cb cl cr rm as' CP CR Q) {ps : List FieldType} {rt : Option FieldType} (ip ir : List Nat) (hd : decode bytes pc = .ok (.invokestatic idx, 3)) (w1 : (Cond.methodLink own idx y).before a0 Z = true) (w2 : (Cond.static y).before a0 Z = true) (wz : (Cond.initialized y.cls).before a0 Z = true) (wc : (Cond.code y cb cl cr).before a0 Z = true)
    (hy : y.cls ≠ "java/lang/invoke/MethodHandle" ∧ y.cls ≠ "java/lang/invoke/VarHandle") (hpd : parseMethodDescriptor y.desc = some ⟨ps, rt⟩) (hps : as'.length = ps.length) {stk : List Value} (hst : stk = as'.reverse ++ st) (hP : pick O ip = CP) (hPR : pick (O ++ (RO ++ FZ)) ir = CR) (hn : ip.Nodup) (hdj : ∀ j ∈ ir, j ∉ ip) (hil : ∀ i ∈ ip, i < O.length) (hsz : Ls.size = maxL) (hf : rm.frames + 1 ≤ R.frames) (hl : (st.map fun v => v.category).sum + (cl + 11) + rm.locals ≤ R.locals) (hc : k + rm.cells ≤ R.cells) (hs : n + rm.slots ≤ R.slots)
    (g : ∀ v O' FN vm T, Q v O' FN → Now nar EL Z own name bytes maxL ret p l e R s m args below meth c P vm T (k + rm.cells) (n + rm.slots) (merge O ip O') RO (FZ ++ FN) → Goes p e below Post (T.setTop (mkF m (pc + 3) Ls (v.toList ++ st)))) : Goes p e below Post (T.setTop (mkF m pc Ls stk)) := by
  obtain ⟨⟨hx, hby, hml, hr⟩, locs, X, h1, h2, h3, h4, H, r⟩ := id N
  obtain ⟨v, vm₁, B, hw₁, X', hS, hg, hq, st'⟩ := callSS X hx h3 (mvT (s := s.setVm vm) h2 w1) (mvT (s := s.setVm vm) h2 w2) (mvT (s := s.setVm vm) h2 wz) (mvT (s := s.setVm vm) h2 wc) hy (C.back N wc wz hP hPR hn hdj hf hl) (g := mkF m pc Ls stk) rfl (hsz.trans hml.symm) (argsL := as') (rest := st) (lenOf hpd hps) hst (by show 2 * 0 + _ ≤ _; omega) (hb hby hd) (fun _ _ => ⟨rfl, rfl, hc, hs⟩)
  obtain ⟨O', FN, hQ, N'⟩ := N.after hP hn hil (fun _ _ => trivial) X' hS hg h4 hq
  exact (g v O' FN _ _ hQ N').pre fun t q => st'.trans q
theorem Now.callI (N : Now nar EL Z own name bytes maxL ret p l e R s m args below meth c P vm T k n O RO FZ) {a : Addr} (C : Con nar EL l Z y cb cl none rm (.ref a :: as') CP CR Q) {ps : List FieldType} {rt : Option FieldType} (ip ir : List Nat) (hd : decode bytes pc = .ok (.invokespecial idx, 3)) (hy1 : y.name = "<init>") (w1 : (Cond.methodLink own idx y).before a0 Z = true) (w2 : (Cond.instanceMethod y).before a0 Z = true) (wz : (Cond.initialized y.cls).before a0 Z = true) (wc : (Cond.code y cb cl none).before a0 Z = true)
    (hy : y.cls ≠ "java/lang/invoke/MethodHandle" ∧ y.cls ≠ "java/lang/invoke/VarHandle") (hpd : parseMethodDescriptor y.desc = some ⟨ps, rt⟩) (hps : as'.length = ps.length) {stk : List Value} (hst : stk = as'.reverse ++ .ref a :: st) (hP : pick O ip = CP) (hPR : pick (O ++ (RO ++ FZ)) ir = CR) (hn : ip.Nodup) (hdj : ∀ j ∈ ir, j ∉ ip) (hil : ∀ i ∈ ip, i < O.length) (hsz : Ls.size = maxL) (hf : rm.frames + 1 ≤ R.frames) (hl : (st.map fun v => v.category).sum + (cl + 11) + rm.locals ≤ R.locals) (hc : k + rm.cells ≤ R.cells) (hs : n + rm.slots ≤ R.slots)
    (g : ∀ v O' FN vm T, Q v O' FN → Now nar EL Z own name bytes maxL ret p l e R s m args below meth c P vm T (k + rm.cells) (n + rm.slots) (merge O ip O') RO (FZ ++ FN) → Goes p e below Post (T.setTop (mkF m (pc + 3) Ls (v.toList ++ st)))) : Goes p e below Post (T.setTop (mkF m pc Ls stk)) := by
  obtain ⟨⟨hx, hby, hml, hr⟩, locs, X, h1, h2, h3, h4, H, r⟩ := id N
  obtain ⟨v, vm₁, B, hw₁, X', hS, hg, hq, st'⟩ := X.specialBackS hx hy1 h3 (mvT (s := s.setVm vm) h2 w1) (mvT (s := s.setVm vm) h2 w2) (mvT (s := s.setVm vm) h2 wc) hy (C.back N wc wz hP hPR hn hdj hf hl) (g := mkF m pc Ls stk) rfl (hsz.trans hml.symm) (Steps.refl _) (a := a) (argsL := as') (rest := st) (lenOf hpd hps) hst (by show 2 * 0 + _ ≤ _; omega) (hb hby hd) (fun _ _ => ⟨rfl, rfl, hc, hs⟩)
  obtain ⟨O', FN, hQ, N'⟩ := N.after hP hn hil (fun _ _ => trivial) X' hS hg h4 hq
  exact (g v O' FN _ _ hQ N').pre fun t q => st'.trans q
theorem Now.callV (N : Now nar EL Z own name bytes maxL ret p l e R s m args below meth c P vm T k n O RO FZ) {a : Addr} {K : String} {fs : List (Key × Value)} (C : Con nar EL l Z y cb cl cr rm (.ref a :: as') CP CR Q) {ps : List FieldType} {rt : Option FieldType} (i : Nat) (ip ir : List Nat) (hd : decode bytes pc = .ok (.invokevirtual idx, 3)) (w1 : (Cond.methodLink own idx y).before a0 Z = true) (w2 : (Cond.declares y).before a0 Z = true) (w3 : (Cond.selects K y y).before a0 Z = true) (w4 : (Cond.instanceMethod y).before a0 Z = true) (wz : (Cond.initialized y.cls).before a0 Z = true) (wc : (Cond.code y cb cl cr).before a0 Z = true) 
    (hi : (O ++ (RO ++ FZ))[i]? = some (a, .inl (K, fs))) (hy : y.cls ≠ "java/lang/invoke/MethodHandle" ∧ y.cls ≠ "java/lang/invoke/VarHandle") (hpd : parseMethodDescriptor y.desc = some ⟨ps, rt⟩) (hps : as'.length = ps.length) {stk : List Value} (hst : stk = as'.reverse ++ .ref a :: st) (hP : pick O ip = CP) (hPR : pick (O ++ (RO ++ FZ)) ir = CR) (hn : ip.Nodup) (hdj : ∀ j ∈ ir, j ∉ ip) (hil : ∀ i ∈ ip, i < O.length) (hsz : Ls.size = maxL) (hf : rm.frames + 1 ≤ R.frames) (hl : (st.map fun v => v.category).sum + (cl + 11) + rm.locals ≤ R.locals) (hc : k + rm.cells ≤ R.cells) (hs : n + rm.slots ≤ R.slots)
    (g : ∀ v O' FN vm T, Q v O' FN → Now nar EL Z own name bytes maxL ret p l e R s m args below meth c P vm T (k + rm.cells) (n + rm.slots) (merge O ip O') RO (FZ ++ FN) → Goes p e below Post (T.setTop (mkF m (pc + 3) Ls (v.toList ++ st)))) : Goes p e below Post (T.setTop (mkF m pc Ls stk)) := by
  obtain ⟨⟨hx, hby, hml, hr⟩, locs, X, h1, h2, h3, h4, H, r⟩ := id N
  obtain ⟨cB, kB, i1, i2, i3⟩ := isOf (s := s.setVm vm) (T := T) h2 rfl (H.atO hi).1
  obtain ⟨v, vm₁, B, hw₁, X', hS, hg, hq, st'⟩ := X.virtualBackS hx h3 (mvT (s := s.setVm vm) h2 w1) (mvT (s := s.setVm vm) h2 w2) (notFace_of_selects (args := #[]) (mvT (s := s.setVm vm) h2 w3)) (mvT (s := s.setVm vm) h2 w3) (mvT (s := s.setVm vm) h2 w4) hy (C.back N wc wz hP hPR hn hdj hf hl) i1 i3 (g := mkF m pc Ls stk) rfl (hsz.trans hml.symm) (Steps.refl _) (argsL := as') (rest := st) (lenOf hpd hps) hst (by show 2 * 0 + _ ≤ _; omega) (hb hby hd) (fun _ _ => ⟨rfl, rfl, hc, hs⟩)
  obtain ⟨O', FN, hQ, N'⟩ := N.after hP hn hil (fun _ _ => trivial) X' hS hg h4 hq
  exact (g v O' FN _ _ hQ N').pre fun t q => st'.trans q
theorem Now.callW (N : Now nar EL Z own name bytes maxL ret p l e R s m args below meth c P vm T k n O RO FZ) {a : Addr} {K : String} {fs : List (Key × Value)} (C : Con nar EL l Z z cb cl cr rm (.ref a :: as') CP CR Q) {ps : List FieldType} {rt : Option FieldType} (i : Nat) (ip ir : List Nat) (hd : decode bytes pc = .ok (.invokevirtual idx, 3)) (w1 : (Cond.methodLink own idx y).before a0 Z = true) (w2 : (Cond.declares y).before a0 Z = true) (w3 : (Cond.selects K y z).before a0 Z = true) (w4 : (Cond.instanceMethod z).before a0 Z = true) (wz : (Cond.initialized z.cls).before a0 Z = true) (wc : (Cond.code z cb cl cr).before a0 Z = true) {S : String} (ws : (Cond.superclass y.cls S).before a0 Z = true)
    (hi : (O ++ (RO ++ FZ))[i]? = some (a, .inl (K, fs))) (hy : y.cls ≠ "java/lang/invoke/MethodHandle" ∧ y.cls ≠ "java/lang/invoke/VarHandle") (hpd : parseMethodDescriptor y.desc = some ⟨ps, rt⟩) (hps : as'.length = ps.length) {stk : List Value} (hst : stk = as'.reverse ++ .ref a :: st) (hP : pick O ip = CP) (hPR : pick (O ++ (RO ++ FZ)) ir = CR) (hn : ip.Nodup) (hdj : ∀ j ∈ ir, j ∉ ip) (hil : ∀ i ∈ ip, i < O.length) (hsz : Ls.size = maxL) (hf : rm.frames + 1 ≤ R.frames) (hl : (st.map fun v => v.category).sum + (cl + 11) + rm.locals ≤ R.locals) (hc : k + rm.cells ≤ R.cells) (hs : n + rm.slots ≤ R.slots)
    (g : ∀ v O' FN vm T, Q v O' FN → Now nar EL Z own name bytes maxL ret p l e R s m args below meth c P vm T (k + rm.cells) (n + rm.slots) (merge O ip O') RO (FZ ++ FN) → Goes p e below Post (T.setTop (mkF m (pc + 3) Ls (v.toList ++ st)))) : Goes p e below Post (T.setTop (mkF m pc Ls stk)) := by
  obtain ⟨⟨hx, hby, hml, hr⟩, locs, X, h1, h2, h3, h4, H, r⟩ := id N
  obtain ⟨cB, kB, i1, i2, i3⟩ := isOf (s := s.setVm vm) (T := T) h2 rfl (H.atO hi).1
  obtain ⟨v, vm₁, B, hw₁, X', hS, hg, hq, st'⟩ := X.virtualBackS hx h3 (mvT (s := s.setVm vm) h2 w1) (mvT (s := s.setVm vm) h2 w2) (nf_super (args := #[]) (mvT (s := s.setVm vm) h2 ws)) (mvT (s := s.setVm vm) h2 w3) (mvT (s := s.setVm vm) h2 w4) hy (C.back N wc wz hP hPR hn hdj hf hl) i1 i3 (g := mkF m pc Ls stk) rfl (hsz.trans hml.symm) (Steps.refl _) (argsL := as') (rest := st) (lenOf hpd hps) hst (by show 2 * 0 + _ ≤ _; omega) (hb hby hd) (fun _ _ => ⟨rfl, rfl, hc, hs⟩)
  obtain ⟨O', FN, hQ, N'⟩ := N.after hP hn hil (fun _ _ => trivial) X' hS hg h4 hq
  exact (g v O' FN _ _ hQ N').pre fun t q => st'.trans q
theorem Now.callO (N : Now nar EL Z own name bytes maxL ret p l e R s m args below meth c P vm T k n O RO FZ) {a : Addr} {K : String} {fs : List (Key × Value)} (C : Con nar EL l Z z cb cl cr rm (.ref a :: as') CP CR Q) {ps : List FieldType} {rt : Option FieldType} (i : Nat) (ip ir : List Nat) (hd : decode bytes pc = .ok (.invokevirtual idx, 3)) (w1 : (Cond.methodLink own idx y).before a0 Z = true) (w2 : (Cond.declares y).before a0 Z = true) (w3 : (Cond.selects K y z).before a0 Z = true) (w4 : (Cond.instanceMethod z).before a0 Z = true) (wz : (Cond.initialized z.cls).before a0 Z = true) (wc : (Cond.code z cb cl cr).before a0 Z = true) (ws : (Cond.noSuperclass y.cls).before a0 Z = true)
    (hi : (O ++ (RO ++ FZ))[i]? = some (a, .inl (K, fs))) (hy : y.cls ≠ "java/lang/invoke/MethodHandle" ∧ y.cls ≠ "java/lang/invoke/VarHandle") (hpd : parseMethodDescriptor y.desc = some ⟨ps, rt⟩) (hps : as'.length = ps.length) {stk : List Value} (hst : stk = as'.reverse ++ .ref a :: st) (hP : pick O ip = CP) (hPR : pick (O ++ (RO ++ FZ)) ir = CR) (hn : ip.Nodup) (hdj : ∀ j ∈ ir, j ∉ ip) (hil : ∀ i ∈ ip, i < O.length) (hsz : Ls.size = maxL) (hf : rm.frames + 1 ≤ R.frames) (hl : (st.map fun v => v.category).sum + (cl + 11) + rm.locals ≤ R.locals) (hc : k + rm.cells ≤ R.cells) (hs : n + rm.slots ≤ R.slots)
    (g : ∀ v O' FN vm T, Q v O' FN → Now nar EL Z own name bytes maxL ret p l e R s m args below meth c P vm T (k + rm.cells) (n + rm.slots) (merge O ip O') RO (FZ ++ FN) → Goes p e below Post (T.setTop (mkF m (pc + 3) Ls (v.toList ++ st)))) : Goes p e below Post (T.setTop (mkF m pc Ls stk)) := by
  obtain ⟨⟨hx, hby, hml, hr⟩, locs, X, h1, h2, h3, h4, H, r⟩ := id N
  obtain ⟨cB, kB, i1, i2, i3⟩ := isOf (s := s.setVm vm) (T := T) h2 rfl (H.atO hi).1
  obtain ⟨v, vm₁, B, hw₁, X', hS, hg, hq, st'⟩ := X.virtualBackS hx h3 (mvT (s := s.setVm vm) h2 w1) (mvT (s := s.setVm vm) h2 w2) (nf_top (args := #[]) (mvT (s := s.setVm vm) h2 ws)) (mvT (s := s.setVm vm) h2 w3) (mvT (s := s.setVm vm) h2 w4) hy (C.back N wc wz hP hPR hn hdj hf hl) i1 i3 (g := mkF m pc Ls stk) rfl (hsz.trans hml.symm) (Steps.refl _) (argsL := as') (rest := st) (lenOf hpd hps) hst (by show 2 * 0 + _ ≤ _; omega) (hb hby hd) (fun _ _ => ⟨rfl, rfl, hc, hs⟩)
  obtain ⟨O', FN, hQ, N'⟩ := N.after hP hn hil (fun _ _ => trivial) X' hS hg h4 hq
  exact (g v O' FN _ _ hQ N').pre fun t q => st'.trans q
theorem Now.callP (N : Now nar EL Z own name bytes maxL ret p l e R s m args below meth c P vm T k n O RO FZ) {a : Addr} {K : String} {fs : List (Key × Value)} (C : Con nar EL l Z y cb cl cr rm (.ref a :: as') CP CR Q) {ps : List FieldType} {rt : Option FieldType} (i : Nat) (ip ir : List Nat) (hd : decode bytes pc = .ok (.invokevirtual idx, 3)) (w1 : (Cond.methodLink own idx y).before a0 Z = true) (w2 : (Cond.instanceMethod y).before a0 Z = true) (w3 : (Cond.selects y.cls y y).before a0 Z = true) (w4 : (Cond.privateMethod y).before a0 Z = true) (wz : (Cond.initialized y.cls).before a0 Z = true) (wc : (Cond.code y cb cl cr).before a0 Z = true)
    (hi : (O ++ (RO ++ FZ))[i]? = some (a, .inl (K, fs))) (hy : y.cls ≠ "java/lang/invoke/MethodHandle" ∧ y.cls ≠ "java/lang/invoke/VarHandle") (hpd : parseMethodDescriptor y.desc = some ⟨ps, rt⟩) (hps : as'.length = ps.length) {stk : List Value} (hst : stk = as'.reverse ++ .ref a :: st) (hP : pick O ip = CP) (hPR : pick (O ++ (RO ++ FZ)) ir = CR) (hn : ip.Nodup) (hdj : ∀ j ∈ ir, j ∉ ip) (hil : ∀ i ∈ ip, i < O.length) (hsz : Ls.size = maxL) (hf : rm.frames + 1 ≤ R.frames) (hl : (st.map fun v => v.category).sum + (cl + 11) + rm.locals ≤ R.locals) (hc : k + rm.cells ≤ R.cells) (hs : n + rm.slots ≤ R.slots)
    (g : ∀ v O' FN vm T, Q v O' FN → Now nar EL Z own name bytes maxL ret p l e R s m args below meth c P vm T (k + rm.cells) (n + rm.slots) (merge O ip O') RO (FZ ++ FN) → Goes p e below Post (T.setTop (mkF m (pc + 3) Ls (v.toList ++ st)))) : Goes p e below Post (T.setTop (mkF m pc Ls stk)) := by
  obtain ⟨⟨hx, hby, hml, hr⟩, locs, X, h1, h2, h3, h4, H, r⟩ := id N
  obtain ⟨cc, hcc, hns⟩ := (H.atO hi).1.cell
  obtain ⟨v, vm₁, B, hw₁, X', hS, hg, hq, st'⟩ := X.privateBackS hx h3 (mvT (s := s.setVm vm) h2 w1) (mvT (s := s.setVm vm) h2 w2) (mvT (s := s.setVm vm) h2 w3) (Cond.privateMethod_at (mvP (s := s.setVm vm) h2 w4 (args := #[]))) (mvT (s := s.setVm vm) h2 wc) hy (C.back N wc wz hP hPR hn hdj hf hl) (g := mkF m pc Ls stk) rfl (hsz.trans hml.symm) (Steps.refl _) (a := a) hcc hns (argsL := as') (rest := st) (lenOf hpd hps) hst (by show 2 * 0 + _ ≤ _; omega) (hb hby hd) (fun _ _ => ⟨rfl, rfl, hc, hs⟩)
  obtain ⟨O', FN, hQ, N'⟩ := N.after hP hn hil (fun _ _ => trivial) X' hS hg h4 hq
  exact (g v O' FN _ _ hQ N').pre fun t q => st'.trans q
theorem decl_of (wi : (Cond.instanceMethod y).before a0 Z = true) (wc : (Cond.code y cb cl cr).before a0 Z = true) : (Cond.declares y).before a0 Z = true := by
  obtain ⟨mk, mt, hn, hm, hst, -⟩ := Cond.instanceMethod_spec wi
  obtain ⟨m2, cM, q1, -, -, -, -, -, -, hsig⟩ := Cond.code_spec hn wc
  cases hm.symm.trans q1
  simp [Cond.before, Cond.holds, Cond.value, hn, hm, hst, hsig]
theorem notFace_by {U : State} {a1 : Array Value} {C : String} (hc : y.cls = z.cls) (ws : (Cond.selects C z z).before a1 U = true) (wd : (Cond.declares z).before a1 U = true) : NotFace U y := fun r0 h0 => by
  obtain ⟨m2, meth2, hn2, -⟩ := Cond.declares_spec wd
  obtain ⟨kr, e1, e2⟩ := notFace_of_selects ws m2 hn2
  have f1 := findClass_of_methodNamed h0
  have f2 := findClass_of_methodNamed hn2
  rw [hc] at f1
  exact ⟨kr, by rw [Option.some.inj (f1.symm.trans f2)]; exact e1, e2⟩
theorem same_of (hy : y.cls ≠ "java/lang/invoke/MethodHandle" ∧ y.cls ≠ "java/lang/invoke/VarHandle") (wd : (Cond.declares y).before a0 Z = true) (nf : NotFace Z y) : (Cond.sameMethod y.cls y.cls y.name y.desc).before a0 Z = true := by
  obtain ⟨mk, mt, hn, -⟩ := Cond.declares_spec wd
  obtain ⟨kr, e1, e2⟩ := nf mk hn
  have f := findClass_of_methodNamed hn
  have g := State.methodFound?_of_named hn hy
  have hn' : Z.methodNamed? ⟨y.cls, y.name, y.desc⟩ = some mk := hn
  simp [Cond.before, Cond.holds, Cond.value, f, g, hn', e1, e2]
theorem Now.callX (N : Now nar EL Z own name bytes maxL ret p l e R s m args below meth c P vm T k n O RO FZ) {a : Addr} {K : String} {fs : List (Key × Value)} (C : Con nar EL l Z z cb cl cr rm (.ref a :: as') CP CR Q) {ps : List FieldType} {rt : Option FieldType} (i : Nat) (ip ir : List Nat) (hd : decode bytes pc = .ok (.invokevirtual idx, 3)) (w1 : (Cond.methodLink own idx y).before a0 Z = true) (w2 : (Cond.declares y).before a0 Z = true) (w3 : (Cond.selects K y z).before a0 Z = true) (w4 : (Cond.instanceMethod z).before a0 Z = true) (wz : (Cond.initialized z.cls).before a0 Z = true) (wc : (Cond.code z cb cl cr).before a0 Z = true) {u : MethodName} {D : String} (hu : y.cls = u.cls) (ws : (Cond.selects D u u).before a0 Z = true) (wd : (Cond.declares u).before a0 Z = true)
    (hi : (O ++ (RO ++ FZ))[i]? = some (a, .inl (K, fs))) (hy : y.cls ≠ "java/lang/invoke/MethodHandle" ∧ y.cls ≠ "java/lang/invoke/VarHandle") (hpd : parseMethodDescriptor y.desc = some ⟨ps, rt⟩) (hps : as'.length = ps.length) {stk : List Value} (hst : stk = as'.reverse ++ .ref a :: st) (hP : pick O ip = CP) (hPR : pick (O ++ (RO ++ FZ)) ir = CR) (hn : ip.Nodup) (hdj : ∀ j ∈ ir, j ∉ ip) (hil : ∀ i ∈ ip, i < O.length) (hsz : Ls.size = maxL) (hf : rm.frames + 1 ≤ R.frames) (hl : (st.map fun v => v.category).sum + (cl + 11) + rm.locals ≤ R.locals) (hc : k + rm.cells ≤ R.cells) (hs : n + rm.slots ≤ R.slots)
    (g : ∀ v O' FN vm T, Q v O' FN → Now nar EL Z own name bytes maxL ret p l e R s m args below meth c P vm T (k + rm.cells) (n + rm.slots) (merge O ip O') RO (FZ ++ FN) → Goes p e below Post (T.setTop (mkF m (pc + 3) Ls (v.toList ++ st)))) : Goes p e below Post (T.setTop (mkF m pc Ls stk)) := by
  obtain ⟨⟨hx, hby, hml, hr⟩, locs, X, h1, h2, h3, h4, H, r⟩ := id N
  obtain ⟨cB, kB, i1, i2, i3⟩ := isOf (s := s.setVm vm) (T := T) h2 rfl (H.atO hi).1
  obtain ⟨v, vm₁, B, hw₁, X', hS, hg, hq, st'⟩ := X.virtualBackS hx h3 (mvT (s := s.setVm vm) h2 w1) (mvT (s := s.setVm vm) h2 w2) (notFace_by (a1 := #[]) hu (mvT (s := s.setVm vm) h2 ws) (mvT (s := s.setVm vm) h2 wd)) (mvT (s := s.setVm vm) h2 w3) (mvT (s := s.setVm vm) h2 w4) hy (C.back N wc wz hP hPR hn hdj hf hl) i1 i3 (g := mkF m pc Ls stk) rfl (hsz.trans hml.symm) (Steps.refl _) (argsL := as') (rest := st) (lenOf hpd hps) hst (by show 2 * 0 + _ ≤ _; omega) (hb hby hd) (fun _ _ => ⟨rfl, rfl, hc, hs⟩)
  obtain ⟨O', FN, hQ, N'⟩ := N.after hP hn hil (fun _ _ => trivial) X' hS hg h4 hq
  exact (g v O' FN _ _ hQ N').pre fun t q => st'.trans q
theorem Now.callU (N : Now nar EL Z own name bytes maxL ret p l e R s m args below meth c P vm T k n O RO FZ) {a : Addr} {K S : String} {fs : List (Key × Value)} (C : Con nar EL l Z y cb cl cr rm (.ref a :: as') CP CR Q) {ps : List FieldType} {rt : Option FieldType} {u : MethodName} {D : String} (i : Nat) (ip ir : List Nat) (hd : decode bytes pc = .ok (.invokespecial idx, 3)) (w1 : (Cond.methodLink own idx y).before a0 Z = true) (w2 : (Cond.declares y).before a0 Z = true) (w3 : (Cond.instanceMethod y).before a0 Z = true) (w4 : (Cond.superclass own y.cls).before a0 Z = true) (hu : y.cls = u.cls) (ws : (Cond.selects D u u).before a0 Z = true) (wd : (Cond.declares u).before a0 Z = true) (wk : (Cond.castable K S).before a0 Z = true) (hni : y.name ≠ "<init>") (wz : (Cond.initialized y.cls).before a0 Z = true) (wc : (Cond.code y cb cl cr).before a0 Z = true)
    (hi : (O ++ (RO ++ FZ))[i]? = some (a, .inl (K, fs))) (hy : y.cls ≠ "java/lang/invoke/MethodHandle" ∧ y.cls ≠ "java/lang/invoke/VarHandle") (hpd : parseMethodDescriptor y.desc = some ⟨ps, rt⟩) (hps : as'.length = ps.length) {stk : List Value} (hst : stk = as'.reverse ++ .ref a :: st) (hP : pick O ip = CP) (hPR : pick (O ++ (RO ++ FZ)) ir = CR) (hn : ip.Nodup) (hdj : ∀ j ∈ ir, j ∉ ip) (hil : ∀ i ∈ ip, i < O.length) (hsz : Ls.size = maxL) (hf : rm.frames + 1 ≤ R.frames) (hl : (st.map fun v => v.category).sum + (cl + 11) + rm.locals ≤ R.locals) (hc : k + rm.cells ≤ R.cells) (hs : n + rm.slots ≤ R.slots)
    (g : ∀ v O' FN vm T, Q v O' FN → Now nar EL Z own name bytes maxL ret p l e R s m args below meth c P vm T (k + rm.cells) (n + rm.slots) (merge O ip O') RO (FZ ++ FN) → Goes p e below Post (T.setTop (mkF m (pc + 3) Ls (v.toList ++ st)))) : Goes p e below Post (T.setTop (mkF m pc Ls stk)) := by
  obtain ⟨⟨hx, hby, hml, hr⟩, locs, X, h1, h2, h3, h4, H, r⟩ := id N
  obtain ⟨v, vm₁, B, hw₁, X', hS, hg, hq, st'⟩ := superBackS X hx (s := s.setVm vm) h2 h3 w1 (same_of hy w2 (notFace_by hu ws wd)) w3 w4 hni (C.back N wc wz hP hPR hn hdj hf hl) rfl (Ins.of_exa (H.atO hi).1 wk) (g := mkF m pc Ls stk) rfl (hsz.trans hml.symm) wc (argsL := as') (rest := st) (lenOf hpd hps) hst (by show 2 * 0 + _ ≤ _; omega) (hb hby hd) (fun _ _ => ⟨rfl, rfl, hc, hs⟩)
  obtain ⟨O', FN, hQ, N'⟩ := N.after hP hn hil (fun _ _ => trivial) X' hS hg h4 hq
  exact (g v O' FN _ _ hQ N').pre fun t q => st'.trans q
end Calls
end Jvm.Own

namespace Jvm.Own
open Jvm Jvm.ClassFile Sem Op Lib Bundle Jvm.Free Jvm.Stand Jvm.LawKit Jvm.RoadKit
open Jvm.Free.XT (ushr ushrL cmpL)
/-! The framework, part 4: layouts, small numbers. -/
theorem lay_of {Z : State} {a0 : Array Value} {C : String} : ∀ {fs : List (Key × Value)}, (∀ f ∈ fs, Laid Z a0 C f.1.1 f.1.2.1 f.1.2.2 ∧ ∃ ty, parseFieldDescriptor f.1.2.2 = some ty ∧ f.2 = defaultValue ty) → (fs.map fun f => f.1.2.1).Nodup →
    (∀ f ∈ fs, Laid Z a0 C f.1.1 f.1.2.1 f.1.2.2 ∧ ∃ ty, parseFieldDescriptor f.1.2.2 = some ty ∧ f.2 = defaultValue ty) ∧ (fs.map fun f => slotK Z f.1).Nodup
  | [], H, _ => ⟨H, List.nodup_nil⟩
  | f :: r, H, hn => by
    obtain ⟨n1, n2⟩ := List.nodup_cons.mp hn
    have ih := lay_of (fs := r) (fun g hg => H g (List.mem_cons_of_mem _ hg)) n2
    refine ⟨H, List.nodup_cons.mpr ⟨fun q => ?_, ih.2⟩⟩
    obtain ⟨g, hg, e⟩ := List.mem_map.mp q
    obtain ⟨l1, t1, p1, -⟩ := H f (List.mem_cons_self ..)
    obtain ⟨l2, t2, p2, -⟩ := H g (List.mem_cons_of_mem _ hg)
    exact slot_ne l2 l1 (fun z => n1 (List.mem_map.mpr ⟨g, hg, z⟩)) p2 p1 e
theorem n_toInt {a : Nat} (h : a < 2 ^ 31) : a.toInt32.toInt = a := len_toInt h
theorem n_lt {a b : Nat} (ha : a < 2 ^ 31) (hb : b < 2 ^ 31) : a.toInt32 < b.toInt32 ↔ a < b := by
  rw [Int32.lt_iff_toInt_lt, n_toInt ha, n_toInt hb]; omega
theorem n_nat {a : Nat} (h : a < 2 ^ 31) : a.toInt32.toNatClampNeg = a := by
  simp only [Int32.toNatClampNeg, n_toInt h]; omega
theorem n_nneg {a : Nat} (h : a < 2 ^ 31) : ¬ a.toInt32 < 0 := by
  rw [Int32.lt_iff_toInt_lt, n_toInt h]; show ¬ (a : Int) < 0; omega
theorem n_eq {a b : Nat} (ha : a < 2 ^ 31) (hb : b < 2 ^ 31) : a.toInt32 = b.toInt32 ↔ a = b := by
  rw [← Int32.toInt_inj, n_toInt ha, n_toInt hb]; omega
theorem n_succ (a : Nat) : a.toInt32 + 1 = (a + 1).toInt32 := by
  show Int32.ofNat a + Int32.ofNat 1 = Int32.ofNat (a + 1)
  exact (Int32.ofNat_add a 1).symm
theorem lat_nneg {x : Int32} (h : Lat x) : ¬ x < 0 := by rw [Int32.lt_iff_toInt_lt]; show ¬ x.toInt < 0; have := h.1; omega
theorem lat_le {x : Int32} (h : Lat x) : ¬ (255 : Int32) < x := by rw [Int32.lt_iff_toInt_lt]; show ¬ 255 < x.toInt; have := h.2; omega
theorem lat_and (x : Int32) : Lat (x &&& 255) := by
  have h : (x &&& 255).toBitVec.toNat < 256 := by
    simp only [Int32.toBitVec_and, BitVec.toNat_and]
    exact Nat.lt_succ_of_le Nat.and_le_right
  have e : (x &&& 255).toInt = ((x &&& 255).toBitVec.toNat : Int) := by
    show (x &&& 255).toBitVec.toInt = _
    rw [BitVec.toInt_eq_toNat_cond, if_pos (by omega)]
  unfold Lat
  omega
theorem i2c_lat {x : Int32} (h : Lat x) : x.toUInt32.toUInt16.toUInt32.toInt32 = x := by
  apply Int32.toBitVec_inj.mp
  apply BitVec.eq_of_toNat_eq
  have h1 := h.1; have h2 := h.2
  have hx : x.toBitVec.toNat < 256 := by
    have e : x.toInt = x.toBitVec.toInt := rfl
    rw [e, BitVec.toInt_eq_toNat_cond] at h1 h2
    have := x.toBitVec.isLt
    split at h1 <;> omega
  have e : x.toUInt32.toUInt16.toUInt32.toInt32.toBitVec.toNat = x.toUInt32.toUInt16.toUInt32.toNat := rfl
  rw [e, UInt16.toNat_toUInt32, UInt32.toNat_toUInt16]
  show x.toBitVec.toNat % 2 ^ 16 = _
  omega
theorem nar_lat {x : Int32} (h : Lat x) : nar .char x = x := i2c_lat h
theorem by8_inj {x y : Int32} (hx : Lat x) (hy : Lat y) (h : by8 x = by8 y) : x = y := by
  have h1 : x.toInt8 = y.toInt8 := by
    have := congrArg Int32.toInt8 h
    simpa [by8] using this
  have h2 := congrArg Int8.toInt h1
  rw [Int32.toInt_toInt8, Int32.toInt_toInt8] at h2
  apply Int32.toInt_inj.mp
  have := hx.1; have := hx.2; have := hy.1; have := hy.2
  simp only [Int.bmod_def] at h2
  split at h2 <;> split at h2 <;> omega
end Jvm.Own

namespace Jvm.Pilot.@@N@@
open Jvm Jvm.ClassFile Sem Op Lib Jvm.Free Jvm.Stand Jvm.LawKit Jvm.RoadKit Bundle Jvm.Own Jvm.Pilot.@@N@@.Jvm.D
open Jvm.Free.XT (ushr ushrL cmpL)
abbrev HW (Z : State) (a0 : Array Value) : Prop := ∀ d ∈ tables_1, d.before a0 Z = true
abbrev NR : Bool := false
abbrev ELs : List (String × Nat) := [("com/example/stratagraph/stratagraph/store/TimeFilter", 50), ("com/example/stratagraph/stratagraph/store/TimeFilter", 58), ("java/lang/String", 7)]
theorem w0 {Z : State} {a0 : Array Value} (hw : HW Z a0) : (Jvm.Cond.constant "com/example/stratagraph/stratagraph/store/TimeFilterIsTimeKeyPinLaw" (7 : Nat) (2147483647 : Int32)).before a0 Z = true := hw _ (List.mem_of_getElem? (i := 0) rfl)
theorem w1 {Z : State} {a0 : Array Value} (hw : HW Z a0) : (Jvm.Cond.arrayClass Jvm.ClassFile.FieldType.char).before a0 Z = true := hw _ (List.mem_of_getElem? (i := 1) rfl)
theorem w2 {Z : State} {a0 : Array Value} (hw : HW Z a0) : (Jvm.Cond.classLink "com/example/stratagraph/stratagraph/store/TimeFilterIsTimeKeyPinLaw" (8 : Nat) "java/lang/String").before a0 Z = true := hw _ (List.mem_of_getElem? (i := 2) rfl)
theorem w3 {Z : State} {a0 : Array Value} (hw : HW Z a0) : (Jvm.Cond.instantiable "java/lang/String" (4 : Nat)).before a0 Z = true := hw _ (List.mem_of_getElem? (i := 3) rfl)
theorem w4 {Z : State} {a0 : Array Value} (hw : HW Z a0) : (Jvm.Cond.initialized "java/lang/String").before a0 Z = true := hw _ (List.mem_of_getElem? (i := 4) rfl)
theorem w5 {Z : State} {a0 : Array Value} (hw : HW Z a0) : (Jvm.Cond.methodLink "com/example/stratagraph/stratagraph/store/TimeFilterIsTimeKeyPinLaw" (10 : Nat) ({ cls := "java/lang/String", name := "<init>", desc := "([C)V" } : Jvm.MethodName)).before a0 Z = true := hw _ (List.mem_of_getElem? (i := 5) rfl)
theorem w6 {Z : State} {a0 : Array Value} (hw : HW Z a0) : (Jvm.Cond.instanceMethod ({ cls := "java/lang/String", name := "<init>", desc := "([C)V" } : Jvm.MethodName)).before a0 Z = true := hw _ (List.mem_of_getElem? (i := 6) rfl)
theorem w7 {Z : State} {a0 : Array Value} (hw : HW Z a0) : (Jvm.Cond.code ({ cls := "java/lang/String", name := "<init>", desc := "([C)V" } : Jvm.MethodName) jdk_42_method_3_code (2 : Nat) (Option.none : Option Jvm.ClassFile.FieldType)).before a0 Z = true := hw _ (List.mem_of_getElem? (i := 7) rfl)
theorem w8 {Z : State} {a0 : Array Value} (hw : HW Z a0) : (Jvm.Cond.methodLink "java/lang/String" (27 : Nat) ({ cls := "java/lang/String", name := "<init>", desc := "([CIILjava/lang/Void;)V" } : Jvm.MethodName)).before a0 Z = true := hw _ (List.mem_of_getElem? (i := 8) rfl)
theorem w9 {Z : State} {a0 : Array Value} (hw : HW Z a0) : (Jvm.Cond.instanceMethod ({ cls := "java/lang/String", name := "<init>", desc := "([CIILjava/lang/Void;)V" } : Jvm.MethodName)).before a0 Z = true := hw _ (List.mem_of_getElem? (i := 9) rfl)
theorem w10 {Z : State} {a0 : Array Value} (hw : HW Z a0) : (Jvm.Cond.castable "java/lang/String" "java/lang/String").before a0 Z = true := hw _ (List.mem_of_getElem? (i := 10) rfl)
theorem w11 {Z : State} {a0 : Array Value} (hw : HW Z a0) : (Jvm.Cond.code ({ cls := "java/lang/String", name := "<init>", desc := "([CIILjava/lang/Void;)V" } : Jvm.MethodName) jdk_42_method_149_code (6 : Nat) (Option.none : Option Jvm.ClassFile.FieldType)).before a0 Z = true := hw _ (List.mem_of_getElem? (i := 11) rfl)
theorem w12 {Z : State} {a0 : Array Value} (hw : HW Z a0) : (Jvm.Cond.methodLink "java/lang/String" (1 : Nat) ({ cls := "java/lang/Object", name := "<init>", desc := "()V" } : Jvm.MethodName)).before a0 Z = true := hw _ (List.mem_of_getElem? (i := 12) rfl)
theorem w13 {Z : State} {a0 : Array Value} (hw : HW Z a0) : (Jvm.Cond.instanceMethod ({ cls := "java/lang/Object", name := "<init>", desc := "()V" } : Jvm.MethodName)).before a0 Z = true := hw _ (List.mem_of_getElem? (i := 13) rfl)
theorem w14 {Z : State} {a0 : Array Value} (hw : HW Z a0) : (Jvm.Cond.code ({ cls := "java/lang/Object", name := "<init>", desc := "()V" } : Jvm.MethodName) object_method_1_code (1 : Nat) (Option.none : Option Jvm.ClassFile.FieldType)).before a0 Z = true := hw _ (List.mem_of_getElem? (i := 14) rfl)
theorem w15 {Z : State} {a0 : Array Value} (hw : HW Z a0) : (Jvm.Cond.fieldLink "java/lang/String" (38 : Nat) "java/lang/String" "COMPACT_STRINGS" "Z").before a0 Z = true := hw _ (List.mem_of_getElem? (i := 15) rfl)
theorem w16 {Z : State} {a0 : Array Value} (hw : HW Z a0) : (Jvm.Cond.methodLink "java/lang/String" (177 : Nat) ({ cls := "java/lang/StringUTF16", name := "compress", desc := "([CII)[B" } : Jvm.MethodName)).before a0 Z = true := hw _ (List.mem_of_getElem? (i := 16) rfl)
theorem w17 {Z : State} {a0 : Array Value} (hw : HW Z a0) : (Jvm.Cond.static ({ cls := "java/lang/StringUTF16", name := "compress", desc := "([CII)[B" } : Jvm.MethodName)).before a0 Z = true := hw _ (List.mem_of_getElem? (i := 17) rfl)
theorem w18 {Z : State} {a0 : Array Value} (hw : HW Z a0) : (Jvm.Cond.initialized "java/lang/StringUTF16").before a0 Z = true := hw _ (List.mem_of_getElem? (i := 18) rfl)
theorem w19 {Z : State} {a0 : Array Value} (hw : HW Z a0) : (Jvm.Cond.code ({ cls := "java/lang/StringUTF16", name := "compress", desc := "([CII)[B" } : Jvm.MethodName) jdk_52_method_16_code (6 : Nat) (Option.some (Jvm.ClassFile.FieldType.array Jvm.ClassFile.FieldType.byte))).before a0 Z = true := hw _ (List.mem_of_getElem? (i := 19) rfl)
theorem w20 {Z : State} {a0 : Array Value} (hw : HW Z a0) : (Jvm.Cond.arrayClass Jvm.ClassFile.FieldType.byte).before a0 Z = true := hw _ (List.mem_of_getElem? (i := 20) rfl)
theorem w21 {Z : State} {a0 : Array Value} (hw : HW Z a0) : (Jvm.Cond.methodLink "java/lang/StringUTF16" (115 : Nat) ({ cls := "java/lang/StringUTF16", name := "compress", desc := "([CI[BII)I" } : Jvm.MethodName)).before a0 Z = true := hw _ (List.mem_of_getElem? (i := 21) rfl)
theorem w22 {Z : State} {a0 : Array Value} (hw : HW Z a0) : (Jvm.Cond.static ({ cls := "java/lang/StringUTF16", name := "compress", desc := "([CI[BII)I" } : Jvm.MethodName)).before a0 Z = true := hw _ (List.mem_of_getElem? (i := 22) rfl)
theorem w23 {Z : State} {a0 : Array Value} (hw : HW Z a0) : (Jvm.Cond.code ({ cls := "java/lang/StringUTF16", name := "compress", desc := "([CI[BII)I" } : Jvm.MethodName) jdk_52_method_21_code (7 : Nat) (Option.some Jvm.ClassFile.FieldType.int)).before a0 Z = true := hw _ (List.mem_of_getElem? (i := 23) rfl)
theorem w24 {Z : State} {a0 : Array Value} (hw : HW Z a0) : (Jvm.Cond.methodLink "java/lang/String" (47 : Nat) ({ cls := "java/lang/StringUTF16", name := "coderFromArrayLen", desc := "([BI)B" } : Jvm.MethodName)).before a0 Z = true := hw _ (List.mem_of_getElem? (i := 24) rfl)
theorem w25 {Z : State} {a0 : Array Value} (hw : HW Z a0) : (Jvm.Cond.static ({ cls := "java/lang/StringUTF16", name := "coderFromArrayLen", desc := "([BI)B" } : Jvm.MethodName)).before a0 Z = true := hw _ (List.mem_of_getElem? (i := 25) rfl)
theorem w26 {Z : State} {a0 : Array Value} (hw : HW Z a0) : (Jvm.Cond.code ({ cls := "java/lang/StringUTF16", name := "coderFromArrayLen", desc := "([BI)B" } : Jvm.MethodName) jdk_52_method_15_code (2 : Nat) (Option.some Jvm.ClassFile.FieldType.byte)).before a0 Z = true := hw _ (List.mem_of_getElem? (i := 26) rfl)
theorem w27 {Z : State} {a0 : Array Value} (hw : HW Z a0) : (Jvm.Cond.fieldLink "java/lang/String" (15 : Nat) "java/lang/String" "coder" "B").before a0 Z = true := hw _ (List.mem_of_getElem? (i := 27) rfl)
theorem w28 {Z : State} {a0 : Array Value} (hw : HW Z a0) : (Jvm.Cond.laysFinal "java/lang/String" "java/lang/String" "coder" "B").before a0 Z = true := hw _ (List.mem_of_getElem? (i := 28) rfl)
theorem w29 {Z : State} {a0 : Array Value} (hw : HW Z a0) : (Jvm.Cond.fieldLink "java/lang/String" (9 : Nat) "java/lang/String" "value" "[B").before a0 Z = true := hw _ (List.mem_of_getElem? (i := 29) rfl)
theorem w30 {Z : State} {a0 : Array Value} (hw : HW Z a0) : (Jvm.Cond.laysFinal "java/lang/String" "java/lang/String" "value" "[B").before a0 Z = true := hw _ (List.mem_of_getElem? (i := 30) rfl)
theorem w31 {Z : State} {a0 : Array Value} (hw : HW Z a0) : (Jvm.Cond.methodLink "com/example/stratagraph/stratagraph/store/TimeFilterIsTimeKeyPinLaw" (17 : Nat) ({ cls := "com/example/stratagraph/stratagraph/store/TimeFilter", name := "isTimeKey", desc := "(Ljava/lang/String;)Z" } : Jvm.MethodName)).before a0 Z = true := hw _ (List.mem_of_getElem? (i := 31) rfl)
theorem w32 {Z : State} {a0 : Array Value} (hw : HW Z a0) : (Jvm.Cond.static ({ cls := "com/example/stratagraph/stratagraph/store/TimeFilter", name := "isTimeKey", desc := "(Ljava/lang/String;)Z" } : Jvm.MethodName)).before a0 Z = true := hw _ (List.mem_of_getElem? (i := 32) rfl)
theorem w33 {Z : State} {a0 : Array Value} (hw : HW Z a0) : (Jvm.Cond.initialized "com/example/stratagraph/stratagraph/store/TimeFilter").before a0 Z = true := hw _ (List.mem_of_getElem? (i := 33) rfl)
theorem w34 {Z : State} {a0 : Array Value} (hw : HW Z a0) : (Jvm.Cond.code ({ cls := "com/example/stratagraph/stratagraph/store/TimeFilter", name := "isTimeKey", desc := "(Ljava/lang/String;)Z" } : Jvm.MethodName) prog_12_method_6_code (1 : Nat) (Option.some Jvm.ClassFile.FieldType.boolean)).before a0 Z = true := hw _ (List.mem_of_getElem? (i := 34) rfl)
theorem w35 {Z : State} {a0 : Array Value} (hw : HW Z a0) : (Jvm.Cond.stringLink "com/example/stratagraph/stratagraph/store/TimeFilter" (50 : Nat) "startTime").before a0 Z = true := hw _ (List.mem_of_getElem? (i := 35) rfl)
theorem w36 {Z : State} {a0 : Array Value} (hw : HW Z a0) : (Jvm.Cond.soleField "java/lang/String" "value").before a0 Z = true := hw _ (List.mem_of_getElem? (i := 36) rfl)
theorem w37 {Z : State} {a0 : Array Value} (hw : HW Z a0) : (Jvm.Cond.soleField "java/lang/String" "coder").before a0 Z = true := hw _ (List.mem_of_getElem? (i := 37) rfl)
theorem w38 {Z : State} {a0 : Array Value} (hw : HW Z a0) : (Jvm.Cond.methodLink "com/example/stratagraph/stratagraph/store/TimeFilter" (52 : Nat) ({ cls := "java/lang/String", name := "equals", desc := "(Ljava/lang/Object;)Z" } : Jvm.MethodName)).before a0 Z = true := hw _ (List.mem_of_getElem? (i := 38) rfl)
theorem w39 {Z : State} {a0 : Array Value} (hw : HW Z a0) : (Jvm.Cond.declares ({ cls := "java/lang/String", name := "equals", desc := "(Ljava/lang/Object;)Z" } : Jvm.MethodName)).before a0 Z = true := hw _ (List.mem_of_getElem? (i := 39) rfl)
theorem w40 {Z : State} {a0 : Array Value} (hw : HW Z a0) : (Jvm.Cond.instanceMethod ({ cls := "java/lang/String", name := "equals", desc := "(Ljava/lang/Object;)Z" } : Jvm.MethodName)).before a0 Z = true := hw _ (List.mem_of_getElem? (i := 40) rfl)
theorem w41 {Z : State} {a0 : Array Value} (hw : HW Z a0) : (Jvm.Cond.selects "java/lang/String" ({ cls := "java/lang/String", name := "equals", desc := "(Ljava/lang/Object;)Z" } : Jvm.MethodName) ({ cls := "java/lang/String", name := "equals", desc := "(Ljava/lang/Object;)Z" } : Jvm.MethodName)).before a0 Z = true := hw _ (List.mem_of_getElem? (i := 41) rfl)
theorem w42 {Z : State} {a0 : Array Value} (hw : HW Z a0) : (Jvm.Cond.code ({ cls := "java/lang/String", name := "equals", desc := "(Ljava/lang/Object;)Z" } : Jvm.MethodName) jdk_42_method_66_code (3 : Nat) (Option.some Jvm.ClassFile.FieldType.boolean)).before a0 Z = true := hw _ (List.mem_of_getElem? (i := 42) rfl)
theorem w43 {Z : State} {a0 : Array Value} (hw : HW Z a0) : (Jvm.Cond.classLink "java/lang/String" (10 : Nat) "java/lang/String").before a0 Z = true := hw _ (List.mem_of_getElem? (i := 43) rfl)
theorem w44 {Z : State} {a0 : Array Value} (hw : HW Z a0) : (Jvm.Cond.methodLink "java/lang/String" (541 : Nat) ({ cls := "java/lang/StringLatin1", name := "equals", desc := "([B[B)Z" } : Jvm.MethodName)).before a0 Z = true := hw _ (List.mem_of_getElem? (i := 44) rfl)
theorem w45 {Z : State} {a0 : Array Value} (hw : HW Z a0) : (Jvm.Cond.static ({ cls := "java/lang/StringLatin1", name := "equals", desc := "([B[B)Z" } : Jvm.MethodName)).before a0 Z = true := hw _ (List.mem_of_getElem? (i := 45) rfl)
theorem w46 {Z : State} {a0 : Array Value} (hw : HW Z a0) : (Jvm.Cond.initialized "java/lang/StringLatin1").before a0 Z = true := hw _ (List.mem_of_getElem? (i := 46) rfl)
theorem w47 {Z : State} {a0 : Array Value} (hw : HW Z a0) : (Jvm.Cond.code ({ cls := "java/lang/StringLatin1", name := "equals", desc := "([B[B)Z" } : Jvm.MethodName) jdk_43_method_13_code (3 : Nat) (Option.some Jvm.ClassFile.FieldType.boolean)).before a0 Z = true := hw _ (List.mem_of_getElem? (i := 47) rfl)
theorem w48 {Z : State} {a0 : Array Value} (hw : HW Z a0) : (Jvm.Cond.stringLink "com/example/stratagraph/stratagraph/store/TimeFilter" (58 : Nat) "endTime").before a0 Z = true := hw _ (List.mem_of_getElem? (i := 48) rfl)
theorem w49 {Z : State} {a0 : Array Value} (hw : HW Z a0) : (Jvm.Cond.stringLink "java/lang/String" (7 : Nat) "").before a0 Z = true := hw _ (List.mem_of_getElem? (i := 49) rfl)
theorem w50 {Z : State} {a0 : Array Value} (hw : HW Z a0) : (Jvm.Cond.methodLink "com/example/stratagraph/stratagraph/store/TimeFilterIsTimeKeyPinLaw" (13 : Nat) ({ cls := "java/lang/String", name := "valueOf", desc := "(C)Ljava/lang/String;" } : Jvm.MethodName)).before a0 Z = true := hw _ (List.mem_of_getElem? (i := 50) rfl)
theorem w51 {Z : State} {a0 : Array Value} (hw : HW Z a0) : (Jvm.Cond.static ({ cls := "java/lang/String", name := "valueOf", desc := "(C)Ljava/lang/String;" } : Jvm.MethodName)).before a0 Z = true := hw _ (List.mem_of_getElem? (i := 51) rfl)
theorem w52 {Z : State} {a0 : Array Value} (hw : HW Z a0) : (Jvm.Cond.code ({ cls := "java/lang/String", name := "valueOf", desc := "(C)Ljava/lang/String;" } : Jvm.MethodName) jdk_42_method_139_code (1 : Nat) (Option.some (Jvm.ClassFile.FieldType.object "java/lang/String"))).before a0 Z = true := hw _ (List.mem_of_getElem? (i := 52) rfl)
theorem w53 {Z : State} {a0 : Array Value} (hw : HW Z a0) : (Jvm.Cond.methodLink "java/lang/String" (1015 : Nat) ({ cls := "java/lang/StringLatin1", name := "canEncode", desc := "(C)Z" } : Jvm.MethodName)).before a0 Z = true := hw _ (List.mem_of_getElem? (i := 53) rfl)
theorem w54 {Z : State} {a0 : Array Value} (hw : HW Z a0) : (Jvm.Cond.static ({ cls := "java/lang/StringLatin1", name := "canEncode", desc := "(C)Z" } : Jvm.MethodName)).before a0 Z = true := hw _ (List.mem_of_getElem? (i := 54) rfl)
theorem w55 {Z : State} {a0 : Array Value} (hw : HW Z a0) : (Jvm.Cond.code ({ cls := "java/lang/StringLatin1", name := "canEncode", desc := "(C)Z" } : Jvm.MethodName) jdk_43_method_3_code (1 : Nat) (Option.some Jvm.ClassFile.FieldType.boolean)).before a0 Z = true := hw _ (List.mem_of_getElem? (i := 55) rfl)
theorem w56 {Z : State} {a0 : Array Value} (hw : HW Z a0) : (Jvm.Cond.methodLink "java/lang/String" (1018 : Nat) ({ cls := "java/lang/StringLatin1", name := "toBytes", desc := "(C)[B" } : Jvm.MethodName)).before a0 Z = true := hw _ (List.mem_of_getElem? (i := 56) rfl)
theorem w57 {Z : State} {a0 : Array Value} (hw : HW Z a0) : (Jvm.Cond.static ({ cls := "java/lang/StringLatin1", name := "toBytes", desc := "(C)[B" } : Jvm.MethodName)).before a0 Z = true := hw _ (List.mem_of_getElem? (i := 57) rfl)
theorem w58 {Z : State} {a0 : Array Value} (hw : HW Z a0) : (Jvm.Cond.code ({ cls := "java/lang/StringLatin1", name := "toBytes", desc := "(C)[B" } : Jvm.MethodName) jdk_43_method_46_code (1 : Nat) (Option.some (Jvm.ClassFile.FieldType.array Jvm.ClassFile.FieldType.byte))).before a0 Z = true := hw _ (List.mem_of_getElem? (i := 58) rfl)
theorem w59 {Z : State} {a0 : Array Value} (hw : HW Z a0) : (Jvm.Cond.methodLink "java/lang/String" (209 : Nat) ({ cls := "java/lang/String", name := "<init>", desc := "([BB)V" } : Jvm.MethodName)).before a0 Z = true := hw _ (List.mem_of_getElem? (i := 59) rfl)
theorem w60 {Z : State} {a0 : Array Value} (hw : HW Z a0) : (Jvm.Cond.instanceMethod ({ cls := "java/lang/String", name := "<init>", desc := "([BB)V" } : Jvm.MethodName)).before a0 Z = true := hw _ (List.mem_of_getElem? (i := 60) rfl)
theorem w61 {Z : State} {a0 : Array Value} (hw : HW Z a0) : (Jvm.Cond.code ({ cls := "java/lang/String", name := "<init>", desc := "([BB)V" } : Jvm.MethodName) jdk_42_method_151_code (3 : Nat) (Option.none : Option Jvm.ClassFile.FieldType)).before a0 Z = true := hw _ (List.mem_of_getElem? (i := 61) rfl)
theorem d0_0 : decode jdk_52_method_21_code 0 = .ok (.iconst 0, 1) := by decide +kernel
theorem d0_1 : decode jdk_52_method_21_code 1 = .ok (.istore 5, 2) := by decide +kernel
theorem d0_3 : decode jdk_52_method_21_code 3 = .ok (.iload 5, 2) := by decide +kernel
theorem d0_5 : decode jdk_52_method_21_code 5 = .ok (.iload 4, 2) := by decide +kernel
theorem d0_7 : decode jdk_52_method_21_code 7 = .ok (.if_icmp .ge 37, 3) := by decide +kernel
theorem d0_10 : decode jdk_52_method_21_code 10 = .ok (.aload_n 0, 1) := by decide +kernel
theorem d0_11 : decode jdk_52_method_21_code 11 = .ok (.iload_n 1, 1) := by decide +kernel
theorem d0_12 : decode jdk_52_method_21_code 12 = .ok (.caload, 1) := by decide +kernel
theorem d0_13 : decode jdk_52_method_21_code 13 = .ok (.istore 6, 2) := by decide +kernel
theorem d0_15 : decode jdk_52_method_21_code 15 = .ok (.iload 6, 2) := by decide +kernel
theorem d0_17 : decode jdk_52_method_21_code 17 = .ok (.sipush 255, 3) := by decide +kernel
theorem d0_20 : decode jdk_52_method_21_code 20 = .ok (.if_icmp .le 6, 3) := by decide +kernel
theorem d0_26 : decode jdk_52_method_21_code 26 = .ok (.aload_n 2, 1) := by decide +kernel
theorem d0_27 : decode jdk_52_method_21_code 27 = .ok (.iload_n 3, 1) := by decide +kernel
theorem d0_28 : decode jdk_52_method_21_code 28 = .ok (.iload 6, 2) := by decide +kernel
theorem d0_30 : decode jdk_52_method_21_code 30 = .ok (.i2b, 1) := by decide +kernel
theorem d0_31 : decode jdk_52_method_21_code 31 = .ok (.bastore, 1) := by decide +kernel
theorem d0_32 : decode jdk_52_method_21_code 32 = .ok (.iinc 1 1, 3) := by decide +kernel
theorem d0_35 : decode jdk_52_method_21_code 35 = .ok (.iinc 3 1, 3) := by decide +kernel
theorem d0_38 : decode jdk_52_method_21_code 38 = .ok (.iinc 5 1, 3) := by decide +kernel
theorem d0_41 : decode jdk_52_method_21_code 41 = .ok (.goto (-38), 3) := by decide +kernel
theorem d0_44 : decode jdk_52_method_21_code 44 = .ok (.iload 4, 2) := by decide +kernel
theorem d0_46 : decode jdk_52_method_21_code 46 = .ok (.ireturn, 1) := by decide +kernel
theorem d1_0 : decode jdk_52_method_16_code 0 = .ok (.iload_n 2, 1) := by decide +kernel
theorem d1_1 : decode jdk_52_method_16_code 1 = .ok (.newarray .byte, 2) := by decide +kernel
theorem d1_3 : decode jdk_52_method_16_code 3 = .ok (.astore_n 3, 1) := by decide +kernel
theorem d1_4 : decode jdk_52_method_16_code 4 = .ok (.aload_n 0, 1) := by decide +kernel
theorem d1_5 : decode jdk_52_method_16_code 5 = .ok (.iload_n 1, 1) := by decide +kernel
theorem d1_6 : decode jdk_52_method_16_code 6 = .ok (.aload_n 3, 1) := by decide +kernel
theorem d1_7 : decode jdk_52_method_16_code 7 = .ok (.iconst 0, 1) := by decide +kernel
theorem d1_8 : decode jdk_52_method_16_code 8 = .ok (.iload_n 2, 1) := by decide +kernel
theorem d1_9 : decode jdk_52_method_16_code 9 = .ok (.invokestatic 115, 3) := by decide +kernel
theorem d1_12 : decode jdk_52_method_16_code 12 = .ok (.istore 4, 2) := by decide +kernel
theorem d1_14 : decode jdk_52_method_16_code 14 = .ok (.iload 4, 2) := by decide +kernel
theorem d1_16 : decode jdk_52_method_16_code 16 = .ok (.iload_n 2, 1) := by decide +kernel
theorem d1_17 : decode jdk_52_method_16_code 17 = .ok (.if_icmp .eq 40, 3) := by decide +kernel
theorem d1_57 : decode jdk_52_method_16_code 57 = .ok (.aload_n 3, 1) := by decide +kernel
theorem d1_58 : decode jdk_52_method_16_code 58 = .ok (.areturn, 1) := by decide +kernel
theorem d2_0 : decode jdk_52_method_15_code 0 = .ok (.iload_n 1, 1) := by decide +kernel
theorem d2_1 : decode jdk_52_method_15_code 1 = .ok (.aload_n 0, 1) := by decide +kernel
theorem d2_2 : decode jdk_52_method_15_code 2 = .ok (.arraylength, 1) := by decide +kernel
theorem d2_3 : decode jdk_52_method_15_code 3 = .ok (.isub, 1) := by decide +kernel
theorem d2_4 : decode jdk_52_method_15_code 4 = .ok (.bipush 31, 2) := by decide +kernel
theorem d2_6 : decode jdk_52_method_15_code 6 = .ok (.iushr, 1) := by decide +kernel
theorem d2_7 : decode jdk_52_method_15_code 7 = .ok (.i2b, 1) := by decide +kernel
theorem d2_8 : decode jdk_52_method_15_code 8 = .ok (.ireturn, 1) := by decide +kernel
theorem d3_0 : decode jdk_42_method_149_code 0 = .ok (.aload_n 0, 1) := by decide +kernel
theorem d3_1 : decode jdk_42_method_149_code 1 = .ok (.invokespecial 1, 3) := by decide +kernel
theorem d3_4 : decode jdk_42_method_149_code 4 = .ok (.iload_n 3, 1) := by decide +kernel
theorem d3_5 : decode jdk_42_method_149_code 5 = .ok (.ifCond .ne 22, 3) := by decide +kernel
theorem d3_8 : decode jdk_42_method_149_code 8 = .ok (.aload_n 0, 1) := by decide +kernel
theorem d3_9 : decode jdk_42_method_149_code 9 = .ok (.ldc 7, 2) := by decide +kernel
theorem d3_11 : decode jdk_42_method_149_code 11 = .ok (.getfield 9, 3) := by decide +kernel
theorem d3_14 : decode jdk_42_method_149_code 14 = .ok (.putfield 9, 3) := by decide +kernel
theorem d3_17 : decode jdk_42_method_149_code 17 = .ok (.aload_n 0, 1) := by decide +kernel
theorem d3_18 : decode jdk_42_method_149_code 18 = .ok (.ldc 7, 2) := by decide +kernel
theorem d3_20 : decode jdk_42_method_149_code 20 = .ok (.getfield 15, 3) := by decide +kernel
theorem d3_23 : decode jdk_42_method_149_code 23 = .ok (.putfield 15, 3) := by decide +kernel
theorem d3_26 : decode jdk_42_method_149_code 26 = .ok (.return_, 1) := by decide +kernel
theorem d3_27 : decode jdk_42_method_149_code 27 = .ok (.getstatic 38, 3) := by decide +kernel
theorem d3_30 : decode jdk_42_method_149_code 30 = .ok (.ifCond .eq 28, 3) := by decide +kernel
theorem d3_33 : decode jdk_42_method_149_code 33 = .ok (.aload_n 1, 1) := by decide +kernel
theorem d3_34 : decode jdk_42_method_149_code 34 = .ok (.iload_n 2, 1) := by decide +kernel
theorem d3_35 : decode jdk_42_method_149_code 35 = .ok (.iload_n 3, 1) := by decide +kernel
theorem d3_36 : decode jdk_42_method_149_code 36 = .ok (.invokestatic 177, 3) := by decide +kernel
theorem d3_39 : decode jdk_42_method_149_code 39 = .ok (.astore 5, 2) := by decide +kernel
theorem d3_41 : decode jdk_42_method_149_code 41 = .ok (.aload_n 0, 1) := by decide +kernel
theorem d3_42 : decode jdk_42_method_149_code 42 = .ok (.aload 5, 2) := by decide +kernel
theorem d3_44 : decode jdk_42_method_149_code 44 = .ok (.iload_n 3, 1) := by decide +kernel
theorem d3_45 : decode jdk_42_method_149_code 45 = .ok (.invokestatic 47, 3) := by decide +kernel
theorem d3_48 : decode jdk_42_method_149_code 48 = .ok (.putfield 15, 3) := by decide +kernel
theorem d3_51 : decode jdk_42_method_149_code 51 = .ok (.aload_n 0, 1) := by decide +kernel
theorem d3_52 : decode jdk_42_method_149_code 52 = .ok (.aload 5, 2) := by decide +kernel
theorem d3_54 : decode jdk_42_method_149_code 54 = .ok (.putfield 9, 3) := by decide +kernel
theorem d3_57 : decode jdk_42_method_149_code 57 = .ok (.return_, 1) := by decide +kernel
theorem d4_0 : decode jdk_42_method_3_code 0 = .ok (.aload_n 0, 1) := by decide +kernel
theorem d4_1 : decode jdk_42_method_3_code 1 = .ok (.aload_n 1, 1) := by decide +kernel
theorem d4_2 : decode jdk_42_method_3_code 2 = .ok (.iconst 0, 1) := by decide +kernel
theorem d4_3 : decode jdk_42_method_3_code 3 = .ok (.aload_n 1, 1) := by decide +kernel
theorem d4_4 : decode jdk_42_method_3_code 4 = .ok (.arraylength, 1) := by decide +kernel
theorem d4_5 : decode jdk_42_method_3_code 5 = .ok (.aconst_null, 1) := by decide +kernel
theorem d4_6 : decode jdk_42_method_3_code 6 = .ok (.invokespecial 27, 3) := by decide +kernel
theorem d4_9 : decode jdk_42_method_3_code 9 = .ok (.return_, 1) := by decide +kernel
theorem d5_0 : decode jdk_43_method_3_code 0 = .ok (.iload_n 0, 1) := by decide +kernel
theorem d5_1 : decode jdk_43_method_3_code 1 = .ok (.sipush 255, 3) := by decide +kernel
theorem d5_4 : decode jdk_43_method_3_code 4 = .ok (.if_icmp .gt 7, 3) := by decide +kernel
theorem d5_7 : decode jdk_43_method_3_code 7 = .ok (.iconst 1, 1) := by decide +kernel
theorem d5_8 : decode jdk_43_method_3_code 8 = .ok (.goto 4, 3) := by decide +kernel
theorem d5_12 : decode jdk_43_method_3_code 12 = .ok (.ireturn, 1) := by decide +kernel
theorem d6_0 : decode jdk_43_method_46_code 0 = .ok (.iconst 1, 1) := by decide +kernel
theorem d6_1 : decode jdk_43_method_46_code 1 = .ok (.newarray .byte, 2) := by decide +kernel
theorem d6_3 : decode jdk_43_method_46_code 3 = .ok (.dup, 1) := by decide +kernel
theorem d6_4 : decode jdk_43_method_46_code 4 = .ok (.iconst 0, 1) := by decide +kernel
theorem d6_5 : decode jdk_43_method_46_code 5 = .ok (.iload_n 0, 1) := by decide +kernel
theorem d6_6 : decode jdk_43_method_46_code 6 = .ok (.i2b, 1) := by decide +kernel
theorem d6_7 : decode jdk_43_method_46_code 7 = .ok (.bastore, 1) := by decide +kernel
theorem d6_8 : decode jdk_43_method_46_code 8 = .ok (.areturn, 1) := by decide +kernel
theorem d7_0 : decode jdk_42_method_151_code 0 = .ok (.aload_n 0, 1) := by decide +kernel
theorem d7_1 : decode jdk_42_method_151_code 1 = .ok (.invokespecial 1, 3) := by decide +kernel
theorem d7_4 : decode jdk_42_method_151_code 4 = .ok (.aload_n 0, 1) := by decide +kernel
theorem d7_5 : decode jdk_42_method_151_code 5 = .ok (.aload_n 1, 1) := by decide +kernel
theorem d7_6 : decode jdk_42_method_151_code 6 = .ok (.putfield 9, 3) := by decide +kernel
theorem d7_9 : decode jdk_42_method_151_code 9 = .ok (.aload_n 0, 1) := by decide +kernel
theorem d7_10 : decode jdk_42_method_151_code 10 = .ok (.iload_n 2, 1) := by decide +kernel
theorem d7_11 : decode jdk_42_method_151_code 11 = .ok (.putfield 15, 3) := by decide +kernel
theorem d7_14 : decode jdk_42_method_151_code 14 = .ok (.return_, 1) := by decide +kernel
theorem d8_0 : decode jdk_42_method_139_code 0 = .ok (.getstatic 38, 3) := by decide +kernel
theorem d8_3 : decode jdk_42_method_139_code 3 = .ok (.ifCond .eq 23, 3) := by decide +kernel
theorem d8_6 : decode jdk_42_method_139_code 6 = .ok (.iload_n 0, 1) := by decide +kernel
theorem d8_7 : decode jdk_42_method_139_code 7 = .ok (.invokestatic 1015, 3) := by decide +kernel
theorem d8_10 : decode jdk_42_method_139_code 10 = .ok (.ifCond .eq 16, 3) := by decide +kernel
theorem d8_13 : decode jdk_42_method_139_code 13 = .ok (.new 10, 3) := by decide +kernel
theorem d8_16 : decode jdk_42_method_139_code 16 = .ok (.dup, 1) := by decide +kernel
theorem d8_17 : decode jdk_42_method_139_code 17 = .ok (.iload_n 0, 1) := by decide +kernel
theorem d8_18 : decode jdk_42_method_139_code 18 = .ok (.invokestatic 1018, 3) := by decide +kernel
theorem d8_21 : decode jdk_42_method_139_code 21 = .ok (.iconst 0, 1) := by decide +kernel
theorem d8_22 : decode jdk_42_method_139_code 22 = .ok (.invokespecial 209, 3) := by decide +kernel
theorem d8_25 : decode jdk_42_method_139_code 25 = .ok (.areturn, 1) := by decide +kernel
theorem d9_0 : decode jdk_43_method_13_code 0 = .ok (.aload_n 0, 1) := by decide +kernel
theorem d9_1 : decode jdk_43_method_13_code 1 = .ok (.arraylength, 1) := by decide +kernel
theorem d9_2 : decode jdk_43_method_13_code 2 = .ok (.aload_n 1, 1) := by decide +kernel
theorem d9_3 : decode jdk_43_method_13_code 3 = .ok (.arraylength, 1) := by decide +kernel
theorem d9_4 : decode jdk_43_method_13_code 4 = .ok (.if_icmp .ne 30, 3) := by decide +kernel
theorem d9_7 : decode jdk_43_method_13_code 7 = .ok (.iconst 0, 1) := by decide +kernel
theorem d9_8 : decode jdk_43_method_13_code 8 = .ok (.istore_n 2, 1) := by decide +kernel
theorem d9_9 : decode jdk_43_method_13_code 9 = .ok (.iload_n 2, 1) := by decide +kernel
theorem d9_10 : decode jdk_43_method_13_code 10 = .ok (.aload_n 0, 1) := by decide +kernel
theorem d9_11 : decode jdk_43_method_13_code 11 = .ok (.arraylength, 1) := by decide +kernel
theorem d9_12 : decode jdk_43_method_13_code 12 = .ok (.if_icmp .ge 20, 3) := by decide +kernel
theorem d9_15 : decode jdk_43_method_13_code 15 = .ok (.aload_n 0, 1) := by decide +kernel
theorem d9_16 : decode jdk_43_method_13_code 16 = .ok (.iload_n 2, 1) := by decide +kernel
theorem d9_17 : decode jdk_43_method_13_code 17 = .ok (.baload, 1) := by decide +kernel
theorem d9_18 : decode jdk_43_method_13_code 18 = .ok (.aload_n 1, 1) := by decide +kernel
theorem d9_19 : decode jdk_43_method_13_code 19 = .ok (.iload_n 2, 1) := by decide +kernel
theorem d9_20 : decode jdk_43_method_13_code 20 = .ok (.baload, 1) := by decide +kernel
theorem d9_21 : decode jdk_43_method_13_code 21 = .ok (.if_icmp .eq 5, 3) := by decide +kernel
theorem d9_24 : decode jdk_43_method_13_code 24 = .ok (.iconst 0, 1) := by decide +kernel
theorem d9_25 : decode jdk_43_method_13_code 25 = .ok (.ireturn, 1) := by decide +kernel
theorem d9_26 : decode jdk_43_method_13_code 26 = .ok (.iinc 2 1, 3) := by decide +kernel
theorem d9_29 : decode jdk_43_method_13_code 29 = .ok (.goto (-20), 3) := by decide +kernel
theorem d9_32 : decode jdk_43_method_13_code 32 = .ok (.iconst 1, 1) := by decide +kernel
theorem d9_33 : decode jdk_43_method_13_code 33 = .ok (.ireturn, 1) := by decide +kernel
theorem d9_34 : decode jdk_43_method_13_code 34 = .ok (.iconst 0, 1) := by decide +kernel
theorem d9_35 : decode jdk_43_method_13_code 35 = .ok (.ireturn, 1) := by decide +kernel
theorem d10_0 : decode jdk_42_method_66_code 0 = .ok (.aload_n 0, 1) := by decide +kernel
theorem d10_1 : decode jdk_42_method_66_code 1 = .ok (.aload_n 1, 1) := by decide +kernel
theorem d10_2 : decode jdk_42_method_66_code 2 = .ok (.if_acmp .ne 5, 3) := by decide +kernel
theorem d10_5 : decode jdk_42_method_66_code 5 = .ok (.iconst 1, 1) := by decide +kernel
theorem d10_6 : decode jdk_42_method_66_code 6 = .ok (.ireturn, 1) := by decide +kernel
theorem d10_7 : decode jdk_42_method_66_code 7 = .ok (.aload_n 1, 1) := by decide +kernel
theorem d10_8 : decode jdk_42_method_66_code 8 = .ok (.instanceof 10, 3) := by decide +kernel
theorem d10_11 : decode jdk_42_method_66_code 11 = .ok (.ifCond .eq 43, 3) := by decide +kernel
theorem d10_14 : decode jdk_42_method_66_code 14 = .ok (.aload_n 1, 1) := by decide +kernel
theorem d10_15 : decode jdk_42_method_66_code 15 = .ok (.checkcast 10, 3) := by decide +kernel
theorem d10_18 : decode jdk_42_method_66_code 18 = .ok (.astore_n 2, 1) := by decide +kernel
theorem d10_19 : decode jdk_42_method_66_code 19 = .ok (.getstatic 38, 3) := by decide +kernel
theorem d10_22 : decode jdk_42_method_66_code 22 = .ok (.ifCond .eq 14, 3) := by decide +kernel
theorem d10_25 : decode jdk_42_method_66_code 25 = .ok (.aload_n 0, 1) := by decide +kernel
theorem d10_26 : decode jdk_42_method_66_code 26 = .ok (.getfield 15, 3) := by decide +kernel
theorem d10_29 : decode jdk_42_method_66_code 29 = .ok (.aload_n 2, 1) := by decide +kernel
theorem d10_30 : decode jdk_42_method_66_code 30 = .ok (.getfield 15, 3) := by decide +kernel
theorem d10_33 : decode jdk_42_method_66_code 33 = .ok (.if_icmp .ne 21, 3) := by decide +kernel
theorem d10_36 : decode jdk_42_method_66_code 36 = .ok (.aload_n 0, 1) := by decide +kernel
theorem d10_37 : decode jdk_42_method_66_code 37 = .ok (.getfield 9, 3) := by decide +kernel
theorem d10_40 : decode jdk_42_method_66_code 40 = .ok (.aload_n 2, 1) := by decide +kernel
theorem d10_41 : decode jdk_42_method_66_code 41 = .ok (.getfield 9, 3) := by decide +kernel
theorem d10_44 : decode jdk_42_method_66_code 44 = .ok (.invokestatic 541, 3) := by decide +kernel
theorem d10_47 : decode jdk_42_method_66_code 47 = .ok (.ifCond .eq 7, 3) := by decide +kernel
theorem d10_50 : decode jdk_42_method_66_code 50 = .ok (.iconst 1, 1) := by decide +kernel
theorem d10_51 : decode jdk_42_method_66_code 51 = .ok (.goto 4, 3) := by decide +kernel
theorem d10_54 : decode jdk_42_method_66_code 54 = .ok (.iconst 0, 1) := by decide +kernel
theorem d10_55 : decode jdk_42_method_66_code 55 = .ok (.ireturn, 1) := by decide +kernel
theorem d11_0 : decode prog_12_method_6_code 0 = .ok (.ldc 50, 2) := by decide +kernel
theorem d11_2 : decode prog_12_method_6_code 2 = .ok (.aload_n 0, 1) := by decide +kernel
theorem d11_3 : decode prog_12_method_6_code 3 = .ok (.invokevirtual 52, 3) := by decide +kernel
theorem d11_6 : decode prog_12_method_6_code 6 = .ok (.ifCond .ne 12, 3) := by decide +kernel
theorem d11_9 : decode prog_12_method_6_code 9 = .ok (.ldc 58, 2) := by decide +kernel
theorem d11_11 : decode prog_12_method_6_code 11 = .ok (.aload_n 0, 1) := by decide +kernel
theorem d11_12 : decode prog_12_method_6_code 12 = .ok (.invokevirtual 52, 3) := by decide +kernel
theorem d11_15 : decode prog_12_method_6_code 15 = .ok (.ifCond .eq 7, 3) := by decide +kernel
theorem d11_18 : decode prog_12_method_6_code 18 = .ok (.iconst 1, 1) := by decide +kernel
theorem d11_19 : decode prog_12_method_6_code 19 = .ok (.goto 4, 3) := by decide +kernel
theorem d11_22 : decode prog_12_method_6_code 22 = .ok (.iconst 0, 1) := by decide +kernel
theorem d11_23 : decode prog_12_method_6_code 23 = .ok (.ireturn, 1) := by decide +kernel
theorem pn0 : plainName "java/lang/StringUTF16" = true := by first | (simp [plainName, overriddenIn]; done) | decide +kernel
theorem pn1 : plainName "java/lang/String" = true := by first | (simp [plainName, overriddenIn]; done) | decide +kernel
theorem pn2 : plainName "java/lang/StringLatin1" = true := by first | (simp [plainName, overriddenIn]; done) | decide +kernel
theorem pn3 : plainName "com/example/stratagraph/stratagraph/store/TimeFilter" = true := by first | (simp [plainName, overriddenIn]; done) | decide +kernel
theorem pn4 : plainName "com/example/stratagraph/stratagraph/store/TimeFilterIsTimeKeyPinLaw" = true := by first | (simp [plainName, overriddenIn]; done) | decide +kernel
theorem pd0 : parseMethodDescriptor "([CI[BII)I" = some ⟨[(.array .char), .int, (.array .byte), .int, .int], some .int⟩ := by decide +kernel
theorem pd1 : parseMethodDescriptor "([CII)[B" = some ⟨[(.array .char), .int, .int], some (.array .byte)⟩ := by decide +kernel
theorem pd2 : parseMethodDescriptor "([BI)B" = some ⟨[(.array .byte), .int], some .byte⟩ := by decide +kernel
theorem pd3 : parseMethodDescriptor "([CIILjava/lang/Void;)V" = some ⟨[(.array .char), .int, .int, (.object "java/lang/Void")], none⟩ := by decide +kernel
theorem pd4 : parseMethodDescriptor "(C)Z" = some ⟨[.char], some .boolean⟩ := by decide +kernel
theorem pd5 : parseMethodDescriptor "(C)[B" = some ⟨[.char], some (.array .byte)⟩ := by decide +kernel
theorem pd6 : parseMethodDescriptor "([BB)V" = some ⟨[(.array .byte), .byte], none⟩ := by decide +kernel
theorem pd7 : parseMethodDescriptor "([B[B)Z" = some ⟨[(.array .byte), (.array .byte)], some .boolean⟩ := by decide +kernel
theorem pd8 : parseMethodDescriptor "(Ljava/lang/Object;)Z" = some ⟨[(.object "java/lang/Object")], some .boolean⟩ := by decide +kernel
theorem pd9 : parseMethodDescriptor "([C)V" = some ⟨[(.array .char)], none⟩ := by decide +kernel
theorem pd10 : parseMethodDescriptor "(Ljava/lang/String;)Z" = some ⟨[(.object "java/lang/String")], some .boolean⟩ := by decide +kernel
theorem pd11 : parseMethodDescriptor "(C)Ljava/lang/String;" = some ⟨[.char], some (.object "java/lang/String")⟩ := by decide +kernel
def Glob (Z : State) (a0 : Array Value) : Prop := HW Z a0 ∧ EW Z a0 ELs ∧ (∃ cv : Int32, ¬ cv = 0 ∧ Sta Z Z.heap "java/lang/String" "COMPACT_STRINGS" "Z" (.int cv))
theorem Glob.compact {Z : State} {a0 : Array Value} (G : Glob Z a0) : ∃ cv : Int32, ¬ cv = 0 ∧ Sta Z Z.heap "java/lang/String" "COMPACT_STRINGS" "Z" (.int cv) := G.2.2
theorem Glob.wS {Z : State} {a0 : Array Value} (G : Glob Z a0) : ∀ a ∈ Bundle.stringAtoms, a.before a0 Z = true := by
  have hw := G.1
  exact (List.forall_mem_cons.mpr ⟨(w4 hw), List.forall_mem_cons.mpr ⟨(w3 hw), List.forall_mem_cons.mpr ⟨(w20 hw), List.forall_mem_cons.mpr ⟨(w30 hw), List.forall_mem_cons.mpr ⟨(w28 hw), List.forall_mem_cons.mpr ⟨(w36 hw), List.forall_mem_cons.mpr ⟨(w37 hw), fun _ h => nomatch h⟩⟩⟩⟩⟩⟩⟩)
theorem Glob.sl {Z : State} {a0 : Array Value} (G : Glob Z a0) : slotK Z vK ≠ slotK Z cK := by
  have hw := G.1
  exact slot_ne (C := "java/lang/String") (Or.inr (w30 hw)) (Or.inr (w28 hw)) (by decide) (t := .array .byte) (t' := .byte) (by decide) (by decide)
theorem lay_java_lang_String {Z : State} {a0 : Array Value} (hw : HW Z a0) : (∀ f ∈ ([((("java/lang/String", "value", "[B") : Key), (.null : Value)), ((("java/lang/String", "coder", "B") : Key), (.int 0 : Value))] : List (Key × Value)), Laid Z a0 "java/lang/String" f.1.1 f.1.2.1 f.1.2.2 ∧ ∃ ty, parseFieldDescriptor f.1.2.2 = some ty ∧ f.2 = defaultValue ty) ∧ (([((("java/lang/String", "value", "[B") : Key), (.null : Value)), ((("java/lang/String", "coder", "B") : Key), (.int 0 : Value))] : List (Key × Value)).map fun f => slotK Z f.1).Nodup := lay_of (List.forall_mem_cons.mpr ⟨⟨Or.inr (w30 hw), (.array .byte), by decide, rfl⟩, List.forall_mem_cons.mpr ⟨⟨Or.inr (w28 hw), .byte, by decide, rfl⟩, fun _ h => nomatch h⟩⟩) (by decide)

abbrev startCs : List Int32 := [115, 116, 97, 114, 116, 84, 105, 109, 101]
abbrev endCs : List Int32 := [101, 110, 100, 84, 105, 109, 101]
theorem lat_lit {n : Nat} (h : n < 256) : Lat n.toInt32 := by
  have := n_toInt (a := n) (by omega)
  unfold Lat; omega
theorem lat_start : ∀ x ∈ startCs, Lat x := by unfold Lat; decide
theorem lat_end : ∀ x ∈ endCs, Lat x := by unfold Lat; decide
theorem mod_small (x : Int32) (n : Nat) (h0 : 0 < n) (hn : n < 2 ^ 31) : ∃ p : Nat, p < n ∧ (x &&& 2147483647) % n.toInt32 = p.toInt32 := by
  have h : (x &&& 2147483647).toBitVec.toNat < 2 ^ 31 := by
    simp only [Int32.toBitVec_and, BitVec.toNat_and]
    exact Nat.lt_of_le_of_lt Nat.and_le_right (by decide)
  have e : (x &&& 2147483647).toInt = ((x &&& 2147483647).toBitVec.toNat : Int) := by
    show (x &&& 2147483647).toBitVec.toInt = _
    rw [BitVec.toInt_eq_toNat_cond, if_pos (by omega)]
  generalize (x &&& 2147483647).toBitVec.toNat = a at e h
  refine ⟨a % n, Nat.mod_lt _ h0, Int32.toInt_inj.mp ?_⟩
  rw [Int32.toInt_mod, e, n_toInt hn, n_toInt (Nat.lt_trans (Nat.mod_lt _ h0) hn), ← Int.ofNat_tmod]
theorem set_map {L : List Int32} {p : Nat} {x : Int32} : (L.map Value.int).set p (.int x) = (L.set p x).map Value.int := by rw [List.map_set]
theorem get_map {L : List Int32} {p : Nat} (h : p < L.length) : (L.map Value.int)[p]? = some (.int L[p]) := by rw [List.getElem?_map, List.getElem?_eq_getElem h]; rfl
theorem set_ne {L : List Int32} {p : Nat} {x : Int32} (h : p < L.length) (q : L.set p x = L) : L[p] = x := by
  have e := congrArg (fun M : List Int32 => M[p]?) q
  simp only [List.getElem?_set_self h] at e
  rw [List.getElem?_eq_getElem h] at e
  exact (Option.some.inj e).symm
theorem lat_set {L : List Int32} {p : Nat} {x : Int32} (hL : ∀ y ∈ L, Lat y) (hx : Lat x) : ∀ y ∈ L.set p x, Lat y := fun y hy => by
  rcases List.mem_or_eq_of_mem_set hy with q | q
  · exact hL y q
  · rw [q]; exact hx
theorem lat_app {L : List Int32} {x : Int32} (hL : ∀ y ∈ L, Lat y) (hx : Lat x) : ∀ y ∈ L ++ [x], Lat y := fun y hy => by
  rcases List.mem_append.mp hy with q | q
  · exact hL y q
  · rw [List.mem_singleton.mp q]; exact hx

theorem compress_set {cs : List Int32} {i r : Nat} (h : i < cs.length) : ((cs.take i).map (fun x => Value.int (by8 x)) ++ List.replicate (r + 1) (Value.int 0)).set i (.int (nar .byte (cs[i].toInt8.toInt32))) = (cs.take (i + 1)).map (fun x => Value.int (by8 x)) ++ List.replicate r (.int 0) := by
  have e : nar .byte (cs[i].toInt8.toInt32) = by8 cs[i] := by simp [nar, by8]
  have hl : ((cs.take i).map (fun x => Value.int (by8 x))).length = i := by simp; omega
  rw [e, List.set_append_right _ _ (by omega), hl, Nat.sub_self, List.replicate_succ, List.set_cons_zero, List.take_succ_eq_append_getElem h, List.map_append, List.append_assoc]
  rfl
theorem coder_zero (a : Int32) : (ushr (a - a) 31).toInt8.toInt32 = 0 := by
  have : a - a = 0 := Int32.sub_self ..
  rw [this]; decide
theorem by8_store {x : Int32} : Value.int (nar .byte (x.toInt8.toInt32)) = .int (by8 x) := by simp [nar, by8]
theorem str_same {Z : State} {h : Heap} {a b b2 : Addr} (F : Foot (fun _ => True) Z h (a, sO b)) (H : Foot (fun _ => True) Z h (a, sO b2)) : b = b2 := by
  obtain ⟨c1, _, _, _, _, h1, h2, -, -, -, -, h7⟩ := F.2.2.1 (vK, .ref b) (List.mem_cons_self ..)
  obtain ⟨c2, _, _, _, _, g1, g2, -, -, -, -, g7⟩ := H.2.2.1 (vK, .ref b2) (List.mem_cons_self ..)
  cases h1.symm.trans g1; cases h2.symm.trans g2
  have := h7.symm.trans g7
  simpa using this
theorem ar_same {Z : State} {h : Heap} {a : Addr} {ty : FieldType} {xs ys : List Int32} (F : Foot (fun _ => True) Z h (a, aO ty (xs.map Value.int))) (H : Foot (fun _ => True) Z h (a, aO ty (ys.map Value.int))) : xs = ys := by
  obtain ⟨-, c1, A1, s1, -⟩ := F
  obtain ⟨-, c2, A2, s2, -⟩ := H
  cases A1.1.symm.trans A2.1
  have e : xs.map Value.int = ys.map Value.int := by
    have := s1.symm.trans s2
    simpa using congrArg Array.toList this
  exact (List.map_inj_right (fun x y q => by cases q; rfl)).mp e
theorem map_by8 {xs ys : List Int32} (hx : ∀ x ∈ xs, Lat x) (hy : ∀ y ∈ ys, Lat y) (h : xs.map by8 = ys.map by8) : xs = ys := by
  induction xs generalizing ys with
  | nil => cases ys with
    | nil => rfl
    | cons y ys => simp at h
  | cons x xs ih => cases ys with
    | nil => simp at h
    | cons y ys =>
      simp only [List.map_cons, List.cons.injEq] at h
      rw [by8_inj (hx x (List.mem_cons_self ..)) (hy y (List.mem_cons_self ..)) h.1, ih (fun a ha => hx a (List.mem_cons_of_mem _ ha)) (fun a ha => hy a (List.mem_cons_of_mem _ ha)) h.2]
theorem len_str {Z : State} {h : Heap} {a : Addr} {cs : List Int32} (F : Foot (fun _ => True) Z h (a, bO cs)) : cs.length < 2 ^ 31 := by
  obtain ⟨-, c1, A1, s1, hl, -⟩ := F
  simpa using hl

set_option maxRecDepth 65536 in
set_option maxHeartbeats 4000000 in
theorem c_compress21 {l : Launch} {Z : State} {a0 : Array Value} (G : Glob Z a0) {b c' : Addr} {cs : List Int32} (hl : cs.length ≤ 10) (hc : ∀ x ∈ cs, Lat x) : Con NR ELs l Z (⟨"java/lang/StringUTF16", "compress", "([CI[BII)I"⟩ : MethodName) jdk_52_method_21_code 7 (Option.some Jvm.ClassFile.FieldType.int) ({ frames := 0, cells := 0, slots := 0, locals := 0 } : Room) [.ref b, .int 0, .ref c', .int 0, .int cs.length.toInt32] [(c', aO .byte (List.replicate cs.length (.int 0)))] [(b, aO .char (cs.map Value.int))] (fun v O' FN => v = some (.int cs.length.toInt32) ∧ O' = [(c', aO .byte ((cs.map by8).map Value.int))] ∧ FN = []) := by
  have hw := G.1
  refine Con.intro (own := "java/lang/StringUTF16") (name := "compress") (plainFor_of_name pn0) rfl rfl ⟨_, G.2.1⟩ #[.val (.ref b), .val (.int 0), .val (.ref c'), .val (.int 0), .val (.int cs.length.toInt32), .unset, .unset] rfl ?_
  intro p e s m below meth c T N
  have loop : ∀ (r i : Nat) (L6 : Slot) (T : State), i + r = cs.length → (L6 = .unset ∨ ∃ w, L6 = .val w ∧ w.category = 1) → Now NR ELs Z "java/lang/StringUTF16" "compress" jdk_52_method_21_code 7 (Option.some Jvm.ClassFile.FieldType.int) p l e ({ frames := 0, cells := 0, slots := 0, locals := 0 } : Room) s m ([.ref b, .int 0, .ref c', .int 0, .int cs.length.toInt32] : List Value).toArray below meth c [(c', aO .byte (List.replicate cs.length (.int 0)))] s.vm T 0 0 [(c', aO .byte ((cs.take i).map (fun x => Value.int (by8 x)) ++ List.replicate r (.int 0)))] [(b, aO .char (cs.map Value.int))] [] →
      Goes p e below (Jvm.Own.Out NR ELs Z [(c', aO .byte (List.replicate cs.length (.int 0)))] [(b, aO .char (cs.map Value.int))] (fun v O' FN => v = some (.int cs.length.toInt32) ∧ O' = [(c', aO .byte ((cs.map by8).map Value.int))] ∧ FN = []) (({ frames := 0, cells := 0, slots := 0, locals := 0 } : Room) : Room).cells (({ frames := 0, cells := 0, slots := 0, locals := 0 } : Room) : Room).slots s) (T.setTop (mkF m 3 #[.val (.ref b), .val (.int i.toInt32), .val (.ref c'), .val (.int i.toInt32), .val (.int cs.length.toInt32), .val (.int i.toInt32), L6] [])) := by
    intro r
    induction r with
    | zero =>
      intro i L6 T hi hL N
      obtain rfl : i = cs.length := by omega
      refine N.iload (pc := 3) d0_3 rfl ?_
      refine N.iload (pc := 5) d0_5 rfl ?_
      refine N.icmpgeT (pc := 7) (pc' := 44) d0_7 rfl Int32.lt_irrefl ?_
      refine N.iload (pc := 44) d0_44 rfl ?_
      exact N.ireturn (pc := 46) [] (fun _ h => h) (List.forall_mem_nil _) (Nat.le_of_ble_eq_true rfl) (Nat.le_of_ble_eq_true rfl) (t := .int) d0_46 rfl (by simp) rfl ⟨rfl, by simp [Function.comp_def], rfl⟩
    | succ r ih =>
      intro i L6 T hi hL N
      have hlt : i < cs.length := by omega
      have hi31 : i < 2 ^ 31 := by omega
      refine N.iload (pc := 3) d0_3 rfl ?_
      refine N.iload (pc := 5) d0_5 rfl ?_
      refine N.icmpgeF (pc := 7) d0_7 ((n_lt hi31 (by omega)).mpr hlt) ?_
      refine N.aloadN (pc := 10) d0_10 rfl rfl ?_
      refine N.iloadN (pc := 11) d0_11 rfl ?_
      have hx := hc cs[i] (List.getElem_mem hlt)
      refine N.caload (pc := 12) (v := .int cs[i]) 1 i d0_12 rfl (n_nat hi31) (n_nneg hi31) (by simp [hlt]) ?_
      refine N.istore (pc := 13) (l' := #[.val (.ref b), .val (.int i.toInt32), .val (.ref c'), .val (.int i.toInt32), .val (.int cs.length.toInt32), .val (.int i.toInt32), .val (.int (cs[i]))]) d0_13 (XS.store1 rfl hL rfl) ?_
      refine N.iload (pc := 15) d0_15 rfl ?_
      refine N.sipush (pc := 17) 255 d0_17 rfl ?_
      refine N.icmpleT (pc := 20) (pc' := 26) d0_20 rfl (lat_le hx) ?_
      refine N.aloadN (pc := 26) d0_26 rfl rfl ?_
      refine N.iloadN (pc := 27) d0_27 rfl ?_
      refine N.iload (pc := 28) d0_28 rfl ?_
      refine N.i2b (pc := 30) d0_30 ?_
      refine N.bastore (pc := 31) (O' := [(c', aO .byte ((cs.take (i + 1)).map (fun x => Value.int (by8 x)) ++ List.replicate r (.int 0)))]) 0 i d0_31 rfl (n_nat hi31) (n_nneg hi31) (by simp; omega) rfl (by rw [compress_set hlt]; rfl) fun T N => ?_
      refine N.iinc (pc := 32) (l' := #[.val (.ref b), .val (.int (i.toInt32 + 1)), .val (.ref c'), .val (.int i.toInt32), .val (.int cs.length.toInt32), .val (.int i.toInt32), .val (.int (cs[i]))]) 1 d0_32 rfl rfl rfl ?_
      refine N.iinc (pc := 35) (l' := #[.val (.ref b), .val (.int (i.toInt32 + 1)), .val (.ref c'), .val (.int (i.toInt32 + 1)), .val (.int cs.length.toInt32), .val (.int i.toInt32), .val (.int (cs[i]))]) 1 d0_35 rfl rfl rfl ?_
      refine N.iinc (pc := 38) (l' := #[.val (.ref b), .val (.int (i.toInt32 + 1)), .val (.ref c'), .val (.int (i.toInt32 + 1)), .val (.int cs.length.toInt32), .val (.int (i.toInt32 + 1)), .val (.int (cs[i]))]) 1 d0_38 rfl rfl rfl ?_
      rw [n_succ]
      refine N.goto (pc := 41) (pc' := 3) d0_41 rfl ?_
      exact ih (i + 1) _ T (by omega) (Or.inr ⟨_, rfl, rfl⟩) N
  refine N.iconst (pc := 0) 0 d0_0 rfl ?_
  refine N.istore (pc := 1) (l' := #[.val (.ref b), .val (.int 0), .val (.ref c'), .val (.int 0), .val (.int cs.length.toInt32), .val (.int 0), .unset]) d0_1 rfl ?_
  exact loop cs.length 0 .unset T (by omega) (Or.inl rfl) N

set_option maxRecDepth 65536 in
set_option maxHeartbeats 4000000 in
theorem c_compress16 {l : Launch} {Z : State} {a0 : Array Value} (G : Glob Z a0) {b : Addr} {cs : List Int32} (hl : cs.length ≤ 10) (hc : ∀ x ∈ cs, Lat x) : Con NR ELs l Z (⟨"java/lang/StringUTF16", "compress", "([CII)[B"⟩ : MethodName) jdk_52_method_16_code 6 (Option.some (Jvm.ClassFile.FieldType.array Jvm.ClassFile.FieldType.byte)) ({ frames := 1, cells := 1, slots := 10, locals := 18 } : Room) [.ref b, .int 0, .int cs.length.toInt32] [] [(b, aO .char (cs.map Value.int))] (fun v O' FN => ∃ c', v = some (.ref c') ∧ O' = [(c', aO .byte ((cs.map by8).map Value.int))] ∧ FN = []) := by
  have hw := G.1
  refine Con.intro (own := "java/lang/StringUTF16") (name := "compress") (plainFor_of_name pn0) rfl rfl ⟨_, G.2.1⟩ #[.val (.ref b), .val (.int 0), .val (.int cs.length.toInt32), .unset, .unset, .unset] rfl ?_
  intro p e s m below meth c T N
  refine N.iloadN (pc := 0) d1_0 rfl ?_
  refine N.newarray (pc := 1) cs.length 10 d1_1 (w20 hw) (n_nat (by omega)) (n_nneg (by omega)) hl (by decide) (Nat.le_of_ble_eq_true rfl) (Nat.le_of_ble_eq_true rfl) fun c' T lc N => ?_
  replace N := N.cast (O' := [(c', aO .byte (List.replicate cs.length (.int 0)))]) rfl
  refine N.astoreN (pc := 3) (l' := #[.val (.ref b), .val (.int 0), .val (.int cs.length.toInt32), .val (.ref c'), .unset, .unset]) d1_3 rfl rfl ?_
  refine N.aloadN (pc := 4) d1_4 rfl rfl ?_
  refine N.iloadN (pc := 5) d1_5 rfl ?_
  refine N.aloadN (pc := 6) d1_6 rfl rfl ?_
  refine N.iconst (pc := 7) 0 d1_7 rfl ?_
  refine N.iloadN (pc := 8) d1_8 rfl ?_
  refine N.callS (pc := 9) (c_compress21 G (b := b) (c' := c') (cs := cs) hl hc) [0] [1] d1_9 (w21 hw) (w22 hw) (w18 hw) (w23 hw) (by decide) pd0 rfl (st := []) rfl rfl rfl (by decide) (by decide) (ltAll rfl) rfl (Nat.le_of_ble_eq_true rfl) (Nat.le_of_ble_eq_true rfl) (Nat.le_of_ble_eq_true rfl) (Nat.le_of_ble_eq_true rfl) fun v O' FN vm T hQ N => ?_
  obtain ⟨rfl, rfl, rfl⟩ := hQ
  replace N := N.cast3 (O' := [(c', aO .byte ((cs.map by8).map Value.int))]) (RO' := [(b, aO .char (cs.map Value.int))]) (FZ' := []) rfl rfl rfl
  show Goes p e below _ (T.setTop (mkF m 12 #[.val (.ref b), .val (.int 0), .val (.int cs.length.toInt32), .val (.ref c'), .unset, .unset] [.int cs.length.toInt32]))
  refine N.istore (pc := 12) (l' := #[.val (.ref b), .val (.int 0), .val (.int cs.length.toInt32), .val (.ref c'), .val (.int cs.length.toInt32), .unset]) d1_12 rfl ?_
  refine N.iload (pc := 14) d1_14 rfl ?_
  refine N.iloadN (pc := 16) d1_16 rfl ?_
  refine N.icmpeqT (pc := 17) (pc' := 57) d1_17 rfl rfl ?_
  refine N.aloadN (pc := 57) d1_57 rfl rfl ?_
  exact N.areturn (pc := 58) [] (fun _ h => h) (List.forall_mem_nil _) (Nat.le_of_ble_eq_true rfl) (Nat.le_of_ble_eq_true rfl) (t := (.array .byte)) d1_58 rfl rfl rfl rfl ⟨_, rfl, rfl, rfl⟩

set_option maxRecDepth 65536 in
set_option maxHeartbeats 4000000 in
theorem c_coder15 {l : Launch} {Z : State} {a0 : Array Value} (G : Glob Z a0) {b : Addr} {vs : List Value} {n : Nat} (hn : vs.length = n) : Con NR ELs l Z (⟨"java/lang/StringUTF16", "coderFromArrayLen", "([BI)B"⟩ : MethodName) jdk_52_method_15_code 2 (Option.some Jvm.ClassFile.FieldType.byte) ({ frames := 0, cells := 0, slots := 0, locals := 0 } : Room) [.ref b, .int n.toInt32] [] [(b, aO .byte vs)] (fun v O' FN => v = some (.int 0) ∧ O' = [] ∧ FN = []) := by
  have hw := G.1
  refine Con.intro (own := "java/lang/StringUTF16") (name := "coderFromArrayLen") (plainFor_of_name pn0) rfl rfl ⟨_, G.2.1⟩ #[.val (.ref b), .val (.int n.toInt32)] rfl ?_
  intro p e s m below meth c T N
  refine N.iloadN (pc := 0) d2_0 rfl ?_
  refine N.aloadN (pc := 1) d2_1 rfl rfl ?_
  refine N.arraylength (pc := 2) n.toInt32 0 d2_2 rfl (by rw [hn]) ?_
  refine N.isub (pc := 3) d2_3 ?_
  refine N.bipush (pc := 4) 31 d2_4 rfl ?_
  refine N.iushr (pc := 6) d2_6 ?_
  refine N.i2b (pc := 7) d2_7 ?_
  rw [coder_zero]
  exact N.ireturn (pc := 8) [] (fun _ h => h) (List.forall_mem_nil _) (Nat.le_of_ble_eq_true rfl) (Nat.le_of_ble_eq_true rfl) (t := .byte) d2_8 rfl (by simp) rfl ⟨rfl, rfl, rfl⟩

set_option maxRecDepth 65536 in
set_option maxHeartbeats 4000000 in
theorem c_init149 {l : Launch} {Z : State} {a0 : Array Value} (G : Glob Z a0) {a b : Addr} {cs : List Int32} (hz : 0 < cs.length) (hl : cs.length ≤ 10) (hc : ∀ x ∈ cs, Lat x) : Con NR ELs l Z (⟨"java/lang/String", "<init>", "([CIILjava/lang/Void;)V"⟩ : MethodName) jdk_42_method_149_code 6 (Option.none : Option Jvm.ClassFile.FieldType) ({ frames := 2, cells := 1, slots := 10, locals := 35 } : Room) [.ref a, .ref b, .int 0, .int cs.length.toInt32, .null] [(a, .inl ("java/lang/String", [(("java/lang/String", "value", "[B"), .null), (("java/lang/String", "coder", "B"), .int 0)]))] [(b, aO .char (cs.map Value.int))] (fun v O' FN => ∃ c', v = none ∧ O' = [(a, .inl ("java/lang/String", [(("java/lang/String", "value", "[B"), .ref c'), (("java/lang/String", "coder", "B"), .int 0)])), (c', aO .byte ((cs.map by8).map Value.int))] ∧ FN = []) := by
  have hw := G.1
  refine Con.intro (own := "java/lang/String") (name := "<init>") (plainFor_of_name pn1) rfl rfl ⟨_, G.2.1⟩ #[.val (.ref a), .val (.ref b), .val (.int 0), .val (.int cs.length.toInt32), .val (.null), .unset] rfl ?_
  intro p e s m below meth c T N
  have hnz : ¬ cs.length.toInt32 = 0 := fun q => by
    have := (n_eq (b := 0) (by omega) (by decide)).mp q
    omega
  refine N.aloadN (pc := 0) d3_0 rfl rfl ?_
  refine N.objInit (pc := 1) d3_1 (w12 hw) (w13 hw) (w14 hw) rfl (Nat.le_of_ble_eq_true rfl) (Nat.le_of_ble_eq_true rfl) fun T N => ?_
  refine N.iloadN (pc := 4) d3_4 rfl ?_
  refine N.ifneT (pc := 5) (pc' := 27) d3_5 rfl hnz ?_
  obtain ⟨cv, hcv, hS⟩ := G.compact
  refine N.getstatic (pc := 27) d3_27 (w15 hw) Via.refl hS fun T N => ?_
  refine N.ifeqF (pc := 30) d3_30 hcv ?_
  refine N.aloadN (pc := 33) d3_33 rfl rfl ?_
  refine N.iloadN (pc := 34) d3_34 rfl ?_
  refine N.iloadN (pc := 35) d3_35 rfl ?_
  refine N.callS (pc := 36) (c_compress16 G (b := b) (cs := cs) hl hc) [] [1] d3_36 (w16 hw) (w17 hw) (w18 hw) (w19 hw) (by decide) pd1 rfl (st := []) rfl rfl rfl (by decide) (by decide) (ltAll rfl) rfl (Nat.le_of_ble_eq_true rfl) (Nat.le_of_ble_eq_true rfl) (Nat.le_of_ble_eq_true rfl) (Nat.le_of_ble_eq_true rfl) fun v O' FN vm T hQ N => ?_
  obtain ⟨c', rfl, rfl, rfl⟩ := hQ
  replace N := N.cast3 (O' := [(a, .inl ("java/lang/String", [(("java/lang/String", "value", "[B"), .null), (("java/lang/String", "coder", "B"), .int 0)])), (c', aO .byte ((cs.map by8).map Value.int))]) (RO' := [(b, aO .char (cs.map Value.int))]) (FZ' := []) rfl rfl rfl
  show Goes p e below _ (T.setTop (mkF m 39 #[.val (.ref a), .val (.ref b), .val (.int 0), .val (.int cs.length.toInt32), .val (.null), .unset] [.ref c']))
  refine N.astore (pc := 39) (l' := #[.val (.ref a), .val (.ref b), .val (.int 0), .val (.int cs.length.toInt32), .val (.null), .val (.ref c')]) d3_39 rfl rfl ?_
  refine N.aloadN (pc := 41) d3_41 rfl rfl ?_
  refine N.aload (pc := 42) d3_42 rfl rfl ?_
  refine N.iloadN (pc := 44) d3_44 rfl ?_
  refine N.callS (pc := 45) (c_coder15 G (b := c') (vs := (cs.map by8).map Value.int) (n := cs.length) (by simp)) [] [1] d3_45 (w24 hw) (w25 hw) (w18 hw) (w26 hw) (by decide) pd2 rfl (st := [.ref a]) rfl rfl rfl (by decide) (by decide) (ltAll rfl) rfl (Nat.le_of_ble_eq_true rfl) (Nat.le_of_ble_eq_true rfl) (Nat.le_of_ble_eq_true rfl) (Nat.le_of_ble_eq_true rfl) fun v O' FN vm T hQ N => ?_
  obtain ⟨rfl, rfl, rfl⟩ := hQ
  replace N := N.cast3 (O' := [(a, .inl ("java/lang/String", [(("java/lang/String", "value", "[B"), .null), (("java/lang/String", "coder", "B"), .int 0)])), (c', aO .byte ((cs.map by8).map Value.int))]) (RO' := [(b, aO .char (cs.map Value.int))]) (FZ' := []) rfl rfl rfl
  show Goes p e below _ (T.setTop (mkF m 48 #[.val (.ref a), .val (.ref b), .val (.int 0), .val (.int cs.length.toInt32), .val (.null), .val (.ref c')] [.int 0, .ref a]))
  refine N.putfield (pc := 48) (O' := [(a, .inl ("java/lang/String", [(("java/lang/String", "value", "[B"), .null), (("java/lang/String", "coder", "B"), .int 0)])), (c', aO .byte ((cs.map by8).map Value.int))]) 0 1 d3_48 (w27 hw) Via.refl (Or.inr ⟨(w28 hw), rfl, rfl⟩) (w3 hw) rfl rfl (ty := .byte) (by decide) rfl rfl rfl fun T N => ?_
  refine N.aloadN (pc := 51) d3_51 rfl rfl ?_
  refine N.aload (pc := 52) d3_52 rfl rfl ?_
  refine N.putfield (pc := 54) (O' := [(a, .inl ("java/lang/String", [(("java/lang/String", "value", "[B"), .ref c'), (("java/lang/String", "coder", "B"), .int 0)])), (c', aO .byte ((cs.map by8).map Value.int))]) 0 0 d3_54 (w29 hw) Via.refl (Or.inr ⟨(w30 hw), rfl, rfl⟩) (w3 hw) rfl rfl (ty := (.array .byte)) (by decide) rfl rfl rfl fun T N => ?_
  exact N.retV (pc := 57) [] (fun _ h => h) (List.forall_mem_nil _) (Nat.le_of_ble_eq_true rfl) (Nat.le_of_ble_eq_true rfl) d3_57 rfl ⟨_, rfl, rfl, rfl⟩

set_option maxRecDepth 65536 in
set_option maxHeartbeats 4000000 in
theorem c_init3 {l : Launch} {Z : State} {a0 : Array Value} (G : Glob Z a0) {a b : Addr} {cs : List Int32} (hz : 0 < cs.length) (hl : cs.length ≤ 10) (hc : ∀ x ∈ cs, Lat x) : Con NR ELs l Z (⟨"java/lang/String", "<init>", "([C)V"⟩ : MethodName) jdk_42_method_3_code 2 (Option.none : Option Jvm.ClassFile.FieldType) ({ frames := 3, cells := 1, slots := 10, locals := 52 } : Room) [.ref a, .ref b] [(a, .inl ("java/lang/String", [(("java/lang/String", "value", "[B"), .null), (("java/lang/String", "coder", "B"), .int 0)]))] [(b, aO .char (cs.map Value.int))] (fun v O' FN => ∃ c', v = none ∧ O' = [(a, .inl ("java/lang/String", [(("java/lang/String", "value", "[B"), .ref c'), (("java/lang/String", "coder", "B"), .int 0)])), (c', aO .byte ((cs.map by8).map Value.int))] ∧ FN = []) := by
  have hw := G.1
  refine Con.intro (own := "java/lang/String") (name := "<init>") (plainFor_of_name pn1) rfl rfl ⟨_, G.2.1⟩ #[.val (.ref a), .val (.ref b)] rfl ?_
  intro p e s m below meth c T N
  refine N.aloadN (pc := 0) d4_0 rfl rfl ?_
  refine N.aloadN (pc := 1) d4_1 rfl rfl ?_
  refine N.iconst (pc := 2) 0 d4_2 rfl ?_
  refine N.aloadN (pc := 3) d4_3 rfl rfl ?_
  refine N.arraylength (pc := 4) cs.length.toInt32 1 d4_4 rfl (by simp) ?_
  refine N.aconst (pc := 5) d4_5 ?_
  refine N.callI (pc := 6) (c_init149 G (a := a) (b := b) (cs := cs) hz hl hc) [0] [1] d4_6 rfl (w8 hw) (w9 hw) (w4 hw) (w11 hw) (by decide) pd3 rfl (st := []) rfl rfl rfl (by decide) (by decide) (ltAll rfl) rfl (Nat.le_of_ble_eq_true rfl) (Nat.le_of_ble_eq_true rfl) (Nat.le_of_ble_eq_true rfl) (Nat.le_of_ble_eq_true rfl) fun v O' FN vm T hQ N => ?_
  obtain ⟨c', rfl, rfl, rfl⟩ := hQ
  replace N := N.cast3 (O' := [(a, .inl ("java/lang/String", [(("java/lang/String", "value", "[B"), .ref c'), (("java/lang/String", "coder", "B"), .int 0)])), (c', aO .byte ((cs.map by8).map Value.int))]) (RO' := [(b, aO .char (cs.map Value.int))]) (FZ' := []) rfl rfl rfl
  show Goes p e below _ (T.setTop (mkF m 9 #[.val (.ref a), .val (.ref b)] []))
  exact N.retV (pc := 9) [] (fun _ h => h) (List.forall_mem_nil _) (Nat.le_of_ble_eq_true rfl) (Nat.le_of_ble_eq_true rfl) d4_9 rfl ⟨_, rfl, rfl, rfl⟩

set_option maxRecDepth 65536 in
set_option maxHeartbeats 4000000 in
theorem c_init149e {l : Launch} {Z : State} {a0 : Array Value} (G : Glob Z a0) {a b : Addr} : Con NR ELs l Z (⟨"java/lang/String", "<init>", "([CIILjava/lang/Void;)V"⟩ : MethodName) jdk_42_method_149_code 6 (Option.none : Option Jvm.ClassFile.FieldType) ({ frames := 1, cells := 4, slots := 8, locals := 12 } : Room) [.ref a, .ref b, .int 0, .int 0, .null] [(a, .inl ("java/lang/String", [(("java/lang/String", "value", "[B"), .null), (("java/lang/String", "coder", "B"), .int 0)]))] [(b, aO .char [])] (fun v O' FN => ∃ b', v = none ∧ O' = [(a, .inl ("java/lang/String", [(("java/lang/String", "value", "[B"), .ref b'), (("java/lang/String", "coder", "B"), .int 0)]))] ∧ FN = [(b', aO .byte [])]) := by
  have hw := G.1
  refine Con.intro (own := "java/lang/String") (name := "<init>") (plainFor_of_name pn1) rfl rfl ⟨_, G.2.1⟩ #[.val (.ref a), .val (.ref b), .val (.int 0), .val (.int 0), .val (.null), .unset] rfl ?_
  intro p e s m below meth c T N
  refine N.aloadN (pc := 0) d3_0 rfl rfl ?_
  refine N.objInit (pc := 1) d3_1 (w12 hw) (w13 hw) (w14 hw) rfl (Nat.le_of_ble_eq_true rfl) (Nat.le_of_ble_eq_true rfl) fun T N => ?_
  refine N.iloadN (pc := 4) d3_4 rfl ?_
  refine N.ifneF (pc := 5) d3_5 rfl ?_
  refine N.aloadN (pc := 8) d3_8 rfl rfl ?_
  refine N.ldc (pc := 9) (nn := 0) (text := "") (vs := []) (z := 0) d3_9 (w49 hw) G.wS G.2.1 (List.mem_of_getElem? (i := 2) rfl) rfl G.sl ⟨by decide +kernel, by decide +kernel⟩ (by decide) rfl (by decide +kernel) (by decide) (Nat.le_of_ble_eq_true rfl) (Nat.le_of_ble_eq_true rfl) fun s1 t2 vm T N => ?_
  replace N := N.cast3 (O' := [(a, .inl ("java/lang/String", [(("java/lang/String", "value", "[B"), .null), (("java/lang/String", "coder", "B"), .int 0)]))]) (RO' := [(b, aO .char [])]) (FZ' := [(s1, sO t2), (t2, aO .byte [])]) rfl rfl rfl
  refine N.getfield (pc := 11) 2 d3_11 (w29 hw) Via.refl rfl (List.mem_of_getElem? (i := 0) rfl) fun T N => ?_
  refine N.putfield (pc := 14) (O' := [(a, .inl ("java/lang/String", [(("java/lang/String", "value", "[B"), .ref t2), (("java/lang/String", "coder", "B"), .int 0)]))]) 0 0 d3_14 (w29 hw) Via.refl (Or.inr ⟨(w30 hw), rfl, rfl⟩) (w3 hw) rfl rfl (ty := (.array .byte)) (by decide) rfl rfl rfl fun T N => ?_
  refine N.aloadN (pc := 17) d3_17 rfl rfl ?_
  refine N.ldc (pc := 18) (nn := 0) (text := "") (vs := []) (z := 0) d3_18 (w49 hw) G.wS G.2.1 (List.mem_of_getElem? (i := 2) rfl) rfl G.sl ⟨by decide +kernel, by decide +kernel⟩ (by decide) rfl (by decide +kernel) (by decide) (Nat.le_of_ble_eq_true rfl) (Nat.le_of_ble_eq_true rfl) fun s3 t4 vm T N => ?_
  replace N := N.cast3 (O' := [(a, .inl ("java/lang/String", [(("java/lang/String", "value", "[B"), .ref t2), (("java/lang/String", "coder", "B"), .int 0)]))]) (RO' := [(b, aO .char [])]) (FZ' := [(s1, sO t2), (t2, aO .byte []), (s3, sO t4), (t4, aO .byte [])]) rfl rfl rfl
  refine N.getfield (pc := 20) 4 d3_20 (w27 hw) Via.refl rfl (List.mem_of_getElem? (i := 1) rfl) fun T N => ?_
  refine N.putfield (pc := 23) (O' := [(a, .inl ("java/lang/String", [(("java/lang/String", "value", "[B"), .ref t2), (("java/lang/String", "coder", "B"), .int 0)]))]) 0 1 d3_23 (w27 hw) Via.refl (Or.inr ⟨(w28 hw), rfl, rfl⟩) (w3 hw) rfl rfl (ty := .byte) (by decide) rfl rfl rfl fun T N => ?_
  exact N.retV (pc := 26) [(t2, aO .byte [])] (fun _ h => h) (List.forall_mem_cons.mpr ⟨List.mem_of_getElem? (i := 1) rfl, (List.forall_mem_nil _)⟩) (Nat.le_of_ble_eq_true rfl) (Nat.le_of_ble_eq_true rfl) d3_26 rfl ⟨t2, rfl, rfl, rfl⟩

set_option maxRecDepth 65536 in
set_option maxHeartbeats 4000000 in
theorem c_init3e {l : Launch} {Z : State} {a0 : Array Value} (G : Glob Z a0) {a b : Addr} : Con NR ELs l Z (⟨"java/lang/String", "<init>", "([C)V"⟩ : MethodName) jdk_42_method_3_code 2 (Option.none : Option Jvm.ClassFile.FieldType) ({ frames := 2, cells := 4, slots := 8, locals := 29 } : Room) [.ref a, .ref b] [(a, .inl ("java/lang/String", [(("java/lang/String", "value", "[B"), .null), (("java/lang/String", "coder", "B"), .int 0)]))] [(b, aO .char [])] (fun v O' FN => ∃ b', v = none ∧ O' = [(a, .inl ("java/lang/String", [(("java/lang/String", "value", "[B"), .ref b'), (("java/lang/String", "coder", "B"), .int 0)]))] ∧ FN = [(b', aO .byte [])]) := by
  have hw := G.1
  refine Con.intro (own := "java/lang/String") (name := "<init>") (plainFor_of_name pn1) rfl rfl ⟨_, G.2.1⟩ #[.val (.ref a), .val (.ref b)] rfl ?_
  intro p e s m below meth c T N
  refine N.aloadN (pc := 0) d4_0 rfl rfl ?_
  refine N.aloadN (pc := 1) d4_1 rfl rfl ?_
  refine N.iconst (pc := 2) 0 d4_2 rfl ?_
  refine N.aloadN (pc := 3) d4_3 rfl rfl ?_
  refine N.arraylength (pc := 4) 0 1 d4_4 rfl rfl ?_
  refine N.aconst (pc := 5) d4_5 ?_
  refine N.callI (pc := 6) (c_init149e G (a := a) (b := b)) [0] [1] d4_6 rfl (w8 hw) (w9 hw) (w4 hw) (w11 hw) (by decide) pd3 rfl (st := []) rfl rfl rfl (by decide) (by decide) (ltAll rfl) rfl (Nat.le_of_ble_eq_true rfl) (Nat.le_of_ble_eq_true rfl) (Nat.le_of_ble_eq_true rfl) (Nat.le_of_ble_eq_true rfl) fun v O' FN vm T hQ N => ?_
  obtain ⟨b', rfl, rfl, rfl⟩ := hQ
  replace N := N.cast3 (O' := [(a, .inl ("java/lang/String", [(("java/lang/String", "value", "[B"), .ref b'), (("java/lang/String", "coder", "B"), .int 0)]))]) (RO' := [(b, aO .char [])]) (FZ' := [(b', aO .byte [])]) rfl rfl rfl
  show Goes p e below _ (T.setTop (mkF m 9 #[.val (.ref a), .val (.ref b)] []))
  exact N.retV (pc := 9) [(b', aO .byte [])] (fun _ h => h) (List.forall_mem_cons.mpr ⟨List.mem_of_getElem? (i := 0) rfl, (List.forall_mem_nil _)⟩) (Nat.le_of_ble_eq_true rfl) (Nat.le_of_ble_eq_true rfl) d4_9 rfl ⟨b', rfl, rfl, rfl⟩

set_option maxRecDepth 65536 in
set_option maxHeartbeats 4000000 in
theorem c_canEncode {l : Launch} {Z : State} {a0 : Array Value} (G : Glob Z a0) {x : Int32} (hx : Lat x) : Con NR ELs l Z (⟨"java/lang/StringLatin1", "canEncode", "(C)Z"⟩ : MethodName) jdk_43_method_3_code 1 (Option.some Jvm.ClassFile.FieldType.boolean) ({ frames := 0, cells := 0, slots := 0, locals := 0 } : Room) [.int x] [] [] (fun v O' FN => v = some (.int 1) ∧ O' = [] ∧ FN = []) := by
  have hw := G.1
  refine Con.intro (own := "java/lang/StringLatin1") (name := "canEncode") (plainFor_of_name pn2) rfl rfl ⟨_, G.2.1⟩ #[.val (.int x)] rfl ?_
  intro p e s m below meth c T N
  refine N.iloadN (pc := 0) d5_0 rfl ?_
  refine N.sipush (pc := 1) 255 d5_1 rfl ?_
  refine N.icmpgtF (pc := 4) d5_4 (lat_le hx) ?_
  refine N.iconst (pc := 7) 1 d5_7 rfl ?_
  refine N.goto (pc := 8) (pc' := 12) d5_8 rfl ?_
  exact N.ireturn (pc := 12) [] (fun _ h => h) (List.forall_mem_nil _) (Nat.le_of_ble_eq_true rfl) (Nat.le_of_ble_eq_true rfl) (t := .boolean) d5_12 rfl (by simp) rfl ⟨rfl, rfl, rfl⟩

set_option maxRecDepth 65536 in
set_option maxHeartbeats 4000000 in
theorem c_toBytes {l : Launch} {Z : State} {a0 : Array Value} (G : Glob Z a0) {x : Int32} : Con NR ELs l Z (⟨"java/lang/StringLatin1", "toBytes", "(C)[B"⟩ : MethodName) jdk_43_method_46_code 1 (Option.some (Jvm.ClassFile.FieldType.array Jvm.ClassFile.FieldType.byte)) ({ frames := 0, cells := 1, slots := 1, locals := 0 } : Room) [.int x] [] [] (fun v O' FN => ∃ b, v = some (.ref b) ∧ O' = [(b, aO .byte [.int (by8 x)])] ∧ FN = []) := by
  have hw := G.1
  refine Con.intro (own := "java/lang/StringLatin1") (name := "toBytes") (plainFor_of_name pn2) rfl rfl ⟨_, G.2.1⟩ #[.val (.int x)] rfl ?_
  intro p e s m below meth c T N
  refine N.iconst (pc := 0) 1 d6_0 rfl ?_
  refine N.newarray (pc := 1) 1 1 d6_1 (w20 hw) rfl (by decide) (Nat.le_of_ble_eq_true rfl) (Nat.le_of_ble_eq_true rfl) (Nat.le_of_ble_eq_true rfl) (Nat.le_of_ble_eq_true rfl) fun a5 T l_a5 N => ?_
  replace N := N.cast (O' := [(a5, aO .byte [.int 0])]) rfl
  refine N.dup (pc := 3) d6_3 rfl ?_
  refine N.iconst (pc := 4) 0 d6_4 rfl ?_
  refine N.iloadN (pc := 5) d6_5 rfl ?_
  refine N.i2b (pc := 6) d6_6 ?_
  refine N.bastore (pc := 7) (O' := [(a5, aO .byte [.int (by8 x)])]) 0 0 d6_7 rfl rfl (by decide) (Nat.le_of_ble_eq_true rfl) by8_store rfl fun T N => ?_
  exact N.areturn (pc := 8) [] (fun _ h => h) (List.forall_mem_nil _) (Nat.le_of_ble_eq_true rfl) (Nat.le_of_ble_eq_true rfl) (t := (.array .byte)) d6_8 rfl rfl rfl rfl ⟨_, rfl, rfl, rfl⟩

set_option maxRecDepth 65536 in
set_option maxHeartbeats 4000000 in
theorem c_initBB {l : Launch} {Z : State} {a0 : Array Value} (G : Glob Z a0) {a b : Addr} : Con NR ELs l Z (⟨"java/lang/String", "<init>", "([BB)V"⟩ : MethodName) jdk_42_method_151_code 3 (Option.none : Option Jvm.ClassFile.FieldType) ({ frames := 1, cells := 0, slots := 0, locals := 12 } : Room) [.ref a, .ref b, .int 0] [(a, .inl ("java/lang/String", [(("java/lang/String", "value", "[B"), .null), (("java/lang/String", "coder", "B"), .int 0)]))] [] (fun v O' FN => v = none ∧ O' = [(a, .inl ("java/lang/String", [(("java/lang/String", "value", "[B"), .ref b), (("java/lang/String", "coder", "B"), .int 0)]))] ∧ FN = []) := by
  have hw := G.1
  refine Con.intro (own := "java/lang/String") (name := "<init>") (plainFor_of_name pn1) rfl rfl ⟨_, G.2.1⟩ #[.val (.ref a), .val (.ref b), .val (.int 0)] rfl ?_
  intro p e s m below meth c T N
  refine N.aloadN (pc := 0) d7_0 rfl rfl ?_
  refine N.objInit (pc := 1) d7_1 (w12 hw) (w13 hw) (w14 hw) rfl (Nat.le_of_ble_eq_true rfl) (Nat.le_of_ble_eq_true rfl) fun T N => ?_
  refine N.aloadN (pc := 4) d7_4 rfl rfl ?_
  refine N.aloadN (pc := 5) d7_5 rfl rfl ?_
  refine N.putfield (pc := 6) (O' := [(a, .inl ("java/lang/String", [(("java/lang/String", "value", "[B"), .ref b), (("java/lang/String", "coder", "B"), .int 0)]))]) 0 0 d7_6 (w29 hw) Via.refl (Or.inr ⟨(w30 hw), rfl, rfl⟩) (w3 hw) rfl rfl (ty := (.array .byte)) (by decide) rfl rfl rfl fun T N => ?_
  refine N.aloadN (pc := 9) d7_9 rfl rfl ?_
  refine N.iloadN (pc := 10) d7_10 rfl ?_
  refine N.putfield (pc := 11) (O' := [(a, .inl ("java/lang/String", [(("java/lang/String", "value", "[B"), .ref b), (("java/lang/String", "coder", "B"), .int 0)]))]) 0 1 d7_11 (w27 hw) Via.refl (Or.inr ⟨(w28 hw), rfl, rfl⟩) (w3 hw) rfl rfl (ty := .byte) (by decide) rfl rfl rfl fun T N => ?_
  exact N.retV (pc := 14) [] (fun _ h => h) (List.forall_mem_nil _) (Nat.le_of_ble_eq_true rfl) (Nat.le_of_ble_eq_true rfl) d7_14 rfl ⟨rfl, rfl, rfl⟩

set_option maxRecDepth 65536 in
set_option maxHeartbeats 4000000 in
theorem c_valueOf {l : Launch} {Z : State} {a0 : Array Value} (G : Glob Z a0) {x : Int32} (hx : Lat x) : Con NR ELs l Z (⟨"java/lang/String", "valueOf", "(C)Ljava/lang/String;"⟩ : MethodName) jdk_42_method_139_code 1 (Option.some (Jvm.ClassFile.FieldType.object "java/lang/String")) ({ frames := 2, cells := 2, slots := 5, locals := 27 } : Room) [.int x] [] [] (fun v O' FN => ∃ a, v = some (.ref a) ∧ O' = [] ∧ FN = [(a, tO [x])]) := by
  have hw := G.1
  refine Con.intro (own := "java/lang/String") (name := "valueOf") (plainFor_of_name pn1) rfl rfl ⟨_, G.2.1⟩ #[.val (.int x)] rfl ?_
  intro p e s m below meth c T N
  obtain ⟨cv, hcv, hS⟩ := G.compact
  refine N.getstatic (pc := 0) d8_0 (w15 hw) Via.refl hS fun T N => ?_
  refine N.ifeqF (pc := 3) d8_3 hcv ?_
  refine N.iloadN (pc := 6) d8_6 rfl ?_
  refine N.callS (pc := 7) (c_canEncode G (x := x) hx) [] [] d8_7 (w53 hw) (w54 hw) (w46 hw) (w55 hw) (by decide) pd4 rfl (st := []) rfl rfl rfl (by decide) (by decide) (ltAll rfl) rfl (Nat.le_of_ble_eq_true rfl) (Nat.le_of_ble_eq_true rfl) (Nat.le_of_ble_eq_true rfl) (Nat.le_of_ble_eq_true rfl) fun v O' FN vm T hQ N => ?_
  obtain ⟨rfl, rfl, rfl⟩ := hQ
  replace N := N.cast3 (O' := []) (RO' := []) (FZ' := []) rfl rfl rfl
  show Goes p e below _ (T.setTop (mkF m 10 #[.val (.int x)] [.int 1]))
  refine N.ifeqF (pc := 10) d8_10 (by decide) ?_
  refine N.new (pc := 13) d8_13 (w43 hw) (w3 hw) (w4 hw) (lay_java_lang_String hw) (Nat.le_of_ble_eq_true rfl) (Nat.le_of_ble_eq_true rfl) fun a6 T l_a6 N => ?_
  replace N := N.cast (O' := [(a6, .inl ("java/lang/String", [(("java/lang/String", "value", "[B"), .null), (("java/lang/String", "coder", "B"), .int 0)]))]) rfl
  refine N.dup (pc := 16) d8_16 rfl ?_
  refine N.iloadN (pc := 17) d8_17 rfl ?_
  refine N.callS (pc := 18) (c_toBytes G (x := x)) [] [] d8_18 (w56 hw) (w57 hw) (w46 hw) (w58 hw) (by decide) pd5 rfl (st := [.ref a6, .ref a6]) rfl rfl rfl (by decide) (by decide) (ltAll rfl) rfl (Nat.le_of_ble_eq_true rfl) (Nat.le_of_ble_eq_true rfl) (Nat.le_of_ble_eq_true rfl) (Nat.le_of_ble_eq_true rfl) fun v O' FN vm T hQ N => ?_
  obtain ⟨b, rfl, rfl, rfl⟩ := hQ
  replace N := N.cast3 (O' := [(a6, .inl ("java/lang/String", [(("java/lang/String", "value", "[B"), .null), (("java/lang/String", "coder", "B"), .int 0)])), (b, aO .byte [.int (by8 x)])]) (RO' := []) (FZ' := []) rfl rfl rfl
  show Goes p e below _ (T.setTop (mkF m 21 #[.val (.int x)] [.ref b, .ref a6, .ref a6]))
  refine N.iconst (pc := 21) 0 d8_21 rfl ?_
  refine N.callI (pc := 22) (c_initBB G (a := a6) (b := b)) [0] [] d8_22 rfl (w59 hw) (w60 hw) (w4 hw) (w61 hw) (by decide) pd6 rfl (st := [.ref a6]) rfl rfl rfl (by decide) (by decide) (ltAll rfl) rfl (Nat.le_of_ble_eq_true rfl) (Nat.le_of_ble_eq_true rfl) (Nat.le_of_ble_eq_true rfl) (Nat.le_of_ble_eq_true rfl) fun v O' FN vm T hQ N => ?_
  obtain ⟨rfl, rfl, rfl⟩ := hQ
  replace N := N.cast3 (O' := [(a6, .inl ("java/lang/String", [(("java/lang/String", "value", "[B"), .ref b), (("java/lang/String", "coder", "B"), .int 0)])), (b, aO .byte [.int (by8 x)])]) (RO' := []) (FZ' := []) rfl rfl rfl
  show Goes p e below _ (T.setTop (mkF m 25 #[.val (.int x)] [.ref a6]))
  replace N := N.freeze (O' := [(b, aO .byte [.int (by8 x)])]) 0 rfl (Nat.le_of_ble_eq_true rfl) rfl
  replace N := N.freeze (O' := []) 0 rfl (Nat.le_of_ble_eq_true rfl) rfl
  replace N := N.str (cs := [x]) 0 1 rfl rfl (fun y hy => by rw [List.mem_singleton.mp hy]; exact hx)
  replace N := N.cast3 (O' := []) (RO' := []) (FZ' := [(a6, .inl ("java/lang/String", [(("java/lang/String", "value", "[B"), .ref b), (("java/lang/String", "coder", "B"), .int 0)])), (b, aO .byte [.int (by8 x)]), (a6, tO ([x]))]) rfl rfl rfl
  exact N.areturn (pc := 25) [(a6, tO ([x]))] (fun _ h => h) (List.forall_mem_cons.mpr ⟨List.mem_of_getElem? (i := 2) rfl, (List.forall_mem_nil _)⟩) (Nat.le_of_ble_eq_true rfl) (Nat.le_of_ble_eq_true rfl) (t := (.object "java/lang/String")) d8_25 rfl rfl rfl rfl ⟨_, rfl, rfl, rfl⟩

set_option maxRecDepth 65536 in
set_option maxHeartbeats 4000000 in
theorem c_latEquals {l : Launch} {Z : State} {a0 : Array Value} (G : Glob Z a0) {a b : Addr} {xs ys : List Int32} (hxl : xs.length < 2 ^ 31) (hyl : ys.length < 2 ^ 31) : Con NR ELs l Z (⟨"java/lang/StringLatin1", "equals", "([B[B)Z"⟩ : MethodName) jdk_43_method_13_code 3 (Option.some Jvm.ClassFile.FieldType.boolean) ({ frames := 0, cells := 0, slots := 0, locals := 0 } : Room) [.ref a, .ref b] [] [(a, aO .byte (xs.map Value.int)), (b, aO .byte (ys.map Value.int))] (fun v O' FN => v = some (.int (if xs = ys then 1 else 0)) ∧ O' = [] ∧ FN = []) := by
  have hw := G.1
  refine Con.intro (own := "java/lang/StringLatin1") (name := "equals") (plainFor_of_name pn2) rfl rfl ⟨_, G.2.1⟩ #[.val (.ref a), .val (.ref b), .unset] rfl ?_
  intro p e s m below meth c T N
  refine N.aloadN (pc := 0) d9_0 rfl rfl ?_
  refine N.arraylength (pc := 1) xs.length.toInt32 0 d9_1 rfl (by simp) ?_
  refine N.aloadN (pc := 2) d9_2 rfl rfl ?_
  refine N.arraylength (pc := 3) ys.length.toInt32 1 d9_3 rfl (by simp) ?_
  by_cases hlen : xs.length.toInt32 = ys.length.toInt32
  · refine N.icmpneF (pc := 4) d9_4 hlen ?_
    have hlen' : xs.length = ys.length := (n_eq (by omega) (by omega)).mp hlen
    have loop : ∀ (r i : Nat) (T : State), i + r = xs.length → xs.take i = ys.take i → Now NR ELs Z "java/lang/StringLatin1" "equals" jdk_43_method_13_code 3 (Option.some Jvm.ClassFile.FieldType.boolean) p l e ({ frames := 0, cells := 0, slots := 0, locals := 0 } : Room) s m ([.ref a, .ref b] : List Value).toArray below meth c [] s.vm T 0 0 [] [(a, aO .byte (xs.map Value.int)), (b, aO .byte (ys.map Value.int))] [] →
        Goes p e below (Jvm.Own.Out NR ELs Z [] [(a, aO .byte (xs.map Value.int)), (b, aO .byte (ys.map Value.int))] (fun v O' FN => v = some (.int (if xs = ys then 1 else 0)) ∧ O' = [] ∧ FN = []) (({ frames := 0, cells := 0, slots := 0, locals := 0 } : Room) : Room).cells (({ frames := 0, cells := 0, slots := 0, locals := 0 } : Room) : Room).slots s) (T.setTop (mkF m 9 #[.val (.ref a), .val (.ref b), .val (.int i.toInt32)] [])) := by
      intro r
      induction r with
      | zero =>
        intro i T hi ht N
        obtain rfl : i = xs.length := by omega
        have heq : xs = ys := by rw [List.take_length, hlen', List.take_length] at ht; exact ht
        refine N.iloadN (pc := 9) d9_9 rfl ?_
        refine N.aloadN (pc := 10) d9_10 rfl rfl ?_
        refine N.arraylength (pc := 11) xs.length.toInt32 0 d9_11 rfl (by simp) ?_
        refine N.icmpgeT (pc := 12) (pc' := 32) d9_12 rfl Int32.lt_irrefl ?_
        refine N.iconst (pc := 32) 1 d9_32 rfl ?_
        exact N.ireturn (pc := 33) [] (fun _ h => h) (List.forall_mem_nil _) (Nat.le_of_ble_eq_true rfl) (Nat.le_of_ble_eq_true rfl) (t := .boolean) d9_33 rfl (by simp) rfl ⟨by rw [if_pos heq], rfl, rfl⟩
      | succ r ih =>
        intro i T hi ht N
        have hlt : i < xs.length := by omega
        have hlt' : i < ys.length := by omega
        have hi31 : i < 2 ^ 31 := by omega
        refine N.iloadN (pc := 9) d9_9 rfl ?_
        refine N.aloadN (pc := 10) d9_10 rfl rfl ?_
        refine N.arraylength (pc := 11) xs.length.toInt32 0 d9_11 rfl (by simp) ?_
        refine N.icmpgeF (pc := 12) d9_12 ((n_lt hi31 (by omega)).mpr hlt) ?_
        refine N.aloadN (pc := 15) d9_15 rfl rfl ?_
        refine N.iloadN (pc := 16) d9_16 rfl ?_
        refine N.baload (pc := 17) (v := .int xs[i]) 0 i d9_17 rfl (n_nat hi31) (n_nneg hi31) (by simp [hlt]) ?_
        refine N.aloadN (pc := 18) d9_18 rfl rfl ?_
        refine N.iloadN (pc := 19) d9_19 rfl ?_
        refine N.baload (pc := 20) (v := .int ys[i]) 1 i d9_20 rfl (n_nat hi31) (n_nneg hi31) (by simp [hlt']) ?_
        by_cases hx : (xs[i]) = (ys[i])
        · refine N.icmpeqT (pc := 21) (pc' := 26) d9_21 rfl hx ?_
          refine N.iinc (pc := 26) (l' := #[.val (.ref a), .val (.ref b), .val (.int (i.toInt32 + 1))]) 1 d9_26 rfl rfl rfl ?_
          rw [n_succ]
          refine N.goto (pc := 29) (pc' := 9) d9_29 rfl ?_
          exact ih (i + 1) T (by omega) (by rw [List.take_succ_eq_append_getElem hlt, List.take_succ_eq_append_getElem hlt', ht, hx]) N
        · refine N.icmpeqF (pc := 21) d9_21 hx ?_
          have hne : ¬ xs = ys := fun z => hx (by simp [z])
          refine N.iconst (pc := 24) 0 d9_24 rfl ?_
          exact N.ireturn (pc := 25) [] (fun _ h => h) (List.forall_mem_nil _) (Nat.le_of_ble_eq_true rfl) (Nat.le_of_ble_eq_true rfl) (t := .boolean) d9_25 rfl (by simp) rfl ⟨by rw [if_neg hne], rfl, rfl⟩
    refine N.iconst (pc := 7) 0 d9_7 rfl ?_
    refine N.istoreN (pc := 8) (l' := #[.val (.ref a), .val (.ref b), .val (.int 0)]) d9_8 rfl ?_
    exact loop xs.length 0 T (by omega) rfl N
  · refine N.icmpneT (pc := 4) (pc' := 34) d9_4 rfl hlen ?_
    have hne : ¬ xs = ys := fun q => hlen (by rw [q])
    refine N.iconst (pc := 34) 0 d9_34 rfl ?_
    exact N.ireturn (pc := 35) [] (fun _ h => h) (List.forall_mem_nil _) (Nat.le_of_ble_eq_true rfl) (Nat.le_of_ble_eq_true rfl) (t := .boolean) d9_35 rfl (by simp) rfl ⟨by rw [if_neg hne], rfl, rfl⟩

set_option maxRecDepth 65536 in
set_option maxHeartbeats 4000000 in
theorem c_equals {l : Launch} {Z : State} {a0 : Array Value} (G : Glob Z a0) {a a2 : Addr} {xs ys : List Int32} : Con NR ELs l Z (⟨"java/lang/String", "equals", "(Ljava/lang/Object;)Z"⟩ : MethodName) jdk_42_method_66_code 3 (Option.some Jvm.ClassFile.FieldType.boolean) ({ frames := 1, cells := 0, slots := 0, locals := 14 } : Room) [.ref a, .ref a2] [] [(a, tO xs), (a2, tO ys)] (fun v O' FN => v = some (.int (if xs = ys then 1 else 0)) ∧ O' = [] ∧ FN = []) := by
  have hw := G.1
  refine Con.intro (own := "java/lang/String") (name := "equals") (plainFor_of_name pn1) rfl rfl ⟨_, G.2.1⟩ #[.val (.ref a), .val (.ref a2), .unset] rfl ?_
  intro p e s m below meth c T N
  obtain ⟨hc_a, b, N⟩ := N.openR 0 rfl
  replace N := N.cast3 (O' := []) (RO' := [(a, tO xs), (a2, tO ys), (a, sO b), (b, aO .byte (((xs).map by8).map Value.int))]) (FZ' := []) rfl rfl rfl
  obtain ⟨hc_a2, b2, N⟩ := N.openR 1 rfl
  replace N := N.cast3 (O' := []) (RO' := [(a, tO xs), (a2, tO ys), (a, sO b), (b, aO .byte (((xs).map by8).map Value.int)), (a2, sO b2), (b2, aO .byte (((ys).map by8).map Value.int))]) (FZ' := []) rfl rfl rfl
  have hxl : xs.length < 2 ^ 31 := len_str (N.is (i := 3) rfl)
  have hyl : ys.length < 2 ^ 31 := len_str (N.is (i := 5) rfl)
  refine N.aloadN (pc := 0) d10_0 rfl rfl ?_
  refine N.aloadN (pc := 1) d10_1 rfl rfl ?_
  by_cases hsame : (.ref a : Value) = (.ref a2 : Value)
  · refine N.acmpneF (pc := 2) d10_2 rfl rfl hsame ?_
    obtain rfl : a = a2 := by simpa using hsame
    have hb : b = b2 := str_same (N.is (i := 2) rfl) (N.is (i := 4) rfl)
    subst hb
    have he : xs = ys := map_by8 hc_a hc_a2 (ar_same (N.is (i := 3) rfl) (N.is (i := 5) rfl))
    refine N.iconst (pc := 5) 1 d10_5 rfl ?_
    exact N.ireturn (pc := 6) [] (List.forall_mem_cons.mpr ⟨List.mem_of_getElem? (i := 0) rfl, (List.forall_mem_cons.mpr ⟨List.mem_of_getElem? (i := 1) rfl, (List.forall_mem_nil _)⟩)⟩) (List.forall_mem_nil _) (Nat.le_of_ble_eq_true rfl) (Nat.le_of_ble_eq_true rfl) (t := .boolean) d10_6 rfl (by simp) rfl ⟨by rw [if_pos he], rfl, rfl⟩
  · refine N.acmpneT (pc := 2) (pc' := 7) d10_2 rfl rfl rfl hsame ?_
    refine N.aloadN (pc := 7) d10_7 rfl rfl ?_
    refine N.instY (pc := 8) 4 d10_8 (w43 hw) (w10 hw) rfl fun T N => ?_
    refine N.ifeqF (pc := 11) d10_11 (by decide) ?_
    refine N.aloadN (pc := 14) d10_14 rfl rfl ?_
    refine N.checkcast (pc := 15) 4 d10_15 (w43 hw) (w10 hw) rfl fun T N => ?_
    refine N.astoreN (pc := 18) (l' := #[.val (.ref a), .val (.ref a2), .val (.ref a2)]) d10_18 rfl rfl ?_
    obtain ⟨cv, hcv, hS⟩ := G.compact
    refine N.getstatic (pc := 19) d10_19 (w15 hw) Via.refl hS fun T N => ?_
    refine N.ifeqF (pc := 22) d10_22 hcv ?_
    refine N.aloadN (pc := 25) d10_25 rfl rfl ?_
    refine N.getfield (pc := 26) 2 d10_26 (w27 hw) Via.refl rfl (List.mem_of_getElem? (i := 1) rfl) fun T N => ?_
    refine N.aloadN (pc := 29) d10_29 rfl rfl ?_
    refine N.getfield (pc := 30) 4 d10_30 (w27 hw) Via.refl rfl (List.mem_of_getElem? (i := 1) rfl) fun T N => ?_
    refine N.icmpneF (pc := 33) d10_33 rfl ?_
    refine N.aloadN (pc := 36) d10_36 rfl rfl ?_
    refine N.getfield (pc := 37) 2 d10_37 (w29 hw) Via.refl rfl (List.mem_of_getElem? (i := 0) rfl) fun T N => ?_
    refine N.aloadN (pc := 40) d10_40 rfl rfl ?_
    refine N.getfield (pc := 41) 4 d10_41 (w29 hw) Via.refl rfl (List.mem_of_getElem? (i := 0) rfl) fun T N => ?_
    refine N.callS (pc := 44) (c_latEquals G (a := b) (b := b2) (xs := xs.map by8) (ys := ys.map by8) (by rw [List.length_map]; exact hxl) (by rw [List.length_map]; exact hyl)) [] [3, 5] d10_44 (w44 hw) (w45 hw) (w46 hw) (w47 hw) (by decide) pd7 rfl (st := []) rfl rfl rfl (by decide) (by decide) (ltAll rfl) rfl (Nat.le_of_ble_eq_true rfl) (Nat.le_of_ble_eq_true rfl) (Nat.le_of_ble_eq_true rfl) (Nat.le_of_ble_eq_true rfl) fun v O' FN vm T hQ N => ?_
    obtain ⟨rfl, rfl, rfl⟩ := hQ
    replace N := N.cast3 (O' := []) (RO' := [(a, tO xs), (a2, tO ys), (a, sO b), (b, aO .byte (((xs).map by8).map Value.int)), (a2, sO b2), (b2, aO .byte (((ys).map by8).map Value.int))]) (FZ' := []) rfl rfl rfl
    show Goes p e below _ (T.setTop (mkF m 47 #[.val (.ref a), .val (.ref a2), .val (.ref a2)] [.int (if xs.map by8 = ys.map by8 then 1 else 0)]))
    by_cases heq : xs = ys
    · rw [if_pos (show xs.map by8 = ys.map by8 by rw [heq])]
      refine N.ifeqF (pc := 47) d10_47 (by decide) ?_
      refine N.iconst (pc := 50) 1 d10_50 rfl ?_
      refine N.goto (pc := 51) (pc' := 55) d10_51 rfl ?_
      exact N.ireturn (pc := 55) [] (List.forall_mem_cons.mpr ⟨List.mem_of_getElem? (i := 0) rfl, (List.forall_mem_cons.mpr ⟨List.mem_of_getElem? (i := 1) rfl, (List.forall_mem_nil _)⟩)⟩) (List.forall_mem_nil _) (Nat.le_of_ble_eq_true rfl) (Nat.le_of_ble_eq_true rfl) (t := .boolean) d10_55 rfl (by simp) rfl ⟨by rw [if_pos heq], rfl, rfl⟩
    · rw [if_neg (show ¬ xs.map by8 = ys.map by8 from fun q => heq (map_by8 hc_a hc_a2 q))]
      refine N.ifeqT (pc := 47) (pc' := 54) d10_47 rfl rfl ?_
      refine N.iconst (pc := 54) 0 d10_54 rfl ?_
      exact N.ireturn (pc := 55) [] (List.forall_mem_cons.mpr ⟨List.mem_of_getElem? (i := 0) rfl, (List.forall_mem_cons.mpr ⟨List.mem_of_getElem? (i := 1) rfl, (List.forall_mem_nil _)⟩)⟩) (List.forall_mem_nil _) (Nat.le_of_ble_eq_true rfl) (Nat.le_of_ble_eq_true rfl) (t := .boolean) d10_55 rfl (by simp) rfl ⟨by rw [if_neg heq], rfl, rfl⟩

set_option maxRecDepth 65536 in
set_option maxHeartbeats 4000000 in
theorem c_equalsNull {l : Launch} {Z : State} {a0 : Array Value} (G : Glob Z a0) {a : Addr} : Con NR ELs l Z (⟨"java/lang/String", "equals", "(Ljava/lang/Object;)Z"⟩ : MethodName) jdk_42_method_66_code 3 (Option.some Jvm.ClassFile.FieldType.boolean) ({ frames := 0, cells := 0, slots := 0, locals := 0 } : Room) [.ref a, .null] [] [] (fun v O' FN => v = some (.int 0) ∧ O' = [] ∧ FN = []) := by
  have hw := G.1
  refine Con.intro (own := "java/lang/String") (name := "equals") (plainFor_of_name pn1) rfl rfl ⟨_, G.2.1⟩ #[.val (.ref a), .val (.null), .unset] rfl ?_
  intro p e s m below meth c T N
  refine N.aloadN (pc := 0) d10_0 rfl rfl ?_
  refine N.aloadN (pc := 1) d10_1 rfl rfl ?_
  refine N.acmpneT (pc := 2) (pc' := 7) d10_2 rfl rfl rfl (by simp) ?_
  refine N.aloadN (pc := 7) d10_7 rfl rfl ?_
  refine N.instNull (pc := 8) d10_8 ?_
  refine N.ifeqT (pc := 11) (pc' := 54) d10_11 rfl rfl ?_
  refine N.iconst (pc := 54) 0 d10_54 rfl ?_
  exact N.ireturn (pc := 55) [] (fun _ h => h) (List.forall_mem_nil _) (Nat.le_of_ble_eq_true rfl) (Nat.le_of_ble_eq_true rfl) (t := .boolean) d10_55 rfl (by simp) rfl ⟨rfl, rfl, rfl⟩

set_option maxRecDepth 65536 in
set_option maxHeartbeats 4000000 in
theorem c_isTimeKey {l : Launch} {Z : State} {a0 : Array Value} (G : Glob Z a0) {a : Addr} {cs : List Int32} : Con NR ELs l Z (⟨"com/example/stratagraph/stratagraph/store/TimeFilter", "isTimeKey", "(Ljava/lang/String;)Z"⟩ : MethodName) prog_12_method_6_code 1 (Option.some Jvm.ClassFile.FieldType.boolean) ({ frames := 2, cells := 4, slots := 72, locals := 28 } : Room) [.ref a] [] [(a, tO cs)] (fun v O' FN => ∃ r : Int32, v = some (.int r) ∧ O' = [] ∧ FN = [] ∧ ((r = 1 ∧ (cs = startCs ∨ cs = endCs)) ∨ (r = 0 ∧ ¬ (cs = startCs ∨ cs = endCs)))) := by
  have hw := G.1
  refine Con.intro (own := "com/example/stratagraph/stratagraph/store/TimeFilter") (name := "isTimeKey") (plainFor_of_name pn3) rfl rfl ⟨_, G.2.1⟩ #[.val (.ref a)] rfl ?_
  intro p e s m below meth c T N
  refine N.ldc (pc := 0) (nn := 36) (text := "startTime") (vs := [.int 115, .int 116, .int 97, .int 114, .int 116, .int 84, .int 105, .int 109, .int 101]) (z := 9) d11_0 (w35 hw) G.wS G.2.1 (List.mem_of_getElem? (i := 0) rfl) rfl G.sl ⟨by decide +kernel, by decide +kernel⟩ (by decide) rfl (by decide +kernel) (by decide) (Nat.le_of_ble_eq_true rfl) (Nat.le_of_ble_eq_true rfl) fun s7 t8 vm T N => ?_
  replace N := N.cast3 (O' := []) (RO' := [(a, tO cs)]) (FZ' := [(s7, sO t8), (t8, aO .byte [.int 115, .int 116, .int 97, .int 114, .int 116, .int 84, .int 105, .int 109, .int 101])]) rfl rfl rfl
  replace N := N.str (cs := startCs) 0 1 rfl rfl lat_start
  replace N := N.cast3 (O' := []) (RO' := [(a, tO cs)]) (FZ' := [(s7, sO t8), (t8, aO .byte [.int 115, .int 116, .int 97, .int 114, .int 116, .int 84, .int 105, .int 109, .int 101]), (s7, tO startCs)]) rfl rfl rfl
  refine N.aloadN (pc := 2) d11_2 rfl rfl ?_
  refine N.callV (pc := 3) (c_equals G (a := s7) (a2 := a) (xs := startCs) (ys := cs)) 1 [] [3, 0] d11_3 (w38 hw) (w39 hw) (w41 hw) (w40 hw) (w4 hw) (w42 hw) rfl (by decide) pd8 rfl (st := []) rfl rfl rfl (by decide) (by decide) (ltAll rfl) rfl (Nat.le_of_ble_eq_true rfl) (Nat.le_of_ble_eq_true rfl) (Nat.le_of_ble_eq_true rfl) (Nat.le_of_ble_eq_true rfl) fun v O' FN vm T hQ N => ?_
  obtain ⟨rfl, rfl, rfl⟩ := hQ
  replace N := N.cast3 (O' := []) (RO' := [(a, tO cs)]) (FZ' := [(s7, sO t8), (t8, aO .byte [.int 115, .int 116, .int 97, .int 114, .int 116, .int 84, .int 105, .int 109, .int 101]), (s7, tO startCs)]) rfl rfl rfl
  show Goes p e below _ (T.setTop (mkF m 6 #[.val (.ref a)] [.int (if startCs = cs then 1 else 0)]))
  by_cases hs : startCs = cs
  · rw [if_pos hs]
    refine N.ifneT (pc := 6) (pc' := 18) d11_6 rfl (by decide) ?_
    refine N.iconst (pc := 18) 1 d11_18 rfl ?_
    refine N.goto (pc := 19) (pc' := 23) d11_19 rfl ?_
    exact N.ireturn (pc := 23) [] (fun _ h => h) (List.forall_mem_nil _) (Nat.le_of_ble_eq_true rfl) (Nat.le_of_ble_eq_true rfl) (t := .boolean) d11_23 rfl (by simp) rfl ⟨1, rfl, rfl, rfl, Or.inl ⟨rfl, Or.inl hs.symm⟩⟩
  · rw [if_neg hs]
    refine N.ifneF (pc := 6) d11_6 rfl ?_
    refine N.ldc (pc := 9) (nn := 28) (text := "endTime") (vs := [.int 101, .int 110, .int 100, .int 84, .int 105, .int 109, .int 101]) (z := 7) d11_9 (w48 hw) G.wS G.2.1 (List.mem_of_getElem? (i := 1) rfl) rfl G.sl ⟨by decide +kernel, by decide +kernel⟩ (by decide) rfl (by decide +kernel) (by decide) (Nat.le_of_ble_eq_true rfl) (Nat.le_of_ble_eq_true rfl) fun s9 t10 vm T N => ?_
    replace N := N.cast3 (O' := []) (RO' := [(a, tO cs)]) (FZ' := [(s7, sO t8), (t8, aO .byte [.int 115, .int 116, .int 97, .int 114, .int 116, .int 84, .int 105, .int 109, .int 101]), (s7, tO startCs), (s9, sO t10), (t10, aO .byte [.int 101, .int 110, .int 100, .int 84, .int 105, .int 109, .int 101])]) rfl rfl rfl
    replace N := N.str (cs := endCs) 3 4 rfl rfl lat_end
    replace N := N.cast3 (O' := []) (RO' := [(a, tO cs)]) (FZ' := [(s7, sO t8), (t8, aO .byte [.int 115, .int 116, .int 97, .int 114, .int 116, .int 84, .int 105, .int 109, .int 101]), (s7, tO startCs), (s9, sO t10), (t10, aO .byte [.int 101, .int 110, .int 100, .int 84, .int 105, .int 109, .int 101]), (s9, tO endCs)]) rfl rfl rfl
    refine N.aloadN (pc := 11) d11_11 rfl rfl ?_
    refine N.callV (pc := 12) (c_equals G (a := s9) (a2 := a) (xs := endCs) (ys := cs)) 4 [] [6, 0] d11_12 (w38 hw) (w39 hw) (w41 hw) (w40 hw) (w4 hw) (w42 hw) rfl (by decide) pd8 rfl (st := []) rfl rfl rfl (by decide) (by decide) (ltAll rfl) rfl (Nat.le_of_ble_eq_true rfl) (Nat.le_of_ble_eq_true rfl) (Nat.le_of_ble_eq_true rfl) (Nat.le_of_ble_eq_true rfl) fun v O' FN vm T hQ N => ?_
    obtain ⟨rfl, rfl, rfl⟩ := hQ
    replace N := N.cast3 (O' := []) (RO' := [(a, tO cs)]) (FZ' := [(s7, sO t8), (t8, aO .byte [.int 115, .int 116, .int 97, .int 114, .int 116, .int 84, .int 105, .int 109, .int 101]), (s7, tO startCs), (s9, sO t10), (t10, aO .byte [.int 101, .int 110, .int 100, .int 84, .int 105, .int 109, .int 101]), (s9, tO endCs)]) rfl rfl rfl
    show Goes p e below _ (T.setTop (mkF m 15 #[.val (.ref a)] [.int (if endCs = cs then 1 else 0)]))
    by_cases he : endCs = cs
    · rw [if_pos he]
      refine N.ifeqF (pc := 15) d11_15 (by decide) ?_
      refine N.iconst (pc := 18) 1 d11_18 rfl ?_
      refine N.goto (pc := 19) (pc' := 23) d11_19 rfl ?_
      exact N.ireturn (pc := 23) [] (fun _ h => h) (List.forall_mem_nil _) (Nat.le_of_ble_eq_true rfl) (Nat.le_of_ble_eq_true rfl) (t := .boolean) d11_23 rfl (by simp) rfl ⟨1, rfl, rfl, rfl, Or.inl ⟨rfl, Or.inr he.symm⟩⟩
    · rw [if_neg he]
      refine N.ifeqT (pc := 15) (pc' := 22) d11_15 rfl rfl ?_
      refine N.iconst (pc := 22) 0 d11_22 rfl ?_
      exact N.ireturn (pc := 23) [] (fun _ h => h) (List.forall_mem_nil _) (Nat.le_of_ble_eq_true rfl) (Nat.le_of_ble_eq_true rfl) (t := .boolean) d11_23 rfl (by simp) rfl ⟨0, rfl, rfl, rfl, Or.inr ⟨rfl, fun q => q.elim (fun q => hs q.symm) (fun q => he q.symm)⟩⟩

set_option maxRecDepth 65536 in
set_option maxHeartbeats 4000000 in
theorem c_isTimeKeyNull {l : Launch} {Z : State} {a0 : Array Value} (G : Glob Z a0)  : Con NR ELs l Z (⟨"com/example/stratagraph/stratagraph/store/TimeFilter", "isTimeKey", "(Ljava/lang/String;)Z"⟩ : MethodName) prog_12_method_6_code 1 (Option.some Jvm.ClassFile.FieldType.boolean) ({ frames := 1, cells := 4, slots := 72, locals := 14 } : Room) [.null] [] [] (fun v O' FN => v = some (.int 0) ∧ O' = [] ∧ FN = []) := by
  have hw := G.1
  refine Con.intro (own := "com/example/stratagraph/stratagraph/store/TimeFilter") (name := "isTimeKey") (plainFor_of_name pn3) rfl rfl ⟨_, G.2.1⟩ #[.val (.null)] rfl ?_
  intro p e s m below meth c T N
  refine N.ldc (pc := 0) (nn := 36) (text := "startTime") (vs := [.int 115, .int 116, .int 97, .int 114, .int 116, .int 84, .int 105, .int 109, .int 101]) (z := 9) d11_0 (w35 hw) G.wS G.2.1 (List.mem_of_getElem? (i := 0) rfl) rfl G.sl ⟨by decide +kernel, by decide +kernel⟩ (by decide) rfl (by decide +kernel) (by decide) (Nat.le_of_ble_eq_true rfl) (Nat.le_of_ble_eq_true rfl) fun s11 t12 vm T N => ?_
  replace N := N.cast3 (O' := []) (RO' := []) (FZ' := [(s11, sO t12), (t12, aO .byte [.int 115, .int 116, .int 97, .int 114, .int 116, .int 84, .int 105, .int 109, .int 101])]) rfl rfl rfl
  refine N.aloadN (pc := 2) d11_2 rfl rfl ?_
  refine N.callV (pc := 3) (c_equalsNull G (a := s11)) 0 [] [] d11_3 (w38 hw) (w39 hw) (w41 hw) (w40 hw) (w4 hw) (w42 hw) rfl (by decide) pd8 rfl (st := []) rfl rfl rfl (by decide) (by decide) (ltAll rfl) rfl (Nat.le_of_ble_eq_true rfl) (Nat.le_of_ble_eq_true rfl) (Nat.le_of_ble_eq_true rfl) (Nat.le_of_ble_eq_true rfl) fun v O' FN vm T hQ N => ?_
  obtain ⟨rfl, rfl, rfl⟩ := hQ
  replace N := N.cast3 (O' := []) (RO' := []) (FZ' := [(s11, sO t12), (t12, aO .byte [.int 115, .int 116, .int 97, .int 114, .int 116, .int 84, .int 105, .int 109, .int 101])]) rfl rfl rfl
  show Goes p e below _ (T.setTop (mkF m 6 #[.val (.null)] [.int 0]))
  refine N.ifneF (pc := 6) d11_6 rfl ?_
  refine N.ldc (pc := 9) (nn := 28) (text := "endTime") (vs := [.int 101, .int 110, .int 100, .int 84, .int 105, .int 109, .int 101]) (z := 7) d11_9 (w48 hw) G.wS G.2.1 (List.mem_of_getElem? (i := 1) rfl) rfl G.sl ⟨by decide +kernel, by decide +kernel⟩ (by decide) rfl (by decide +kernel) (by decide) (Nat.le_of_ble_eq_true rfl) (Nat.le_of_ble_eq_true rfl) fun s13 t14 vm T N => ?_
  replace N := N.cast3 (O' := []) (RO' := []) (FZ' := [(s11, sO t12), (t12, aO .byte [.int 115, .int 116, .int 97, .int 114, .int 116, .int 84, .int 105, .int 109, .int 101]), (s13, sO t14), (t14, aO .byte [.int 101, .int 110, .int 100, .int 84, .int 105, .int 109, .int 101])]) rfl rfl rfl
  refine N.aloadN (pc := 11) d11_11 rfl rfl ?_
  refine N.callV (pc := 12) (c_equalsNull G (a := s13)) 2 [] [] d11_12 (w38 hw) (w39 hw) (w41 hw) (w40 hw) (w4 hw) (w42 hw) rfl (by decide) pd8 rfl (st := []) rfl rfl rfl (by decide) (by decide) (ltAll rfl) rfl (Nat.le_of_ble_eq_true rfl) (Nat.le_of_ble_eq_true rfl) (Nat.le_of_ble_eq_true rfl) (Nat.le_of_ble_eq_true rfl) fun v O' FN vm T hQ N => ?_
  obtain ⟨rfl, rfl, rfl⟩ := hQ
  replace N := N.cast3 (O' := []) (RO' := []) (FZ' := [(s11, sO t12), (t12, aO .byte [.int 115, .int 116, .int 97, .int 114, .int 116, .int 84, .int 105, .int 109, .int 101]), (s13, sO t14), (t14, aO .byte [.int 101, .int 110, .int 100, .int 84, .int 105, .int 109, .int 101])]) rfl rfl rfl
  show Goes p e below _ (T.setTop (mkF m 15 #[.val (.null)] [.int 0]))
  refine N.ifeqT (pc := 15) (pc' := 22) d11_15 rfl rfl ?_
  refine N.iconst (pc := 22) 0 d11_22 rfl ?_
  exact N.ireturn (pc := 23) [] (fun _ h => h) (List.forall_mem_nil _) (Nat.le_of_ble_eq_true rfl) (Nat.le_of_ble_eq_true rfl) (t := .boolean) d11_23 rfl (by simp) rfl ⟨rfl, rfl, rfl⟩

set_option maxRecDepth 65536 in
set_option maxHeartbeats 4000000 in
theorem c_law {l : Launch} {Z : State} {a0 : Array Value} (G : Glob Z a0) (i0 i1 i2 : Int32) : ConW NR ELs l Z tables_1 x code maxLocals ret room_1 [.int i0, .int i1, .int i2] [] [] (fun v O' FN => v = some (.int 1)) := by
  have hw := G.1
  refine Con.intro (own := "com/example/stratagraph/stratagraph/store/TimeFilterIsTimeKeyPinLaw") (name := "law") (plainFor_of_name pn4) rfl rfl ⟨_, G.2.1⟩ #[.val (.int i0), .val (.int i1), .val (.int i2), .unset, .unset, .unset, .unset, .unset, .unset, .unset, .unset, .unset, .unset] rfl ?_
  intro p e s m below meth c T N
  refine N.iloadN (pc := 0) at_0 rfl ?_
  refine N.iconst (pc := 1) 1 at_1 rfl ?_
  refine N.iand (pc := 2) at_2 ?_
  by_cases h0 : (i0 &&& 1) = 0
  · refine N.ifneF (pc := 3) at_3 h0 ?_
    refine N.iconst (pc := 6) 1 at_6 rfl ?_
    refine N.goto (pc := 7) (pc' := 11) at_7 rfl ?_
    refine N.istoreN (pc := 11) (l' := #[.val (.int i0), .val (.int i1), .val (.int i2), .val (.int 1), .unset, .unset, .unset, .unset, .unset, .unset, .unset, .unset, .unset]) at_11 rfl ?_
    refine N.iloadN (pc := 12) at_12 rfl ?_
    refine N.iconst (pc := 13) 1 at_13 rfl ?_
    refine N.iushr (pc := 14) at_14 ?_
    refine N.iconst (pc := 15) 3 at_15 rfl ?_
    refine N.iand (pc := 16) at_16 ?_
    refine N.istore (pc := 17) (l' := #[.val (.int i0), .val (.int i1), .val (.int i2), .val (.int 1), .val (.int ((ushr i0 1) &&& 3)), .unset, .unset, .unset, .unset, .unset, .unset, .unset, .unset]) at_17 rfl ?_
    refine N.iloadN (pc := 19) at_19 rfl ?_
    refine N.sipush (pc := 20) 255 at_20 rfl ?_
    refine N.iand (pc := 23) at_23 ?_
    refine N.i2c (pc := 24) at_24 ?_
    rw [i2c_mask]
    refine N.istore (pc := 25) (l' := #[.val (.int i0), .val (.int i1), .val (.int i2), .val (.int 1), .val (.int ((ushr i0 1) &&& 3)), .val (.int (i2 &&& 255)), .unset, .unset, .unset, .unset, .unset, .unset, .unset]) at_25 rfl ?_
    refine N.iloadN (pc := 27) at_27 rfl ?_
    refine N.bipush (pc := 28) 8 at_28 rfl ?_
    refine N.iushr (pc := 30) at_30 ?_
    refine N.iconst (pc := 31) 3 at_31 rfl ?_
    refine N.iand (pc := 32) at_32 ?_
    refine N.istore (pc := 33) (l' := #[.val (.int i0), .val (.int i1), .val (.int i2), .val (.int 1), .val (.int ((ushr i0 1) &&& 3)), .val (.int (i2 &&& 255)), .val (.int ((ushr i2 8) &&& 3)), .unset, .unset, .unset, .unset, .unset, .unset]) at_33 rfl ?_
    refine N.iloadN (pc := 35) at_35 rfl ?_
    refine N.ldcI (pc := 36) (w0 hw) at_36 ?_
    refine N.iand (pc := 38) at_38 ?_
    refine N.istore (pc := 39) (l' := #[.val (.int i0), .val (.int i1), .val (.int i2), .val (.int 1), .val (.int ((ushr i0 1) &&& 3)), .val (.int (i2 &&& 255)), .val (.int ((ushr i2 8) &&& 3)), .val (.int (i1 &&& 2147483647)), .unset, .unset, .unset, .unset, .unset]) at_39 rfl ?_
    refine N.iload (pc := 41) at_41 rfl ?_
    by_cases h1 : ((ushr i0 1) &&& 3) = 0
    · refine N.ifneF (pc := 43) at_43 h1 ?_
      refine N.iloadN (pc := 46) at_46 rfl ?_
      refine N.ifeqF (pc := 47) at_47 (by decide) ?_
      refine N.bipush (pc := 50) 9 at_50 rfl ?_
      refine N.newarray (pc := 52) 9 9 at_52 (w1 hw) rfl (by decide) (Nat.le_of_ble_eq_true rfl) (Nat.le_of_ble_eq_true rfl) (Nat.le_of_ble_eq_true rfl) (Nat.le_of_ble_eq_true rfl) fun a15 T l_a15 N => ?_
      replace N := N.cast (O' := [(a15, aO .char [.int 0, .int 0, .int 0, .int 0, .int 0, .int 0, .int 0, .int 0, .int 0])]) rfl
      refine N.dup (pc := 54) at_54 rfl ?_
      refine N.iconst (pc := 55) 0 at_55 rfl ?_
      refine N.bipush (pc := 56) 115 at_56 rfl ?_
      refine N.castore (pc := 58) (O' := [(a15, aO .char [.int 115, .int 0, .int 0, .int 0, .int 0, .int 0, .int 0, .int 0, .int 0])]) 0 0 at_58 rfl rfl (by decide) (Nat.le_of_ble_eq_true rfl) rfl rfl fun T N => ?_
      refine N.dup (pc := 59) at_59 rfl ?_
      refine N.iconst (pc := 60) 1 at_60 rfl ?_
      refine N.bipush (pc := 61) 116 at_61 rfl ?_
      refine N.castore (pc := 63) (O' := [(a15, aO .char [.int 115, .int 116, .int 0, .int 0, .int 0, .int 0, .int 0, .int 0, .int 0])]) 0 1 at_63 rfl rfl (by decide) (Nat.le_of_ble_eq_true rfl) rfl rfl fun T N => ?_
      refine N.dup (pc := 64) at_64 rfl ?_
      refine N.iconst (pc := 65) 2 at_65 rfl ?_
      refine N.bipush (pc := 66) 97 at_66 rfl ?_
      refine N.castore (pc := 68) (O' := [(a15, aO .char [.int 115, .int 116, .int 97, .int 0, .int 0, .int 0, .int 0, .int 0, .int 0])]) 0 2 at_68 rfl rfl (by decide) (Nat.le_of_ble_eq_true rfl) rfl rfl fun T N => ?_
      refine N.dup (pc := 69) at_69 rfl ?_
      refine N.iconst (pc := 70) 3 at_70 rfl ?_
      refine N.bipush (pc := 71) 114 at_71 rfl ?_
      refine N.castore (pc := 73) (O' := [(a15, aO .char [.int 115, .int 116, .int 97, .int 114, .int 0, .int 0, .int 0, .int 0, .int 0])]) 0 3 at_73 rfl rfl (by decide) (Nat.le_of_ble_eq_true rfl) rfl rfl fun T N => ?_
      refine N.dup (pc := 74) at_74 rfl ?_
      refine N.iconst (pc := 75) 4 at_75 rfl ?_
      refine N.bipush (pc := 76) 116 at_76 rfl ?_
      refine N.castore (pc := 78) (O' := [(a15, aO .char [.int 115, .int 116, .int 97, .int 114, .int 116, .int 0, .int 0, .int 0, .int 0])]) 0 4 at_78 rfl rfl (by decide) (Nat.le_of_ble_eq_true rfl) rfl rfl fun T N => ?_
      refine N.dup (pc := 79) at_79 rfl ?_
      refine N.iconst (pc := 80) 5 at_80 rfl ?_
      refine N.bipush (pc := 81) 84 at_81 rfl ?_
      refine N.castore (pc := 83) (O' := [(a15, aO .char [.int 115, .int 116, .int 97, .int 114, .int 116, .int 84, .int 0, .int 0, .int 0])]) 0 5 at_83 rfl rfl (by decide) (Nat.le_of_ble_eq_true rfl) rfl rfl fun T N => ?_
      refine N.dup (pc := 84) at_84 rfl ?_
      refine N.bipush (pc := 85) 6 at_85 rfl ?_
      refine N.bipush (pc := 87) 105 at_87 rfl ?_
      refine N.castore (pc := 89) (O' := [(a15, aO .char [.int 115, .int 116, .int 97, .int 114, .int 116, .int 84, .int 105, .int 0, .int 0])]) 0 6 at_89 rfl rfl (by decide) (Nat.le_of_ble_eq_true rfl) rfl rfl fun T N => ?_
      refine N.dup (pc := 90) at_90 rfl ?_
      refine N.bipush (pc := 91) 7 at_91 rfl ?_
      refine N.bipush (pc := 93) 109 at_93 rfl ?_
      refine N.castore (pc := 95) (O' := [(a15, aO .char [.int 115, .int 116, .int 97, .int 114, .int 116, .int 84, .int 105, .int 109, .int 0])]) 0 7 at_95 rfl rfl (by decide) (Nat.le_of_ble_eq_true rfl) rfl rfl fun T N => ?_
      refine N.dup (pc := 96) at_96 rfl ?_
      refine N.bipush (pc := 97) 8 at_97 rfl ?_
      refine N.bipush (pc := 99) 101 at_99 rfl ?_
      refine N.castore (pc := 101) (O' := [(a15, aO .char [.int 115, .int 116, .int 97, .int 114, .int 116, .int 84, .int 105, .int 109, .int 101])]) 0 8 at_101 rfl rfl (by decide) (Nat.le_of_ble_eq_true rfl) rfl rfl fun T N => ?_
      refine N.astore (pc := 102) (l' := #[.val (.int i0), .val (.int i1), .val (.int i2), .val (.int 1), .val (.int ((ushr i0 1) &&& 3)), .val (.int (i2 &&& 255)), .val (.int ((ushr i2 8) &&& 3)), .val (.int (i1 &&& 2147483647)), .unset, .unset, .val (.ref a15), .unset, .unset]) at_102 rfl rfl ?_
      refine N.iload (pc := 104) at_104 rfl ?_
      refine N.bipush (pc := 106) 9 at_106 rfl ?_
      refine N.irem (pc := 108) at_108 (by decide) ?_
      obtain ⟨p', hp', ep⟩ := mod_small i1 9 (by decide) (by decide)
      rw [show (i1 &&& 2147483647) % 9 = p'.toInt32 from ep]
      refine N.istore (pc := 109) (l' := #[.val (.int i0), .val (.int i1), .val (.int i2), .val (.int 1), .val (.int ((ushr i0 1) &&& 3)), .val (.int (i2 &&& 255)), .val (.int ((ushr i2 8) &&& 3)), .val (.int (i1 &&& 2147483647)), .unset, .unset, .val (.ref a15), .val (.int p'.toInt32), .unset]) at_109 rfl ?_
      refine N.aload (pc := 111) at_111 rfl rfl ?_
      refine N.iload (pc := 113) at_113 rfl ?_
      replace N := N.cast (O' := [(a15, aO .char ((startCs).map Value.int))]) rfl
      have hp31 : p' < 2 ^ 31 := by omega
      have hpl : p' < startCs.length := hp'
      refine N.caload (pc := 115) (v := .int (startCs[p']'hpl)) 0 p' at_115 rfl (n_nat hp31) (n_nneg hp31) (get_map hpl) ?_
      refine N.istore (pc := 116) (l' := #[.val (.int i0), .val (.int i1), .val (.int i2), .val (.int 1), .val (.int ((ushr i0 1) &&& 3)), .val (.int (i2 &&& 255)), .val (.int ((ushr i2 8) &&& 3)), .val (.int (i1 &&& 2147483647)), .unset, .unset, .val (.ref a15), .val (.int p'.toInt32), .val (.int (startCs[p']'hpl))]) at_116 rfl ?_
      refine N.aload (pc := 118) at_118 rfl rfl ?_
      refine N.iload (pc := 120) at_120 rfl ?_
      refine N.iload (pc := 122) at_122 rfl ?_
      refine N.castore (pc := 124) (O' := [(a15, aO .char ((startCs.set p' (i2 &&& 255)).map Value.int))]) 0 p' at_124 rfl (n_nat hp31) (n_nneg hp31) (by rw [List.length_map]; exact hpl) (by rw [nar_lat (lat_and i2)]) (by simp only [set_map]; rfl) fun T N => ?_
      refine N.new (pc := 125) at_125 (w2 hw) (w3 hw) (w4 hw) (lay_java_lang_String hw) (Nat.le_of_ble_eq_true rfl) (Nat.le_of_ble_eq_true rfl) fun a16 T l_a16 N => ?_
      replace N := N.cast (O' := [(a15, aO .char ((startCs.set p' (i2 &&& 255)).map Value.int)), (a16, .inl ("java/lang/String", [(("java/lang/String", "value", "[B"), .null), (("java/lang/String", "coder", "B"), .int 0)]))]) rfl
      refine N.dup (pc := 128) at_128 rfl ?_
      refine N.aload (pc := 129) at_129 rfl rfl ?_
      refine N.callI (pc := 131) (c_init3 G (a := a16) (b := a15) (cs := (startCs.set p' (i2 &&& 255))) (by rw [List.length_set]; decide) (by rw [List.length_set]; decide) (lat_set lat_start (lat_and i2))) [1] [0] at_131 rfl (w5 hw) (w6 hw) (w4 hw) (w7 hw) (by decide) pd9 rfl (st := [.ref a16]) rfl rfl rfl (by decide) (by decide) (ltAll rfl) rfl (Nat.le_of_ble_eq_true rfl) (Nat.le_of_ble_eq_true rfl) (Nat.le_of_ble_eq_true rfl) (Nat.le_of_ble_eq_true rfl) fun v O' FN vm T hQ N => ?_
      obtain ⟨b16, rfl, rfl, rfl⟩ := hQ
      replace N := N.cast3 (O' := [(a15, aO .char ((startCs.set p' (i2 &&& 255)).map Value.int)), (a16, .inl ("java/lang/String", [(("java/lang/String", "value", "[B"), .ref b16), (("java/lang/String", "coder", "B"), .int 0)])), (b16, aO .byte ((((startCs.set p' (i2 &&& 255))).map by8).map Value.int))]) (RO' := []) (FZ' := []) rfl rfl rfl
      show Goes p e below _ (T.setTop (mkF m 134 #[.val (.int i0), .val (.int i1), .val (.int i2), .val (.int 1), .val (.int ((ushr i0 1) &&& 3)), .val (.int (i2 &&& 255)), .val (.int ((ushr i2 8) &&& 3)), .val (.int (i1 &&& 2147483647)), .unset, .unset, .val (.ref a15), .val (.int p'.toInt32), .val (.int (startCs[p']'hpl))] [.ref a16]))
      replace N := N.freeze (O' := [(a15, aO .char ((startCs.set p' (i2 &&& 255)).map Value.int)), (b16, aO .byte ((((startCs.set p' (i2 &&& 255))).map by8).map Value.int))]) 1 rfl (Nat.le_of_ble_eq_true rfl) rfl
      replace N := N.freeze (O' := [(a15, aO .char ((startCs.set p' (i2 &&& 255)).map Value.int))]) 1 rfl (Nat.le_of_ble_eq_true rfl) rfl
      replace N := N.str (cs := (startCs.set p' (i2 &&& 255))) 0 1 rfl rfl (lat_set lat_start (lat_and i2))
      replace N := N.cast3 (O' := [(a15, aO .char ((startCs.set p' (i2 &&& 255)).map Value.int))]) (RO' := []) (FZ' := [(a16, .inl ("java/lang/String", [(("java/lang/String", "value", "[B"), .ref b16), (("java/lang/String", "coder", "B"), .int 0)])), (b16, aO .byte ((((startCs.set p' (i2 &&& 255))).map by8).map Value.int)), (a16, tO (startCs.set p' (i2 &&& 255)))]) rfl rfl rfl
      refine N.astore (pc := 134) (l' := #[.val (.int i0), .val (.int i1), .val (.int i2), .val (.int 1), .val (.int ((ushr i0 1) &&& 3)), .val (.int (i2 &&& 255)), .val (.int ((ushr i2 8) &&& 3)), .val (.int (i1 &&& 2147483647)), .val (.ref a16), .unset, .val (.ref a15), .val (.int p'.toInt32), .val (.int (startCs[p']'hpl))]) at_134 rfl rfl ?_
      refine N.iload (pc := 136) at_136 rfl ?_
      refine N.iload (pc := 138) at_138 rfl ?_
      by_cases h9 : (startCs[p']'hpl) = (i2 &&& 255)
      · refine N.icmpneF (pc := 140) at_140 h9 ?_
        refine N.iconst (pc := 143) 1 at_143 rfl ?_
        refine N.goto (pc := 144) (pc' := 148) at_144 rfl ?_
        refine N.istore (pc := 148) (l' := #[.val (.int i0), .val (.int i1), .val (.int i2), .val (.int 1), .val (.int ((ushr i0 1) &&& 3)), .val (.int (i2 &&& 255)), .val (.int ((ushr i2 8) &&& 3)), .val (.int (i1 &&& 2147483647)), .val (.ref a16), .val (.int 1), .val (.ref a15), .val (.int p'.toInt32), .val (.int (startCs[p']'hpl))]) at_148 rfl ?_
        refine N.goto (pc := 150) (pc' := 588) at_150 rfl ?_
        refine N.aload (pc := 588) at_588 rfl rfl ?_
        refine N.callS (pc := 590) (c_isTimeKey G (a := a16) (cs := (startCs.set p' (i2 &&& 255)))) [] [3] at_590 (w31 hw) (w32 hw) (w33 hw) (w34 hw) (by decide) pd10 rfl (st := []) rfl rfl rfl (by decide) (by decide) (ltAll rfl) rfl (Nat.le_of_ble_eq_true rfl) (Nat.le_of_ble_eq_true rfl) (Nat.le_of_ble_eq_true rfl) (Nat.le_of_ble_eq_true rfl) fun v O' FN vm T hQ N => ?_
        obtain ⟨r, rfl, rfl, rfl, hr⟩ := hQ
        replace N := N.cast3 (O' := [(a15, aO .char ((startCs.set p' (i2 &&& 255)).map Value.int))]) (RO' := []) (FZ' := [(a16, .inl ("java/lang/String", [(("java/lang/String", "value", "[B"), .ref b16), (("java/lang/String", "coder", "B"), .int 0)])), (b16, aO .byte ((((startCs.set p' (i2 &&& 255))).map by8).map Value.int)), (a16, tO (startCs.set p' (i2 &&& 255)))]) rfl rfl rfl
        show Goes p e below _ (T.setTop (mkF m 593 #[.val (.int i0), .val (.int i1), .val (.int i2), .val (.int 1), .val (.int ((ushr i0 1) &&& 3)), .val (.int (i2 &&& 255)), .val (.int ((ushr i2 8) &&& 3)), .val (.int (i1 &&& 2147483647)), .val (.ref a16), .val (.int 1), .val (.ref a15), .val (.int p'.toInt32), .val (.int (startCs[p']'hpl))] [.int r]))
        have hr' : r = 1 := by
          rcases hr with ⟨h1, h2⟩ | ⟨h1, h2⟩
          · exact h1
          · exact absurd (Or.inl (by rw [← h9]; exact List.set_getElem_self _)) h2
        refine N.iload (pc := 593) at_593 rfl ?_
        refine N.icmpneF (pc := 595) at_595 hr' ?_
        refine N.iconst (pc := 598) 1 at_598 rfl ?_
        refine N.goto (pc := 599) (pc' := 603) at_599 rfl ?_
        exact N.ireturn (pc := 603) [] (fun _ h => h) (List.forall_mem_nil _) (Nat.le_of_ble_eq_true rfl) (Nat.le_of_ble_eq_true rfl) (t := .boolean) at_603 rfl (by simp) rfl rfl
      · refine N.icmpneT (pc := 140) (pc' := 147) at_140 rfl h9 ?_
        refine N.iconst (pc := 147) 0 at_147 rfl ?_
        refine N.istore (pc := 148) (l' := #[.val (.int i0), .val (.int i1), .val (.int i2), .val (.int 1), .val (.int ((ushr i0 1) &&& 3)), .val (.int (i2 &&& 255)), .val (.int ((ushr i2 8) &&& 3)), .val (.int (i1 &&& 2147483647)), .val (.ref a16), .val (.int 0), .val (.ref a15), .val (.int p'.toInt32), .val (.int (startCs[p']'hpl))]) at_148 rfl ?_
        refine N.goto (pc := 150) (pc' := 588) at_150 rfl ?_
        refine N.aload (pc := 588) at_588 rfl rfl ?_
        refine N.callS (pc := 590) (c_isTimeKey G (a := a16) (cs := (startCs.set p' (i2 &&& 255)))) [] [3] at_590 (w31 hw) (w32 hw) (w33 hw) (w34 hw) (by decide) pd10 rfl (st := []) rfl rfl rfl (by decide) (by decide) (ltAll rfl) rfl (Nat.le_of_ble_eq_true rfl) (Nat.le_of_ble_eq_true rfl) (Nat.le_of_ble_eq_true rfl) (Nat.le_of_ble_eq_true rfl) fun v O' FN vm T hQ N => ?_
        obtain ⟨r, rfl, rfl, rfl, hr⟩ := hQ
        replace N := N.cast3 (O' := [(a15, aO .char ((startCs.set p' (i2 &&& 255)).map Value.int))]) (RO' := []) (FZ' := [(a16, .inl ("java/lang/String", [(("java/lang/String", "value", "[B"), .ref b16), (("java/lang/String", "coder", "B"), .int 0)])), (b16, aO .byte ((((startCs.set p' (i2 &&& 255))).map by8).map Value.int)), (a16, tO (startCs.set p' (i2 &&& 255)))]) rfl rfl rfl
        show Goes p e below _ (T.setTop (mkF m 593 #[.val (.int i0), .val (.int i1), .val (.int i2), .val (.int 1), .val (.int ((ushr i0 1) &&& 3)), .val (.int (i2 &&& 255)), .val (.int ((ushr i2 8) &&& 3)), .val (.int (i1 &&& 2147483647)), .val (.ref a16), .val (.int 0), .val (.ref a15), .val (.int p'.toInt32), .val (.int (startCs[p']'hpl))] [.int r]))
        have hr' : r = 0 := by
          rcases hr with ⟨h1, h2⟩ | ⟨h1, h2⟩
          · exact absurd h2 (fun z => z.elim (fun q => h9 (set_ne hpl q)) (fun q => by simpa using congrArg List.length q))
          · exact h1
        refine N.iload (pc := 593) at_593 rfl ?_
        refine N.icmpneF (pc := 595) at_595 hr' ?_
        refine N.iconst (pc := 598) 1 at_598 rfl ?_
        refine N.goto (pc := 599) (pc' := 603) at_599 rfl ?_
        exact N.ireturn (pc := 603) [] (fun _ h => h) (List.forall_mem_nil _) (Nat.le_of_ble_eq_true rfl) (Nat.le_of_ble_eq_true rfl) (t := .boolean) at_603 rfl (by simp) rfl rfl
    · refine N.ifneT (pc := 43) (pc' := 244) at_43 rfl h1 ?_
      refine N.iload (pc := 244) at_244 rfl ?_
      refine N.iconst (pc := 246) 1 at_246 rfl ?_
      by_cases h2 : ((ushr i0 1) &&& 3) = 1
      · refine N.icmpneF (pc := 247) at_247 h2 ?_
        refine N.iloadN (pc := 250) at_250 rfl ?_
        refine N.ifeqF (pc := 251) at_251 (by decide) ?_
        refine N.bipush (pc := 254) 10 at_254 rfl ?_
        refine N.newarray (pc := 256) 10 10 at_256 (w1 hw) rfl (by decide) (Nat.le_of_ble_eq_true rfl) (Nat.le_of_ble_eq_true rfl) (Nat.le_of_ble_eq_true rfl) (Nat.le_of_ble_eq_true rfl) fun a17 T l_a17 N => ?_
        replace N := N.cast (O' := [(a17, aO .char [.int 0, .int 0, .int 0, .int 0, .int 0, .int 0, .int 0, .int 0, .int 0, .int 0])]) rfl
        refine N.dup (pc := 258) at_258 rfl ?_
        refine N.iconst (pc := 259) 0 at_259 rfl ?_
        refine N.bipush (pc := 260) 115 at_260 rfl ?_
        refine N.castore (pc := 262) (O' := [(a17, aO .char [.int 115, .int 0, .int 0, .int 0, .int 0, .int 0, .int 0, .int 0, .int 0, .int 0])]) 0 0 at_262 rfl rfl (by decide) (Nat.le_of_ble_eq_true rfl) rfl rfl fun T N => ?_
        refine N.dup (pc := 263) at_263 rfl ?_
        refine N.iconst (pc := 264) 1 at_264 rfl ?_
        refine N.bipush (pc := 265) 116 at_265 rfl ?_
        refine N.castore (pc := 267) (O' := [(a17, aO .char [.int 115, .int 116, .int 0, .int 0, .int 0, .int 0, .int 0, .int 0, .int 0, .int 0])]) 0 1 at_267 rfl rfl (by decide) (Nat.le_of_ble_eq_true rfl) rfl rfl fun T N => ?_
        refine N.dup (pc := 268) at_268 rfl ?_
        refine N.iconst (pc := 269) 2 at_269 rfl ?_
        refine N.bipush (pc := 270) 97 at_270 rfl ?_
        refine N.castore (pc := 272) (O' := [(a17, aO .char [.int 115, .int 116, .int 97, .int 0, .int 0, .int 0, .int 0, .int 0, .int 0, .int 0])]) 0 2 at_272 rfl rfl (by decide) (Nat.le_of_ble_eq_true rfl) rfl rfl fun T N => ?_
        refine N.dup (pc := 273) at_273 rfl ?_
        refine N.iconst (pc := 274) 3 at_274 rfl ?_
        refine N.bipush (pc := 275) 114 at_275 rfl ?_
        refine N.castore (pc := 277) (O' := [(a17, aO .char [.int 115, .int 116, .int 97, .int 114, .int 0, .int 0, .int 0, .int 0, .int 0, .int 0])]) 0 3 at_277 rfl rfl (by decide) (Nat.le_of_ble_eq_true rfl) rfl rfl fun T N => ?_
        refine N.dup (pc := 278) at_278 rfl ?_
        refine N.iconst (pc := 279) 4 at_279 rfl ?_
        refine N.bipush (pc := 280) 116 at_280 rfl ?_
        refine N.castore (pc := 282) (O' := [(a17, aO .char [.int 115, .int 116, .int 97, .int 114, .int 116, .int 0, .int 0, .int 0, .int 0, .int 0])]) 0 4 at_282 rfl rfl (by decide) (Nat.le_of_ble_eq_true rfl) rfl rfl fun T N => ?_
        refine N.dup (pc := 283) at_283 rfl ?_
        refine N.iconst (pc := 284) 5 at_284 rfl ?_
        refine N.bipush (pc := 285) 84 at_285 rfl ?_
        refine N.castore (pc := 287) (O' := [(a17, aO .char [.int 115, .int 116, .int 97, .int 114, .int 116, .int 84, .int 0, .int 0, .int 0, .int 0])]) 0 5 at_287 rfl rfl (by decide) (Nat.le_of_ble_eq_true rfl) rfl rfl fun T N => ?_
        refine N.dup (pc := 288) at_288 rfl ?_
        refine N.bipush (pc := 289) 6 at_289 rfl ?_
        refine N.bipush (pc := 291) 105 at_291 rfl ?_
        refine N.castore (pc := 293) (O' := [(a17, aO .char [.int 115, .int 116, .int 97, .int 114, .int 116, .int 84, .int 105, .int 0, .int 0, .int 0])]) 0 6 at_293 rfl rfl (by decide) (Nat.le_of_ble_eq_true rfl) rfl rfl fun T N => ?_
        refine N.dup (pc := 294) at_294 rfl ?_
        refine N.bipush (pc := 295) 7 at_295 rfl ?_
        refine N.bipush (pc := 297) 109 at_297 rfl ?_
        refine N.castore (pc := 299) (O' := [(a17, aO .char [.int 115, .int 116, .int 97, .int 114, .int 116, .int 84, .int 105, .int 109, .int 0, .int 0])]) 0 7 at_299 rfl rfl (by decide) (Nat.le_of_ble_eq_true rfl) rfl rfl fun T N => ?_
        refine N.dup (pc := 300) at_300 rfl ?_
        refine N.bipush (pc := 301) 8 at_301 rfl ?_
        refine N.bipush (pc := 303) 101 at_303 rfl ?_
        refine N.castore (pc := 305) (O' := [(a17, aO .char [.int 115, .int 116, .int 97, .int 114, .int 116, .int 84, .int 105, .int 109, .int 101, .int 0])]) 0 8 at_305 rfl rfl (by decide) (Nat.le_of_ble_eq_true rfl) rfl rfl fun T N => ?_
        refine N.dup (pc := 306) at_306 rfl ?_
        refine N.bipush (pc := 307) 9 at_307 rfl ?_
        refine N.iload (pc := 309) at_309 rfl ?_
        refine N.castore (pc := 311) (O' := [(a17, aO .char [.int 115, .int 116, .int 97, .int 114, .int 116, .int 84, .int 105, .int 109, .int 101, .int (i2 &&& 255)])]) 0 9 at_311 rfl rfl (by decide) (Nat.le_of_ble_eq_true rfl) (by rw [nar_lat (lat_and i2)]) rfl fun T N => ?_
        refine N.astore (pc := 312) (l' := #[.val (.int i0), .val (.int i1), .val (.int i2), .val (.int 1), .val (.int ((ushr i0 1) &&& 3)), .val (.int (i2 &&& 255)), .val (.int ((ushr i2 8) &&& 3)), .val (.int (i1 &&& 2147483647)), .unset, .unset, .val (.ref a17), .unset, .unset]) at_312 rfl rfl ?_
        refine N.new (pc := 314) at_314 (w2 hw) (w3 hw) (w4 hw) (lay_java_lang_String hw) (Nat.le_of_ble_eq_true rfl) (Nat.le_of_ble_eq_true rfl) fun a18 T l_a18 N => ?_
        replace N := N.cast (O' := [(a17, aO .char [.int 115, .int 116, .int 97, .int 114, .int 116, .int 84, .int 105, .int 109, .int 101, .int (i2 &&& 255)]), (a18, .inl ("java/lang/String", [(("java/lang/String", "value", "[B"), .null), (("java/lang/String", "coder", "B"), .int 0)]))]) rfl
        refine N.dup (pc := 317) at_317 rfl ?_
        refine N.aload (pc := 318) at_318 rfl rfl ?_
        replace N := N.cast (O' := [(a17, aO .char (((startCs ++ [i2 &&& 255])).map Value.int)), (a18, .inl ("java/lang/String", [(("java/lang/String", "value", "[B"), .null), (("java/lang/String", "coder", "B"), .int 0)]))]) rfl
        refine N.callI (pc := 320) (c_init3 G (a := a18) (b := a17) (cs := (startCs ++ [i2 &&& 255])) (by simp) (by simp) (lat_app lat_start (lat_and i2))) [1] [0] at_320 rfl (w5 hw) (w6 hw) (w4 hw) (w7 hw) (by decide) pd9 rfl (st := [.ref a18]) rfl rfl rfl (by decide) (by decide) (ltAll rfl) rfl (Nat.le_of_ble_eq_true rfl) (Nat.le_of_ble_eq_true rfl) (Nat.le_of_ble_eq_true rfl) (Nat.le_of_ble_eq_true rfl) fun v O' FN vm T hQ N => ?_
        obtain ⟨b18, rfl, rfl, rfl⟩ := hQ
        replace N := N.cast3 (O' := [(a17, aO .char (((startCs ++ [i2 &&& 255])).map Value.int)), (a18, .inl ("java/lang/String", [(("java/lang/String", "value", "[B"), .ref b18), (("java/lang/String", "coder", "B"), .int 0)])), (b18, aO .byte ((((startCs ++ [i2 &&& 255])).map by8).map Value.int))]) (RO' := []) (FZ' := []) rfl rfl rfl
        show Goes p e below _ (T.setTop (mkF m 323 #[.val (.int i0), .val (.int i1), .val (.int i2), .val (.int 1), .val (.int ((ushr i0 1) &&& 3)), .val (.int (i2 &&& 255)), .val (.int ((ushr i2 8) &&& 3)), .val (.int (i1 &&& 2147483647)), .unset, .unset, .val (.ref a17), .unset, .unset] [.ref a18]))
        replace N := N.freeze (O' := [(a17, aO .char (((startCs ++ [i2 &&& 255])).map Value.int)), (b18, aO .byte ((((startCs ++ [i2 &&& 255])).map by8).map Value.int))]) 1 rfl (Nat.le_of_ble_eq_true rfl) rfl
        replace N := N.freeze (O' := [(a17, aO .char (((startCs ++ [i2 &&& 255])).map Value.int))]) 1 rfl (Nat.le_of_ble_eq_true rfl) rfl
        replace N := N.str (cs := (startCs ++ [i2 &&& 255])) 0 1 rfl rfl (lat_app lat_start (lat_and i2))
        replace N := N.cast3 (O' := [(a17, aO .char (((startCs ++ [i2 &&& 255])).map Value.int))]) (RO' := []) (FZ' := [(a18, .inl ("java/lang/String", [(("java/lang/String", "value", "[B"), .ref b18), (("java/lang/String", "coder", "B"), .int 0)])), (b18, aO .byte ((((startCs ++ [i2 &&& 255])).map by8).map Value.int)), (a18, tO (startCs ++ [i2 &&& 255]))]) rfl rfl rfl
        refine N.astore (pc := 323) (l' := #[.val (.int i0), .val (.int i1), .val (.int i2), .val (.int 1), .val (.int ((ushr i0 1) &&& 3)), .val (.int (i2 &&& 255)), .val (.int ((ushr i2 8) &&& 3)), .val (.int (i1 &&& 2147483647)), .val (.ref a18), .unset, .val (.ref a17), .unset, .unset]) at_323 rfl rfl ?_
        refine N.goto (pc := 325) (pc' := 387) at_325 rfl ?_
        refine N.iconst (pc := 387) 0 at_387 rfl ?_
        refine N.istore (pc := 388) (l' := #[.val (.int i0), .val (.int i1), .val (.int i2), .val (.int 1), .val (.int ((ushr i0 1) &&& 3)), .val (.int (i2 &&& 255)), .val (.int ((ushr i2 8) &&& 3)), .val (.int (i1 &&& 2147483647)), .val (.ref a18), .val (.int 0), .val (.ref a17), .unset, .unset]) at_388 rfl ?_
        refine N.goto (pc := 390) (pc' := 588) at_390 rfl ?_
        refine N.aload (pc := 588) at_588 rfl rfl ?_
        refine N.callS (pc := 590) (c_isTimeKey G (a := a18) (cs := (startCs ++ [i2 &&& 255]))) [] [3] at_590 (w31 hw) (w32 hw) (w33 hw) (w34 hw) (by decide) pd10 rfl (st := []) rfl rfl rfl (by decide) (by decide) (ltAll rfl) rfl (Nat.le_of_ble_eq_true rfl) (Nat.le_of_ble_eq_true rfl) (Nat.le_of_ble_eq_true rfl) (Nat.le_of_ble_eq_true rfl) fun v O' FN vm T hQ N => ?_
        obtain ⟨r, rfl, rfl, rfl, hr⟩ := hQ
        replace N := N.cast3 (O' := [(a17, aO .char (((startCs ++ [i2 &&& 255])).map Value.int))]) (RO' := []) (FZ' := [(a18, .inl ("java/lang/String", [(("java/lang/String", "value", "[B"), .ref b18), (("java/lang/String", "coder", "B"), .int 0)])), (b18, aO .byte ((((startCs ++ [i2 &&& 255])).map by8).map Value.int)), (a18, tO (startCs ++ [i2 &&& 255]))]) rfl rfl rfl
        show Goes p e below _ (T.setTop (mkF m 593 #[.val (.int i0), .val (.int i1), .val (.int i2), .val (.int 1), .val (.int ((ushr i0 1) &&& 3)), .val (.int (i2 &&& 255)), .val (.int ((ushr i2 8) &&& 3)), .val (.int (i1 &&& 2147483647)), .val (.ref a18), .val (.int 0), .val (.ref a17), .unset, .unset] [.int r]))
        have hr' : r = 0 := by
          rcases hr with ⟨h1, h2⟩ | ⟨h1, h2⟩
          · exfalso; rcases h2 with q | q <;> simpa using congrArg List.length q
          · exact h1
        refine N.iload (pc := 593) at_593 rfl ?_
        refine N.icmpneF (pc := 595) at_595 hr' ?_
        refine N.iconst (pc := 598) 1 at_598 rfl ?_
        refine N.goto (pc := 599) (pc' := 603) at_599 rfl ?_
        exact N.ireturn (pc := 603) [] (fun _ h => h) (List.forall_mem_nil _) (Nat.le_of_ble_eq_true rfl) (Nat.le_of_ble_eq_true rfl) (t := .boolean) at_603 rfl (by simp) rfl rfl
      · refine N.icmpneT (pc := 247) (pc' := 393) at_247 rfl h2 ?_
        refine N.iload (pc := 393) at_393 rfl ?_
        refine N.iconst (pc := 395) 2 at_395 rfl ?_
        by_cases h3 : ((ushr i0 1) &&& 3) = 2
        · refine N.icmpneF (pc := 396) at_396 h3 ?_
          refine N.iloadN (pc := 399) at_399 rfl ?_
          refine N.ifeqF (pc := 400) at_400 (by decide) ?_
          refine N.bipush (pc := 403) 8 at_403 rfl ?_
          refine N.newarray (pc := 405) 8 8 at_405 (w1 hw) rfl (by decide) (Nat.le_of_ble_eq_true rfl) (Nat.le_of_ble_eq_true rfl) (Nat.le_of_ble_eq_true rfl) (Nat.le_of_ble_eq_true rfl) fun a19 T l_a19 N => ?_
          replace N := N.cast (O' := [(a19, aO .char [.int 0, .int 0, .int 0, .int 0, .int 0, .int 0, .int 0, .int 0])]) rfl
          refine N.dup (pc := 407) at_407 rfl ?_
          refine N.iconst (pc := 408) 0 at_408 rfl ?_
          refine N.bipush (pc := 409) 115 at_409 rfl ?_
          refine N.castore (pc := 411) (O' := [(a19, aO .char [.int 115, .int 0, .int 0, .int 0, .int 0, .int 0, .int 0, .int 0])]) 0 0 at_411 rfl rfl (by decide) (Nat.le_of_ble_eq_true rfl) rfl rfl fun T N => ?_
          refine N.dup (pc := 412) at_412 rfl ?_
          refine N.iconst (pc := 413) 1 at_413 rfl ?_
          refine N.bipush (pc := 414) 116 at_414 rfl ?_
          refine N.castore (pc := 416) (O' := [(a19, aO .char [.int 115, .int 116, .int 0, .int 0, .int 0, .int 0, .int 0, .int 0])]) 0 1 at_416 rfl rfl (by decide) (Nat.le_of_ble_eq_true rfl) rfl rfl fun T N => ?_
          refine N.dup (pc := 417) at_417 rfl ?_
          refine N.iconst (pc := 418) 2 at_418 rfl ?_
          refine N.bipush (pc := 419) 97 at_419 rfl ?_
          refine N.castore (pc := 421) (O' := [(a19, aO .char [.int 115, .int 116, .int 97, .int 0, .int 0, .int 0, .int 0, .int 0])]) 0 2 at_421 rfl rfl (by decide) (Nat.le_of_ble_eq_true rfl) rfl rfl fun T N => ?_
          refine N.dup (pc := 422) at_422 rfl ?_
          refine N.iconst (pc := 423) 3 at_423 rfl ?_
          refine N.bipush (pc := 424) 114 at_424 rfl ?_
          refine N.castore (pc := 426) (O' := [(a19, aO .char [.int 115, .int 116, .int 97, .int 114, .int 0, .int 0, .int 0, .int 0])]) 0 3 at_426 rfl rfl (by decide) (Nat.le_of_ble_eq_true rfl) rfl rfl fun T N => ?_
          refine N.dup (pc := 427) at_427 rfl ?_
          refine N.iconst (pc := 428) 4 at_428 rfl ?_
          refine N.bipush (pc := 429) 116 at_429 rfl ?_
          refine N.castore (pc := 431) (O' := [(a19, aO .char [.int 115, .int 116, .int 97, .int 114, .int 116, .int 0, .int 0, .int 0])]) 0 4 at_431 rfl rfl (by decide) (Nat.le_of_ble_eq_true rfl) rfl rfl fun T N => ?_
          refine N.dup (pc := 432) at_432 rfl ?_
          refine N.iconst (pc := 433) 5 at_433 rfl ?_
          refine N.bipush (pc := 434) 84 at_434 rfl ?_
          refine N.castore (pc := 436) (O' := [(a19, aO .char [.int 115, .int 116, .int 97, .int 114, .int 116, .int 84, .int 0, .int 0])]) 0 5 at_436 rfl rfl (by decide) (Nat.le_of_ble_eq_true rfl) rfl rfl fun T N => ?_
          refine N.dup (pc := 437) at_437 rfl ?_
          refine N.bipush (pc := 438) 6 at_438 rfl ?_
          refine N.bipush (pc := 440) 105 at_440 rfl ?_
          refine N.castore (pc := 442) (O' := [(a19, aO .char [.int 115, .int 116, .int 97, .int 114, .int 116, .int 84, .int 105, .int 0])]) 0 6 at_442 rfl rfl (by decide) (Nat.le_of_ble_eq_true rfl) rfl rfl fun T N => ?_
          refine N.dup (pc := 443) at_443 rfl ?_
          refine N.bipush (pc := 444) 7 at_444 rfl ?_
          refine N.bipush (pc := 446) 109 at_446 rfl ?_
          refine N.castore (pc := 448) (O' := [(a19, aO .char [.int 115, .int 116, .int 97, .int 114, .int 116, .int 84, .int 105, .int 109])]) 0 7 at_448 rfl rfl (by decide) (Nat.le_of_ble_eq_true rfl) rfl rfl fun T N => ?_
          refine N.astore (pc := 449) (l' := #[.val (.int i0), .val (.int i1), .val (.int i2), .val (.int 1), .val (.int ((ushr i0 1) &&& 3)), .val (.int (i2 &&& 255)), .val (.int ((ushr i2 8) &&& 3)), .val (.int (i1 &&& 2147483647)), .unset, .unset, .val (.ref a19), .unset, .unset]) at_449 rfl rfl ?_
          refine N.iload (pc := 451) at_451 rfl ?_
          refine N.bipush (pc := 453) 8 at_453 rfl ?_
          refine N.irem (pc := 455) at_455 (by decide) ?_
          obtain ⟨p', hp', ep⟩ := mod_small i1 8 (by decide) (by decide)
          rw [show (i1 &&& 2147483647) % 8 = p'.toInt32 from ep]
          refine N.istore (pc := 456) (l' := #[.val (.int i0), .val (.int i1), .val (.int i2), .val (.int 1), .val (.int ((ushr i0 1) &&& 3)), .val (.int (i2 &&& 255)), .val (.int ((ushr i2 8) &&& 3)), .val (.int (i1 &&& 2147483647)), .unset, .unset, .val (.ref a19), .val (.int p'.toInt32), .unset]) at_456 rfl ?_
          refine N.aload (pc := 458) at_458 rfl rfl ?_
          refine N.iload (pc := 460) at_460 rfl ?_
          refine N.iload (pc := 462) at_462 rfl ?_
          replace N := N.cast (O' := [(a19, aO .char ((([115, 116, 97, 114, 116, 84, 105, 109] : List Int32)).map Value.int))]) rfl
          have hp31 : p' < 2 ^ 31 := by omega
          have hpl : p' < ([115, 116, 97, 114, 116, 84, 105, 109] : List Int32).length := hp'
          refine N.castore (pc := 464) (O' := [(a19, aO .char ((([115, 116, 97, 114, 116, 84, 105, 109] : List Int32).set p' (i2 &&& 255)).map Value.int))]) 0 p' at_464 rfl (n_nat hp31) (n_nneg hp31) (by rw [List.length_map]; exact hpl) (by rw [nar_lat (lat_and i2)]) (by simp only [set_map]; rfl) fun T N => ?_
          refine N.new (pc := 465) at_465 (w2 hw) (w3 hw) (w4 hw) (lay_java_lang_String hw) (Nat.le_of_ble_eq_true rfl) (Nat.le_of_ble_eq_true rfl) fun a20 T l_a20 N => ?_
          replace N := N.cast (O' := [(a19, aO .char ((([115, 116, 97, 114, 116, 84, 105, 109] : List Int32).set p' (i2 &&& 255)).map Value.int)), (a20, .inl ("java/lang/String", [(("java/lang/String", "value", "[B"), .null), (("java/lang/String", "coder", "B"), .int 0)]))]) rfl
          refine N.dup (pc := 468) at_468 rfl ?_
          refine N.aload (pc := 469) at_469 rfl rfl ?_
          refine N.callI (pc := 471) (c_init3 G (a := a20) (b := a19) (cs := (([115, 116, 97, 114, 116, 84, 105, 109] : List Int32).set p' (i2 &&& 255))) (by rw [List.length_set]; decide) (by rw [List.length_set]; decide) (lat_set (by unfold Lat; decide) (lat_and i2))) [1] [0] at_471 rfl (w5 hw) (w6 hw) (w4 hw) (w7 hw) (by decide) pd9 rfl (st := [.ref a20]) rfl rfl rfl (by decide) (by decide) (ltAll rfl) rfl (Nat.le_of_ble_eq_true rfl) (Nat.le_of_ble_eq_true rfl) (Nat.le_of_ble_eq_true rfl) (Nat.le_of_ble_eq_true rfl) fun v O' FN vm T hQ N => ?_
          obtain ⟨b20, rfl, rfl, rfl⟩ := hQ
          replace N := N.cast3 (O' := [(a19, aO .char ((([115, 116, 97, 114, 116, 84, 105, 109] : List Int32).set p' (i2 &&& 255)).map Value.int)), (a20, .inl ("java/lang/String", [(("java/lang/String", "value", "[B"), .ref b20), (("java/lang/String", "coder", "B"), .int 0)])), (b20, aO .byte ((((([115, 116, 97, 114, 116, 84, 105, 109] : List Int32).set p' (i2 &&& 255))).map by8).map Value.int))]) (RO' := []) (FZ' := []) rfl rfl rfl
          show Goes p e below _ (T.setTop (mkF m 474 #[.val (.int i0), .val (.int i1), .val (.int i2), .val (.int 1), .val (.int ((ushr i0 1) &&& 3)), .val (.int (i2 &&& 255)), .val (.int ((ushr i2 8) &&& 3)), .val (.int (i1 &&& 2147483647)), .unset, .unset, .val (.ref a19), .val (.int p'.toInt32), .unset] [.ref a20]))
          replace N := N.freeze (O' := [(a19, aO .char ((([115, 116, 97, 114, 116, 84, 105, 109] : List Int32).set p' (i2 &&& 255)).map Value.int)), (b20, aO .byte ((((([115, 116, 97, 114, 116, 84, 105, 109] : List Int32).set p' (i2 &&& 255))).map by8).map Value.int))]) 1 rfl (Nat.le_of_ble_eq_true rfl) rfl
          replace N := N.freeze (O' := [(a19, aO .char ((([115, 116, 97, 114, 116, 84, 105, 109] : List Int32).set p' (i2 &&& 255)).map Value.int))]) 1 rfl (Nat.le_of_ble_eq_true rfl) rfl
          replace N := N.str (cs := (([115, 116, 97, 114, 116, 84, 105, 109] : List Int32).set p' (i2 &&& 255))) 0 1 rfl rfl (lat_set (by unfold Lat; decide) (lat_and i2))
          replace N := N.cast3 (O' := [(a19, aO .char ((([115, 116, 97, 114, 116, 84, 105, 109] : List Int32).set p' (i2 &&& 255)).map Value.int))]) (RO' := []) (FZ' := [(a20, .inl ("java/lang/String", [(("java/lang/String", "value", "[B"), .ref b20), (("java/lang/String", "coder", "B"), .int 0)])), (b20, aO .byte ((((([115, 116, 97, 114, 116, 84, 105, 109] : List Int32).set p' (i2 &&& 255))).map by8).map Value.int)), (a20, tO (([115, 116, 97, 114, 116, 84, 105, 109] : List Int32).set p' (i2 &&& 255)))]) rfl rfl rfl
          refine N.astore (pc := 474) (l' := #[.val (.int i0), .val (.int i1), .val (.int i2), .val (.int 1), .val (.int ((ushr i0 1) &&& 3)), .val (.int (i2 &&& 255)), .val (.int ((ushr i2 8) &&& 3)), .val (.int (i1 &&& 2147483647)), .val (.ref a20), .unset, .val (.ref a19), .val (.int p'.toInt32), .unset]) at_474 rfl rfl ?_
          refine N.goto (pc := 476) (pc' := 540) at_476 rfl ?_
          refine N.iconst (pc := 540) 0 at_540 rfl ?_
          refine N.istore (pc := 541) (l' := #[.val (.int i0), .val (.int i1), .val (.int i2), .val (.int 1), .val (.int ((ushr i0 1) &&& 3)), .val (.int (i2 &&& 255)), .val (.int ((ushr i2 8) &&& 3)), .val (.int (i1 &&& 2147483647)), .val (.ref a20), .val (.int 0), .val (.ref a19), .val (.int p'.toInt32), .unset]) at_541 rfl ?_
          refine N.goto (pc := 543) (pc' := 588) at_543 rfl ?_
          refine N.aload (pc := 588) at_588 rfl rfl ?_
          refine N.callS (pc := 590) (c_isTimeKey G (a := a20) (cs := (([115, 116, 97, 114, 116, 84, 105, 109] : List Int32).set p' (i2 &&& 255)))) [] [3] at_590 (w31 hw) (w32 hw) (w33 hw) (w34 hw) (by decide) pd10 rfl (st := []) rfl rfl rfl (by decide) (by decide) (ltAll rfl) rfl (Nat.le_of_ble_eq_true rfl) (Nat.le_of_ble_eq_true rfl) (Nat.le_of_ble_eq_true rfl) (Nat.le_of_ble_eq_true rfl) fun v O' FN vm T hQ N => ?_
          obtain ⟨r, rfl, rfl, rfl, hr⟩ := hQ
          replace N := N.cast3 (O' := [(a19, aO .char ((([115, 116, 97, 114, 116, 84, 105, 109] : List Int32).set p' (i2 &&& 255)).map Value.int))]) (RO' := []) (FZ' := [(a20, .inl ("java/lang/String", [(("java/lang/String", "value", "[B"), .ref b20), (("java/lang/String", "coder", "B"), .int 0)])), (b20, aO .byte ((((([115, 116, 97, 114, 116, 84, 105, 109] : List Int32).set p' (i2 &&& 255))).map by8).map Value.int)), (a20, tO (([115, 116, 97, 114, 116, 84, 105, 109] : List Int32).set p' (i2 &&& 255)))]) rfl rfl rfl
          show Goes p e below _ (T.setTop (mkF m 593 #[.val (.int i0), .val (.int i1), .val (.int i2), .val (.int 1), .val (.int ((ushr i0 1) &&& 3)), .val (.int (i2 &&& 255)), .val (.int ((ushr i2 8) &&& 3)), .val (.int (i1 &&& 2147483647)), .val (.ref a20), .val (.int 0), .val (.ref a19), .val (.int p'.toInt32), .unset] [.int r]))
          have hr' : r = 0 := by
            rcases hr with ⟨h1, h2⟩ | ⟨h1, h2⟩
            · exfalso; rcases h2 with q | q <;> simpa using congrArg List.length q
            · exact h1
          refine N.iload (pc := 593) at_593 rfl ?_
          refine N.icmpneF (pc := 595) at_595 hr' ?_
          refine N.iconst (pc := 598) 1 at_598 rfl ?_
          refine N.goto (pc := 599) (pc' := 603) at_599 rfl ?_
          exact N.ireturn (pc := 603) [] (fun _ h => h) (List.forall_mem_nil _) (Nat.le_of_ble_eq_true rfl) (Nat.le_of_ble_eq_true rfl) (t := .boolean) at_603 rfl (by simp) rfl rfl
        · refine N.icmpneT (pc := 396) (pc' := 546) at_396 rfl h3 ?_
          refine N.iload (pc := 546) at_546 rfl ?_
          by_cases h4 : ((ushr i2 8) &&& 3) = 0
          · refine N.ifneF (pc := 548) at_548 h4 ?_
            refine N.aconst (pc := 551) at_551 ?_
            refine N.astore (pc := 552) (l' := #[.val (.int i0), .val (.int i1), .val (.int i2), .val (.int 1), .val (.int ((ushr i0 1) &&& 3)), .val (.int (i2 &&& 255)), .val (.int ((ushr i2 8) &&& 3)), .val (.int (i1 &&& 2147483647)), .val (.null), .unset, .unset, .unset, .unset]) at_552 rfl rfl ?_
            refine N.goto (pc := 554) (pc' := 585) at_554 rfl ?_
            refine N.iconst (pc := 585) 0 at_585 rfl ?_
            refine N.istore (pc := 586) (l' := #[.val (.int i0), .val (.int i1), .val (.int i2), .val (.int 1), .val (.int ((ushr i0 1) &&& 3)), .val (.int (i2 &&& 255)), .val (.int ((ushr i2 8) &&& 3)), .val (.int (i1 &&& 2147483647)), .val (.null), .val (.int 0), .unset, .unset, .unset]) at_586 rfl ?_
            refine N.aload (pc := 588) at_588 rfl rfl ?_
            refine N.callS (pc := 590) (c_isTimeKeyNull G ) [] [] at_590 (w31 hw) (w32 hw) (w33 hw) (w34 hw) (by decide) pd10 rfl (st := []) rfl rfl rfl (by decide) (by decide) (ltAll rfl) rfl (Nat.le_of_ble_eq_true rfl) (Nat.le_of_ble_eq_true rfl) (Nat.le_of_ble_eq_true rfl) (Nat.le_of_ble_eq_true rfl) fun v O' FN vm T hQ N => ?_
            obtain ⟨rfl, rfl, rfl⟩ := hQ
            replace N := N.cast3 (O' := []) (RO' := []) (FZ' := []) rfl rfl rfl
            show Goes p e below _ (T.setTop (mkF m 593 #[.val (.int i0), .val (.int i1), .val (.int i2), .val (.int 1), .val (.int ((ushr i0 1) &&& 3)), .val (.int (i2 &&& 255)), .val (.int ((ushr i2 8) &&& 3)), .val (.int (i1 &&& 2147483647)), .val (.null), .val (.int 0), .unset, .unset, .unset] [.int 0]))
            refine N.iload (pc := 593) at_593 rfl ?_
            refine N.icmpneF (pc := 595) at_595 rfl ?_
            refine N.iconst (pc := 598) 1 at_598 rfl ?_
            refine N.goto (pc := 599) (pc' := 603) at_599 rfl ?_
            exact N.ireturn (pc := 603) [] (fun _ h => h) (List.forall_mem_nil _) (Nat.le_of_ble_eq_true rfl) (Nat.le_of_ble_eq_true rfl) (t := .boolean) at_603 rfl (by simp) rfl rfl
          · refine N.ifneT (pc := 548) (pc' := 557) at_548 rfl h4 ?_
            refine N.iload (pc := 557) at_557 rfl ?_
            refine N.iconst (pc := 559) 1 at_559 rfl ?_
            by_cases h5 : ((ushr i2 8) &&& 3) = 1
            · refine N.icmpneF (pc := 560) at_560 h5 ?_
              refine N.new (pc := 563) at_563 (w2 hw) (w3 hw) (w4 hw) (lay_java_lang_String hw) (Nat.le_of_ble_eq_true rfl) (Nat.le_of_ble_eq_true rfl) fun a21 T l_a21 N => ?_
              replace N := N.cast (O' := [(a21, .inl ("java/lang/String", [(("java/lang/String", "value", "[B"), .null), (("java/lang/String", "coder", "B"), .int 0)]))]) rfl
              refine N.dup (pc := 566) at_566 rfl ?_
              refine N.iconst (pc := 567) 0 at_567 rfl ?_
              refine N.newarray (pc := 568) 0 0 at_568 (w1 hw) rfl (by decide) (Nat.le_of_ble_eq_true rfl) (Nat.le_of_ble_eq_true rfl) (Nat.le_of_ble_eq_true rfl) (Nat.le_of_ble_eq_true rfl) fun a22 T l_a22 N => ?_
              replace N := N.cast (O' := [(a21, .inl ("java/lang/String", [(("java/lang/String", "value", "[B"), .null), (("java/lang/String", "coder", "B"), .int 0)])), (a22, aO .char [])]) rfl
              refine N.callI (pc := 570) (c_init3e G (a := a21) (b := a22)) [0] [1] at_570 rfl (w5 hw) (w6 hw) (w4 hw) (w7 hw) (by decide) pd9 rfl (st := [.ref a21]) rfl rfl rfl (by decide) (by decide) (ltAll rfl) rfl (Nat.le_of_ble_eq_true rfl) (Nat.le_of_ble_eq_true rfl) (Nat.le_of_ble_eq_true rfl) (Nat.le_of_ble_eq_true rfl) fun v O' FN vm T hQ N => ?_
              obtain ⟨b', rfl, rfl, rfl⟩ := hQ
              replace N := N.cast3 (O' := [(a21, .inl ("java/lang/String", [(("java/lang/String", "value", "[B"), .ref b'), (("java/lang/String", "coder", "B"), .int 0)])), (a22, aO .char [])]) (RO' := []) (FZ' := [(b', aO .byte [])]) rfl rfl rfl
              show Goes p e below _ (T.setTop (mkF m 573 #[.val (.int i0), .val (.int i1), .val (.int i2), .val (.int 1), .val (.int ((ushr i0 1) &&& 3)), .val (.int (i2 &&& 255)), .val (.int ((ushr i2 8) &&& 3)), .val (.int (i1 &&& 2147483647)), .unset, .unset, .unset, .unset, .unset] [.ref a21]))
              replace N := N.freeze (O' := [(a22, aO .char [])]) 0 rfl (Nat.le_of_ble_eq_true rfl) rfl
              replace N := N.str (cs := []) 1 0 rfl rfl (fun _ h => nomatch h)
              replace N := N.cast3 (O' := [(a22, aO .char [])]) (RO' := []) (FZ' := [(b', aO .byte []), (a21, .inl ("java/lang/String", [(("java/lang/String", "value", "[B"), .ref b'), (("java/lang/String", "coder", "B"), .int 0)])), (a21, tO ([]))]) rfl rfl rfl
              refine N.astore (pc := 573) (l' := #[.val (.int i0), .val (.int i1), .val (.int i2), .val (.int 1), .val (.int ((ushr i0 1) &&& 3)), .val (.int (i2 &&& 255)), .val (.int ((ushr i2 8) &&& 3)), .val (.int (i1 &&& 2147483647)), .val (.ref a21), .unset, .unset, .unset, .unset]) at_573 rfl rfl ?_
              refine N.goto (pc := 575) (pc' := 585) at_575 rfl ?_
              refine N.iconst (pc := 585) 0 at_585 rfl ?_
              refine N.istore (pc := 586) (l' := #[.val (.int i0), .val (.int i1), .val (.int i2), .val (.int 1), .val (.int ((ushr i0 1) &&& 3)), .val (.int (i2 &&& 255)), .val (.int ((ushr i2 8) &&& 3)), .val (.int (i1 &&& 2147483647)), .val (.ref a21), .val (.int 0), .unset, .unset, .unset]) at_586 rfl ?_
              refine N.aload (pc := 588) at_588 rfl rfl ?_
              refine N.callS (pc := 590) (c_isTimeKey G (a := a21) (cs := [])) [] [3] at_590 (w31 hw) (w32 hw) (w33 hw) (w34 hw) (by decide) pd10 rfl (st := []) rfl rfl rfl (by decide) (by decide) (ltAll rfl) rfl (Nat.le_of_ble_eq_true rfl) (Nat.le_of_ble_eq_true rfl) (Nat.le_of_ble_eq_true rfl) (Nat.le_of_ble_eq_true rfl) fun v O' FN vm T hQ N => ?_
              obtain ⟨r, rfl, rfl, rfl, hr⟩ := hQ
              replace N := N.cast3 (O' := [(a22, aO .char [])]) (RO' := []) (FZ' := [(b', aO .byte []), (a21, .inl ("java/lang/String", [(("java/lang/String", "value", "[B"), .ref b'), (("java/lang/String", "coder", "B"), .int 0)])), (a21, tO ([]))]) rfl rfl rfl
              show Goes p e below _ (T.setTop (mkF m 593 #[.val (.int i0), .val (.int i1), .val (.int i2), .val (.int 1), .val (.int ((ushr i0 1) &&& 3)), .val (.int (i2 &&& 255)), .val (.int ((ushr i2 8) &&& 3)), .val (.int (i1 &&& 2147483647)), .val (.ref a21), .val (.int 0), .unset, .unset, .unset] [.int r]))
              have hr' : r = 0 := by
                rcases hr with ⟨h1, h2⟩ | ⟨h1, h2⟩
                · exfalso; rcases h2 with q | q <;> simp at q
                · exact h1
              refine N.iload (pc := 593) at_593 rfl ?_
              refine N.icmpneF (pc := 595) at_595 hr' ?_
              refine N.iconst (pc := 598) 1 at_598 rfl ?_
              refine N.goto (pc := 599) (pc' := 603) at_599 rfl ?_
              exact N.ireturn (pc := 603) [] (fun _ h => h) (List.forall_mem_nil _) (Nat.le_of_ble_eq_true rfl) (Nat.le_of_ble_eq_true rfl) (t := .boolean) at_603 rfl (by simp) rfl rfl
            · refine N.icmpneT (pc := 560) (pc' := 578) at_560 rfl h5 ?_
              refine N.iload (pc := 578) at_578 rfl ?_
              refine N.callS (pc := 580) (c_valueOf G (x := i2 &&& 255) (lat_and i2)) [] [] at_580 (w50 hw) (w51 hw) (w4 hw) (w52 hw) (by decide) pd11 rfl (st := []) rfl rfl rfl (by decide) (by decide) (ltAll rfl) rfl (Nat.le_of_ble_eq_true rfl) (Nat.le_of_ble_eq_true rfl) (Nat.le_of_ble_eq_true rfl) (Nat.le_of_ble_eq_true rfl) fun v O' FN vm T hQ N => ?_
              obtain ⟨a', rfl, rfl, rfl⟩ := hQ
              replace N := N.cast3 (O' := []) (RO' := []) (FZ' := [(a', tO ([i2 &&& 255]))]) rfl rfl rfl
              show Goes p e below _ (T.setTop (mkF m 583 #[.val (.int i0), .val (.int i1), .val (.int i2), .val (.int 1), .val (.int ((ushr i0 1) &&& 3)), .val (.int (i2 &&& 255)), .val (.int ((ushr i2 8) &&& 3)), .val (.int (i1 &&& 2147483647)), .unset, .unset, .unset, .unset, .unset] [.ref a']))
              refine N.astore (pc := 583) (l' := #[.val (.int i0), .val (.int i1), .val (.int i2), .val (.int 1), .val (.int ((ushr i0 1) &&& 3)), .val (.int (i2 &&& 255)), .val (.int ((ushr i2 8) &&& 3)), .val (.int (i1 &&& 2147483647)), .val (.ref a'), .unset, .unset, .unset, .unset]) at_583 rfl rfl ?_
              refine N.iconst (pc := 585) 0 at_585 rfl ?_
              refine N.istore (pc := 586) (l' := #[.val (.int i0), .val (.int i1), .val (.int i2), .val (.int 1), .val (.int ((ushr i0 1) &&& 3)), .val (.int (i2 &&& 255)), .val (.int ((ushr i2 8) &&& 3)), .val (.int (i1 &&& 2147483647)), .val (.ref a'), .val (.int 0), .unset, .unset, .unset]) at_586 rfl ?_
              refine N.aload (pc := 588) at_588 rfl rfl ?_
              refine N.callS (pc := 590) (c_isTimeKey G (a := a') (cs := [i2 &&& 255])) [] [0] at_590 (w31 hw) (w32 hw) (w33 hw) (w34 hw) (by decide) pd10 rfl (st := []) rfl rfl rfl (by decide) (by decide) (ltAll rfl) rfl (Nat.le_of_ble_eq_true rfl) (Nat.le_of_ble_eq_true rfl) (Nat.le_of_ble_eq_true rfl) (Nat.le_of_ble_eq_true rfl) fun v O' FN vm T hQ N => ?_
              obtain ⟨r, rfl, rfl, rfl, hr⟩ := hQ
              replace N := N.cast3 (O' := []) (RO' := []) (FZ' := [(a', tO ([i2 &&& 255]))]) rfl rfl rfl
              show Goes p e below _ (T.setTop (mkF m 593 #[.val (.int i0), .val (.int i1), .val (.int i2), .val (.int 1), .val (.int ((ushr i0 1) &&& 3)), .val (.int (i2 &&& 255)), .val (.int ((ushr i2 8) &&& 3)), .val (.int (i1 &&& 2147483647)), .val (.ref a'), .val (.int 0), .unset, .unset, .unset] [.int r]))
              have hr' : r = 0 := by
                rcases hr with ⟨h1, h2⟩ | ⟨h1, h2⟩
                · exfalso; rcases h2 with q | q <;> simpa using congrArg List.length q
                · exact h1
              refine N.iload (pc := 593) at_593 rfl ?_
              refine N.icmpneF (pc := 595) at_595 hr' ?_
              refine N.iconst (pc := 598) 1 at_598 rfl ?_
              refine N.goto (pc := 599) (pc' := 603) at_599 rfl ?_
              exact N.ireturn (pc := 603) [] (fun _ h => h) (List.forall_mem_nil _) (Nat.le_of_ble_eq_true rfl) (Nat.le_of_ble_eq_true rfl) (t := .boolean) at_603 rfl (by simp) rfl rfl
  · refine N.ifneT (pc := 3) (pc' := 10) at_3 rfl h0 ?_
    refine N.iconst (pc := 10) 0 at_10 rfl ?_
    refine N.istoreN (pc := 11) (l' := #[.val (.int i0), .val (.int i1), .val (.int i2), .val (.int 0), .unset, .unset, .unset, .unset, .unset, .unset, .unset, .unset, .unset]) at_11 rfl ?_
    refine N.iloadN (pc := 12) at_12 rfl ?_
    refine N.iconst (pc := 13) 1 at_13 rfl ?_
    refine N.iushr (pc := 14) at_14 ?_
    refine N.iconst (pc := 15) 3 at_15 rfl ?_
    refine N.iand (pc := 16) at_16 ?_
    refine N.istore (pc := 17) (l' := #[.val (.int i0), .val (.int i1), .val (.int i2), .val (.int 0), .val (.int ((ushr i0 1) &&& 3)), .unset, .unset, .unset, .unset, .unset, .unset, .unset, .unset]) at_17 rfl ?_
    refine N.iloadN (pc := 19) at_19 rfl ?_
    refine N.sipush (pc := 20) 255 at_20 rfl ?_
    refine N.iand (pc := 23) at_23 ?_
    refine N.i2c (pc := 24) at_24 ?_
    rw [i2c_mask]
    refine N.istore (pc := 25) (l' := #[.val (.int i0), .val (.int i1), .val (.int i2), .val (.int 0), .val (.int ((ushr i0 1) &&& 3)), .val (.int (i2 &&& 255)), .unset, .unset, .unset, .unset, .unset, .unset, .unset]) at_25 rfl ?_
    refine N.iloadN (pc := 27) at_27 rfl ?_
    refine N.bipush (pc := 28) 8 at_28 rfl ?_
    refine N.iushr (pc := 30) at_30 ?_
    refine N.iconst (pc := 31) 3 at_31 rfl ?_
    refine N.iand (pc := 32) at_32 ?_
    refine N.istore (pc := 33) (l' := #[.val (.int i0), .val (.int i1), .val (.int i2), .val (.int 0), .val (.int ((ushr i0 1) &&& 3)), .val (.int (i2 &&& 255)), .val (.int ((ushr i2 8) &&& 3)), .unset, .unset, .unset, .unset, .unset, .unset]) at_33 rfl ?_
    refine N.iloadN (pc := 35) at_35 rfl ?_
    refine N.ldcI (pc := 36) (w0 hw) at_36 ?_
    refine N.iand (pc := 38) at_38 ?_
    refine N.istore (pc := 39) (l' := #[.val (.int i0), .val (.int i1), .val (.int i2), .val (.int 0), .val (.int ((ushr i0 1) &&& 3)), .val (.int (i2 &&& 255)), .val (.int ((ushr i2 8) &&& 3)), .val (.int (i1 &&& 2147483647)), .unset, .unset, .unset, .unset, .unset]) at_39 rfl ?_
    refine N.iload (pc := 41) at_41 rfl ?_
    by_cases h1 : ((ushr i0 1) &&& 3) = 0
    · refine N.ifneF (pc := 43) at_43 h1 ?_
      refine N.iloadN (pc := 46) at_46 rfl ?_
      refine N.ifeqT (pc := 47) (pc' := 153) at_47 rfl rfl ?_
      refine N.bipush (pc := 153) 7 at_153 rfl ?_
      refine N.newarray (pc := 155) 7 7 at_155 (w1 hw) rfl (by decide) (Nat.le_of_ble_eq_true rfl) (Nat.le_of_ble_eq_true rfl) (Nat.le_of_ble_eq_true rfl) (Nat.le_of_ble_eq_true rfl) fun a23 T l_a23 N => ?_
      replace N := N.cast (O' := [(a23, aO .char [.int 0, .int 0, .int 0, .int 0, .int 0, .int 0, .int 0])]) rfl
      refine N.dup (pc := 157) at_157 rfl ?_
      refine N.iconst (pc := 158) 0 at_158 rfl ?_
      refine N.bipush (pc := 159) 101 at_159 rfl ?_
      refine N.castore (pc := 161) (O' := [(a23, aO .char [.int 101, .int 0, .int 0, .int 0, .int 0, .int 0, .int 0])]) 0 0 at_161 rfl rfl (by decide) (Nat.le_of_ble_eq_true rfl) rfl rfl fun T N => ?_
      refine N.dup (pc := 162) at_162 rfl ?_
      refine N.iconst (pc := 163) 1 at_163 rfl ?_
      refine N.bipush (pc := 164) 110 at_164 rfl ?_
      refine N.castore (pc := 166) (O' := [(a23, aO .char [.int 101, .int 110, .int 0, .int 0, .int 0, .int 0, .int 0])]) 0 1 at_166 rfl rfl (by decide) (Nat.le_of_ble_eq_true rfl) rfl rfl fun T N => ?_
      refine N.dup (pc := 167) at_167 rfl ?_
      refine N.iconst (pc := 168) 2 at_168 rfl ?_
      refine N.bipush (pc := 169) 100 at_169 rfl ?_
      refine N.castore (pc := 171) (O' := [(a23, aO .char [.int 101, .int 110, .int 100, .int 0, .int 0, .int 0, .int 0])]) 0 2 at_171 rfl rfl (by decide) (Nat.le_of_ble_eq_true rfl) rfl rfl fun T N => ?_
      refine N.dup (pc := 172) at_172 rfl ?_
      refine N.iconst (pc := 173) 3 at_173 rfl ?_
      refine N.bipush (pc := 174) 84 at_174 rfl ?_
      refine N.castore (pc := 176) (O' := [(a23, aO .char [.int 101, .int 110, .int 100, .int 84, .int 0, .int 0, .int 0])]) 0 3 at_176 rfl rfl (by decide) (Nat.le_of_ble_eq_true rfl) rfl rfl fun T N => ?_
      refine N.dup (pc := 177) at_177 rfl ?_
      refine N.iconst (pc := 178) 4 at_178 rfl ?_
      refine N.bipush (pc := 179) 105 at_179 rfl ?_
      refine N.castore (pc := 181) (O' := [(a23, aO .char [.int 101, .int 110, .int 100, .int 84, .int 105, .int 0, .int 0])]) 0 4 at_181 rfl rfl (by decide) (Nat.le_of_ble_eq_true rfl) rfl rfl fun T N => ?_
      refine N.dup (pc := 182) at_182 rfl ?_
      refine N.iconst (pc := 183) 5 at_183 rfl ?_
      refine N.bipush (pc := 184) 109 at_184 rfl ?_
      refine N.castore (pc := 186) (O' := [(a23, aO .char [.int 101, .int 110, .int 100, .int 84, .int 105, .int 109, .int 0])]) 0 5 at_186 rfl rfl (by decide) (Nat.le_of_ble_eq_true rfl) rfl rfl fun T N => ?_
      refine N.dup (pc := 187) at_187 rfl ?_
      refine N.bipush (pc := 188) 6 at_188 rfl ?_
      refine N.bipush (pc := 190) 101 at_190 rfl ?_
      refine N.castore (pc := 192) (O' := [(a23, aO .char [.int 101, .int 110, .int 100, .int 84, .int 105, .int 109, .int 101])]) 0 6 at_192 rfl rfl (by decide) (Nat.le_of_ble_eq_true rfl) rfl rfl fun T N => ?_
      refine N.astore (pc := 193) (l' := #[.val (.int i0), .val (.int i1), .val (.int i2), .val (.int 0), .val (.int ((ushr i0 1) &&& 3)), .val (.int (i2 &&& 255)), .val (.int ((ushr i2 8) &&& 3)), .val (.int (i1 &&& 2147483647)), .unset, .unset, .val (.ref a23), .unset, .unset]) at_193 rfl rfl ?_
      refine N.iload (pc := 195) at_195 rfl ?_
      refine N.bipush (pc := 197) 7 at_197 rfl ?_
      refine N.irem (pc := 199) at_199 (by decide) ?_
      obtain ⟨p', hp', ep⟩ := mod_small i1 7 (by decide) (by decide)
      rw [show (i1 &&& 2147483647) % 7 = p'.toInt32 from ep]
      refine N.istore (pc := 200) (l' := #[.val (.int i0), .val (.int i1), .val (.int i2), .val (.int 0), .val (.int ((ushr i0 1) &&& 3)), .val (.int (i2 &&& 255)), .val (.int ((ushr i2 8) &&& 3)), .val (.int (i1 &&& 2147483647)), .unset, .unset, .val (.ref a23), .val (.int p'.toInt32), .unset]) at_200 rfl ?_
      refine N.aload (pc := 202) at_202 rfl rfl ?_
      refine N.iload (pc := 204) at_204 rfl ?_
      replace N := N.cast (O' := [(a23, aO .char ((endCs).map Value.int))]) rfl
      have hp31 : p' < 2 ^ 31 := by omega
      have hpl : p' < endCs.length := hp'
      refine N.caload (pc := 206) (v := .int (endCs[p']'hpl)) 0 p' at_206 rfl (n_nat hp31) (n_nneg hp31) (get_map hpl) ?_
      refine N.istore (pc := 207) (l' := #[.val (.int i0), .val (.int i1), .val (.int i2), .val (.int 0), .val (.int ((ushr i0 1) &&& 3)), .val (.int (i2 &&& 255)), .val (.int ((ushr i2 8) &&& 3)), .val (.int (i1 &&& 2147483647)), .unset, .unset, .val (.ref a23), .val (.int p'.toInt32), .val (.int (endCs[p']'hpl))]) at_207 rfl ?_
      refine N.aload (pc := 209) at_209 rfl rfl ?_
      refine N.iload (pc := 211) at_211 rfl ?_
      refine N.iload (pc := 213) at_213 rfl ?_
      refine N.castore (pc := 215) (O' := [(a23, aO .char ((endCs.set p' (i2 &&& 255)).map Value.int))]) 0 p' at_215 rfl (n_nat hp31) (n_nneg hp31) (by rw [List.length_map]; exact hpl) (by rw [nar_lat (lat_and i2)]) (by simp only [set_map]; rfl) fun T N => ?_
      refine N.new (pc := 216) at_216 (w2 hw) (w3 hw) (w4 hw) (lay_java_lang_String hw) (Nat.le_of_ble_eq_true rfl) (Nat.le_of_ble_eq_true rfl) fun a24 T l_a24 N => ?_
      replace N := N.cast (O' := [(a23, aO .char ((endCs.set p' (i2 &&& 255)).map Value.int)), (a24, .inl ("java/lang/String", [(("java/lang/String", "value", "[B"), .null), (("java/lang/String", "coder", "B"), .int 0)]))]) rfl
      refine N.dup (pc := 219) at_219 rfl ?_
      refine N.aload (pc := 220) at_220 rfl rfl ?_
      refine N.callI (pc := 222) (c_init3 G (a := a24) (b := a23) (cs := (endCs.set p' (i2 &&& 255))) (by rw [List.length_set]; decide) (by rw [List.length_set]; decide) (lat_set lat_end (lat_and i2))) [1] [0] at_222 rfl (w5 hw) (w6 hw) (w4 hw) (w7 hw) (by decide) pd9 rfl (st := [.ref a24]) rfl rfl rfl (by decide) (by decide) (ltAll rfl) rfl (Nat.le_of_ble_eq_true rfl) (Nat.le_of_ble_eq_true rfl) (Nat.le_of_ble_eq_true rfl) (Nat.le_of_ble_eq_true rfl) fun v O' FN vm T hQ N => ?_
      obtain ⟨b24, rfl, rfl, rfl⟩ := hQ
      replace N := N.cast3 (O' := [(a23, aO .char ((endCs.set p' (i2 &&& 255)).map Value.int)), (a24, .inl ("java/lang/String", [(("java/lang/String", "value", "[B"), .ref b24), (("java/lang/String", "coder", "B"), .int 0)])), (b24, aO .byte ((((endCs.set p' (i2 &&& 255))).map by8).map Value.int))]) (RO' := []) (FZ' := []) rfl rfl rfl
      show Goes p e below _ (T.setTop (mkF m 225 #[.val (.int i0), .val (.int i1), .val (.int i2), .val (.int 0), .val (.int ((ushr i0 1) &&& 3)), .val (.int (i2 &&& 255)), .val (.int ((ushr i2 8) &&& 3)), .val (.int (i1 &&& 2147483647)), .unset, .unset, .val (.ref a23), .val (.int p'.toInt32), .val (.int (endCs[p']'hpl))] [.ref a24]))
      replace N := N.freeze (O' := [(a23, aO .char ((endCs.set p' (i2 &&& 255)).map Value.int)), (b24, aO .byte ((((endCs.set p' (i2 &&& 255))).map by8).map Value.int))]) 1 rfl (Nat.le_of_ble_eq_true rfl) rfl
      replace N := N.freeze (O' := [(a23, aO .char ((endCs.set p' (i2 &&& 255)).map Value.int))]) 1 rfl (Nat.le_of_ble_eq_true rfl) rfl
      replace N := N.str (cs := (endCs.set p' (i2 &&& 255))) 0 1 rfl rfl (lat_set lat_end (lat_and i2))
      replace N := N.cast3 (O' := [(a23, aO .char ((endCs.set p' (i2 &&& 255)).map Value.int))]) (RO' := []) (FZ' := [(a24, .inl ("java/lang/String", [(("java/lang/String", "value", "[B"), .ref b24), (("java/lang/String", "coder", "B"), .int 0)])), (b24, aO .byte ((((endCs.set p' (i2 &&& 255))).map by8).map Value.int)), (a24, tO (endCs.set p' (i2 &&& 255)))]) rfl rfl rfl
      refine N.astore (pc := 225) (l' := #[.val (.int i0), .val (.int i1), .val (.int i2), .val (.int 0), .val (.int ((ushr i0 1) &&& 3)), .val (.int (i2 &&& 255)), .val (.int ((ushr i2 8) &&& 3)), .val (.int (i1 &&& 2147483647)), .val (.ref a24), .unset, .val (.ref a23), .val (.int p'.toInt32), .val (.int (endCs[p']'hpl))]) at_225 rfl rfl ?_
      refine N.iload (pc := 227) at_227 rfl ?_
      refine N.iload (pc := 229) at_229 rfl ?_
      by_cases h9 : (endCs[p']'hpl) = (i2 &&& 255)
      · refine N.icmpneF (pc := 231) at_231 h9 ?_
        refine N.iconst (pc := 234) 1 at_234 rfl ?_
        refine N.goto (pc := 235) (pc' := 239) at_235 rfl ?_
        refine N.istore (pc := 239) (l' := #[.val (.int i0), .val (.int i1), .val (.int i2), .val (.int 0), .val (.int ((ushr i0 1) &&& 3)), .val (.int (i2 &&& 255)), .val (.int ((ushr i2 8) &&& 3)), .val (.int (i1 &&& 2147483647)), .val (.ref a24), .val (.int 1), .val (.ref a23), .val (.int p'.toInt32), .val (.int (endCs[p']'hpl))]) at_239 rfl ?_
        refine N.goto (pc := 241) (pc' := 588) at_241 rfl ?_
        refine N.aload (pc := 588) at_588 rfl rfl ?_
        refine N.callS (pc := 590) (c_isTimeKey G (a := a24) (cs := (endCs.set p' (i2 &&& 255)))) [] [3] at_590 (w31 hw) (w32 hw) (w33 hw) (w34 hw) (by decide) pd10 rfl (st := []) rfl rfl rfl (by decide) (by decide) (ltAll rfl) rfl (Nat.le_of_ble_eq_true rfl) (Nat.le_of_ble_eq_true rfl) (Nat.le_of_ble_eq_true rfl) (Nat.le_of_ble_eq_true rfl) fun v O' FN vm T hQ N => ?_
        obtain ⟨r, rfl, rfl, rfl, hr⟩ := hQ
        replace N := N.cast3 (O' := [(a23, aO .char ((endCs.set p' (i2 &&& 255)).map Value.int))]) (RO' := []) (FZ' := [(a24, .inl ("java/lang/String", [(("java/lang/String", "value", "[B"), .ref b24), (("java/lang/String", "coder", "B"), .int 0)])), (b24, aO .byte ((((endCs.set p' (i2 &&& 255))).map by8).map Value.int)), (a24, tO (endCs.set p' (i2 &&& 255)))]) rfl rfl rfl
        show Goes p e below _ (T.setTop (mkF m 593 #[.val (.int i0), .val (.int i1), .val (.int i2), .val (.int 0), .val (.int ((ushr i0 1) &&& 3)), .val (.int (i2 &&& 255)), .val (.int ((ushr i2 8) &&& 3)), .val (.int (i1 &&& 2147483647)), .val (.ref a24), .val (.int 1), .val (.ref a23), .val (.int p'.toInt32), .val (.int (endCs[p']'hpl))] [.int r]))
        have hr' : r = 1 := by
          rcases hr with ⟨h1, h2⟩ | ⟨h1, h2⟩
          · exact h1
          · exact absurd (Or.inr (by rw [← h9]; exact List.set_getElem_self _)) h2
        refine N.iload (pc := 593) at_593 rfl ?_
        refine N.icmpneF (pc := 595) at_595 hr' ?_
        refine N.iconst (pc := 598) 1 at_598 rfl ?_
        refine N.goto (pc := 599) (pc' := 603) at_599 rfl ?_
        exact N.ireturn (pc := 603) [] (fun _ h => h) (List.forall_mem_nil _) (Nat.le_of_ble_eq_true rfl) (Nat.le_of_ble_eq_true rfl) (t := .boolean) at_603 rfl (by simp) rfl rfl
      · refine N.icmpneT (pc := 231) (pc' := 238) at_231 rfl h9 ?_
        refine N.iconst (pc := 238) 0 at_238 rfl ?_
        refine N.istore (pc := 239) (l' := #[.val (.int i0), .val (.int i1), .val (.int i2), .val (.int 0), .val (.int ((ushr i0 1) &&& 3)), .val (.int (i2 &&& 255)), .val (.int ((ushr i2 8) &&& 3)), .val (.int (i1 &&& 2147483647)), .val (.ref a24), .val (.int 0), .val (.ref a23), .val (.int p'.toInt32), .val (.int (endCs[p']'hpl))]) at_239 rfl ?_
        refine N.goto (pc := 241) (pc' := 588) at_241 rfl ?_
        refine N.aload (pc := 588) at_588 rfl rfl ?_
        refine N.callS (pc := 590) (c_isTimeKey G (a := a24) (cs := (endCs.set p' (i2 &&& 255)))) [] [3] at_590 (w31 hw) (w32 hw) (w33 hw) (w34 hw) (by decide) pd10 rfl (st := []) rfl rfl rfl (by decide) (by decide) (ltAll rfl) rfl (Nat.le_of_ble_eq_true rfl) (Nat.le_of_ble_eq_true rfl) (Nat.le_of_ble_eq_true rfl) (Nat.le_of_ble_eq_true rfl) fun v O' FN vm T hQ N => ?_
        obtain ⟨r, rfl, rfl, rfl, hr⟩ := hQ
        replace N := N.cast3 (O' := [(a23, aO .char ((endCs.set p' (i2 &&& 255)).map Value.int))]) (RO' := []) (FZ' := [(a24, .inl ("java/lang/String", [(("java/lang/String", "value", "[B"), .ref b24), (("java/lang/String", "coder", "B"), .int 0)])), (b24, aO .byte ((((endCs.set p' (i2 &&& 255))).map by8).map Value.int)), (a24, tO (endCs.set p' (i2 &&& 255)))]) rfl rfl rfl
        show Goes p e below _ (T.setTop (mkF m 593 #[.val (.int i0), .val (.int i1), .val (.int i2), .val (.int 0), .val (.int ((ushr i0 1) &&& 3)), .val (.int (i2 &&& 255)), .val (.int ((ushr i2 8) &&& 3)), .val (.int (i1 &&& 2147483647)), .val (.ref a24), .val (.int 0), .val (.ref a23), .val (.int p'.toInt32), .val (.int (endCs[p']'hpl))] [.int r]))
        have hr' : r = 0 := by
          rcases hr with ⟨h1, h2⟩ | ⟨h1, h2⟩
          · exact absurd h2 (fun z => z.elim (fun q => by simpa using congrArg List.length q) (fun q => h9 (set_ne hpl q)))
          · exact h1
        refine N.iload (pc := 593) at_593 rfl ?_
        refine N.icmpneF (pc := 595) at_595 hr' ?_
        refine N.iconst (pc := 598) 1 at_598 rfl ?_
        refine N.goto (pc := 599) (pc' := 603) at_599 rfl ?_
        exact N.ireturn (pc := 603) [] (fun _ h => h) (List.forall_mem_nil _) (Nat.le_of_ble_eq_true rfl) (Nat.le_of_ble_eq_true rfl) (t := .boolean) at_603 rfl (by simp) rfl rfl
    · refine N.ifneT (pc := 43) (pc' := 244) at_43 rfl h1 ?_
      refine N.iload (pc := 244) at_244 rfl ?_
      refine N.iconst (pc := 246) 1 at_246 rfl ?_
      by_cases h2 : ((ushr i0 1) &&& 3) = 1
      · refine N.icmpneF (pc := 247) at_247 h2 ?_
        refine N.iloadN (pc := 250) at_250 rfl ?_
        refine N.ifeqT (pc := 251) (pc' := 328) at_251 rfl rfl ?_
        refine N.bipush (pc := 328) 8 at_328 rfl ?_
        refine N.newarray (pc := 330) 8 8 at_330 (w1 hw) rfl (by decide) (Nat.le_of_ble_eq_true rfl) (Nat.le_of_ble_eq_true rfl) (Nat.le_of_ble_eq_true rfl) (Nat.le_of_ble_eq_true rfl) fun a25 T l_a25 N => ?_
        replace N := N.cast (O' := [(a25, aO .char [.int 0, .int 0, .int 0, .int 0, .int 0, .int 0, .int 0, .int 0])]) rfl
        refine N.dup (pc := 332) at_332 rfl ?_
        refine N.iconst (pc := 333) 0 at_333 rfl ?_
        refine N.bipush (pc := 334) 101 at_334 rfl ?_
        refine N.castore (pc := 336) (O' := [(a25, aO .char [.int 101, .int 0, .int 0, .int 0, .int 0, .int 0, .int 0, .int 0])]) 0 0 at_336 rfl rfl (by decide) (Nat.le_of_ble_eq_true rfl) rfl rfl fun T N => ?_
        refine N.dup (pc := 337) at_337 rfl ?_
        refine N.iconst (pc := 338) 1 at_338 rfl ?_
        refine N.bipush (pc := 339) 110 at_339 rfl ?_
        refine N.castore (pc := 341) (O' := [(a25, aO .char [.int 101, .int 110, .int 0, .int 0, .int 0, .int 0, .int 0, .int 0])]) 0 1 at_341 rfl rfl (by decide) (Nat.le_of_ble_eq_true rfl) rfl rfl fun T N => ?_
        refine N.dup (pc := 342) at_342 rfl ?_
        refine N.iconst (pc := 343) 2 at_343 rfl ?_
        refine N.bipush (pc := 344) 100 at_344 rfl ?_
        refine N.castore (pc := 346) (O' := [(a25, aO .char [.int 101, .int 110, .int 100, .int 0, .int 0, .int 0, .int 0, .int 0])]) 0 2 at_346 rfl rfl (by decide) (Nat.le_of_ble_eq_true rfl) rfl rfl fun T N => ?_
        refine N.dup (pc := 347) at_347 rfl ?_
        refine N.iconst (pc := 348) 3 at_348 rfl ?_
        refine N.bipush (pc := 349) 84 at_349 rfl ?_
        refine N.castore (pc := 351) (O' := [(a25, aO .char [.int 101, .int 110, .int 100, .int 84, .int 0, .int 0, .int 0, .int 0])]) 0 3 at_351 rfl rfl (by decide) (Nat.le_of_ble_eq_true rfl) rfl rfl fun T N => ?_
        refine N.dup (pc := 352) at_352 rfl ?_
        refine N.iconst (pc := 353) 4 at_353 rfl ?_
        refine N.bipush (pc := 354) 105 at_354 rfl ?_
        refine N.castore (pc := 356) (O' := [(a25, aO .char [.int 101, .int 110, .int 100, .int 84, .int 105, .int 0, .int 0, .int 0])]) 0 4 at_356 rfl rfl (by decide) (Nat.le_of_ble_eq_true rfl) rfl rfl fun T N => ?_
        refine N.dup (pc := 357) at_357 rfl ?_
        refine N.iconst (pc := 358) 5 at_358 rfl ?_
        refine N.bipush (pc := 359) 109 at_359 rfl ?_
        refine N.castore (pc := 361) (O' := [(a25, aO .char [.int 101, .int 110, .int 100, .int 84, .int 105, .int 109, .int 0, .int 0])]) 0 5 at_361 rfl rfl (by decide) (Nat.le_of_ble_eq_true rfl) rfl rfl fun T N => ?_
        refine N.dup (pc := 362) at_362 rfl ?_
        refine N.bipush (pc := 363) 6 at_363 rfl ?_
        refine N.bipush (pc := 365) 101 at_365 rfl ?_
        refine N.castore (pc := 367) (O' := [(a25, aO .char [.int 101, .int 110, .int 100, .int 84, .int 105, .int 109, .int 101, .int 0])]) 0 6 at_367 rfl rfl (by decide) (Nat.le_of_ble_eq_true rfl) rfl rfl fun T N => ?_
        refine N.dup (pc := 368) at_368 rfl ?_
        refine N.bipush (pc := 369) 7 at_369 rfl ?_
        refine N.iload (pc := 371) at_371 rfl ?_
        refine N.castore (pc := 373) (O' := [(a25, aO .char [.int 101, .int 110, .int 100, .int 84, .int 105, .int 109, .int 101, .int (i2 &&& 255)])]) 0 7 at_373 rfl rfl (by decide) (Nat.le_of_ble_eq_true rfl) (by rw [nar_lat (lat_and i2)]) rfl fun T N => ?_
        refine N.astore (pc := 374) (l' := #[.val (.int i0), .val (.int i1), .val (.int i2), .val (.int 0), .val (.int ((ushr i0 1) &&& 3)), .val (.int (i2 &&& 255)), .val (.int ((ushr i2 8) &&& 3)), .val (.int (i1 &&& 2147483647)), .unset, .unset, .val (.ref a25), .unset, .unset]) at_374 rfl rfl ?_
        refine N.new (pc := 376) at_376 (w2 hw) (w3 hw) (w4 hw) (lay_java_lang_String hw) (Nat.le_of_ble_eq_true rfl) (Nat.le_of_ble_eq_true rfl) fun a26 T l_a26 N => ?_
        replace N := N.cast (O' := [(a25, aO .char [.int 101, .int 110, .int 100, .int 84, .int 105, .int 109, .int 101, .int (i2 &&& 255)]), (a26, .inl ("java/lang/String", [(("java/lang/String", "value", "[B"), .null), (("java/lang/String", "coder", "B"), .int 0)]))]) rfl
        refine N.dup (pc := 379) at_379 rfl ?_
        refine N.aload (pc := 380) at_380 rfl rfl ?_
        replace N := N.cast (O' := [(a25, aO .char (((endCs ++ [i2 &&& 255])).map Value.int)), (a26, .inl ("java/lang/String", [(("java/lang/String", "value", "[B"), .null), (("java/lang/String", "coder", "B"), .int 0)]))]) rfl
        refine N.callI (pc := 382) (c_init3 G (a := a26) (b := a25) (cs := (endCs ++ [i2 &&& 255])) (by simp) (by simp) (lat_app lat_end (lat_and i2))) [1] [0] at_382 rfl (w5 hw) (w6 hw) (w4 hw) (w7 hw) (by decide) pd9 rfl (st := [.ref a26]) rfl rfl rfl (by decide) (by decide) (ltAll rfl) rfl (Nat.le_of_ble_eq_true rfl) (Nat.le_of_ble_eq_true rfl) (Nat.le_of_ble_eq_true rfl) (Nat.le_of_ble_eq_true rfl) fun v O' FN vm T hQ N => ?_
        obtain ⟨b26, rfl, rfl, rfl⟩ := hQ
        replace N := N.cast3 (O' := [(a25, aO .char (((endCs ++ [i2 &&& 255])).map Value.int)), (a26, .inl ("java/lang/String", [(("java/lang/String", "value", "[B"), .ref b26), (("java/lang/String", "coder", "B"), .int 0)])), (b26, aO .byte ((((endCs ++ [i2 &&& 255])).map by8).map Value.int))]) (RO' := []) (FZ' := []) rfl rfl rfl
        show Goes p e below _ (T.setTop (mkF m 385 #[.val (.int i0), .val (.int i1), .val (.int i2), .val (.int 0), .val (.int ((ushr i0 1) &&& 3)), .val (.int (i2 &&& 255)), .val (.int ((ushr i2 8) &&& 3)), .val (.int (i1 &&& 2147483647)), .unset, .unset, .val (.ref a25), .unset, .unset] [.ref a26]))
        replace N := N.freeze (O' := [(a25, aO .char (((endCs ++ [i2 &&& 255])).map Value.int)), (b26, aO .byte ((((endCs ++ [i2 &&& 255])).map by8).map Value.int))]) 1 rfl (Nat.le_of_ble_eq_true rfl) rfl
        replace N := N.freeze (O' := [(a25, aO .char (((endCs ++ [i2 &&& 255])).map Value.int))]) 1 rfl (Nat.le_of_ble_eq_true rfl) rfl
        replace N := N.str (cs := (endCs ++ [i2 &&& 255])) 0 1 rfl rfl (lat_app lat_end (lat_and i2))
        replace N := N.cast3 (O' := [(a25, aO .char (((endCs ++ [i2 &&& 255])).map Value.int))]) (RO' := []) (FZ' := [(a26, .inl ("java/lang/String", [(("java/lang/String", "value", "[B"), .ref b26), (("java/lang/String", "coder", "B"), .int 0)])), (b26, aO .byte ((((endCs ++ [i2 &&& 255])).map by8).map Value.int)), (a26, tO (endCs ++ [i2 &&& 255]))]) rfl rfl rfl
        refine N.astore (pc := 385) (l' := #[.val (.int i0), .val (.int i1), .val (.int i2), .val (.int 0), .val (.int ((ushr i0 1) &&& 3)), .val (.int (i2 &&& 255)), .val (.int ((ushr i2 8) &&& 3)), .val (.int (i1 &&& 2147483647)), .val (.ref a26), .unset, .val (.ref a25), .unset, .unset]) at_385 rfl rfl ?_
        refine N.iconst (pc := 387) 0 at_387 rfl ?_
        refine N.istore (pc := 388) (l' := #[.val (.int i0), .val (.int i1), .val (.int i2), .val (.int 0), .val (.int ((ushr i0 1) &&& 3)), .val (.int (i2 &&& 255)), .val (.int ((ushr i2 8) &&& 3)), .val (.int (i1 &&& 2147483647)), .val (.ref a26), .val (.int 0), .val (.ref a25), .unset, .unset]) at_388 rfl ?_
        refine N.goto (pc := 390) (pc' := 588) at_390 rfl ?_
        refine N.aload (pc := 588) at_588 rfl rfl ?_
        refine N.callS (pc := 590) (c_isTimeKey G (a := a26) (cs := (endCs ++ [i2 &&& 255]))) [] [3] at_590 (w31 hw) (w32 hw) (w33 hw) (w34 hw) (by decide) pd10 rfl (st := []) rfl rfl rfl (by decide) (by decide) (ltAll rfl) rfl (Nat.le_of_ble_eq_true rfl) (Nat.le_of_ble_eq_true rfl) (Nat.le_of_ble_eq_true rfl) (Nat.le_of_ble_eq_true rfl) fun v O' FN vm T hQ N => ?_
        obtain ⟨r, rfl, rfl, rfl, hr⟩ := hQ
        replace N := N.cast3 (O' := [(a25, aO .char (((endCs ++ [i2 &&& 255])).map Value.int))]) (RO' := []) (FZ' := [(a26, .inl ("java/lang/String", [(("java/lang/String", "value", "[B"), .ref b26), (("java/lang/String", "coder", "B"), .int 0)])), (b26, aO .byte ((((endCs ++ [i2 &&& 255])).map by8).map Value.int)), (a26, tO (endCs ++ [i2 &&& 255]))]) rfl rfl rfl
        show Goes p e below _ (T.setTop (mkF m 593 #[.val (.int i0), .val (.int i1), .val (.int i2), .val (.int 0), .val (.int ((ushr i0 1) &&& 3)), .val (.int (i2 &&& 255)), .val (.int ((ushr i2 8) &&& 3)), .val (.int (i1 &&& 2147483647)), .val (.ref a26), .val (.int 0), .val (.ref a25), .unset, .unset] [.int r]))
        have hr' : r = 0 := by
          rcases hr with ⟨h1, h2⟩ | ⟨h1, h2⟩
          · exfalso; rcases h2 with q | q <;> simpa using congrArg List.length q
          · exact h1
        refine N.iload (pc := 593) at_593 rfl ?_
        refine N.icmpneF (pc := 595) at_595 hr' ?_
        refine N.iconst (pc := 598) 1 at_598 rfl ?_
        refine N.goto (pc := 599) (pc' := 603) at_599 rfl ?_
        exact N.ireturn (pc := 603) [] (fun _ h => h) (List.forall_mem_nil _) (Nat.le_of_ble_eq_true rfl) (Nat.le_of_ble_eq_true rfl) (t := .boolean) at_603 rfl (by simp) rfl rfl
      · refine N.icmpneT (pc := 247) (pc' := 393) at_247 rfl h2 ?_
        refine N.iload (pc := 393) at_393 rfl ?_
        refine N.iconst (pc := 395) 2 at_395 rfl ?_
        by_cases h3 : ((ushr i0 1) &&& 3) = 2
        · refine N.icmpneF (pc := 396) at_396 h3 ?_
          refine N.iloadN (pc := 399) at_399 rfl ?_
          refine N.ifeqT (pc := 400) (pc' := 479) at_400 rfl rfl ?_
          refine N.bipush (pc := 479) 6 at_479 rfl ?_
          refine N.newarray (pc := 481) 6 6 at_481 (w1 hw) rfl (by decide) (Nat.le_of_ble_eq_true rfl) (Nat.le_of_ble_eq_true rfl) (Nat.le_of_ble_eq_true rfl) (Nat.le_of_ble_eq_true rfl) fun a27 T l_a27 N => ?_
          replace N := N.cast (O' := [(a27, aO .char [.int 0, .int 0, .int 0, .int 0, .int 0, .int 0])]) rfl
          refine N.dup (pc := 483) at_483 rfl ?_
          refine N.iconst (pc := 484) 0 at_484 rfl ?_
          refine N.bipush (pc := 485) 101 at_485 rfl ?_
          refine N.castore (pc := 487) (O' := [(a27, aO .char [.int 101, .int 0, .int 0, .int 0, .int 0, .int 0])]) 0 0 at_487 rfl rfl (by decide) (Nat.le_of_ble_eq_true rfl) rfl rfl fun T N => ?_
          refine N.dup (pc := 488) at_488 rfl ?_
          refine N.iconst (pc := 489) 1 at_489 rfl ?_
          refine N.bipush (pc := 490) 110 at_490 rfl ?_
          refine N.castore (pc := 492) (O' := [(a27, aO .char [.int 101, .int 110, .int 0, .int 0, .int 0, .int 0])]) 0 1 at_492 rfl rfl (by decide) (Nat.le_of_ble_eq_true rfl) rfl rfl fun T N => ?_
          refine N.dup (pc := 493) at_493 rfl ?_
          refine N.iconst (pc := 494) 2 at_494 rfl ?_
          refine N.bipush (pc := 495) 100 at_495 rfl ?_
          refine N.castore (pc := 497) (O' := [(a27, aO .char [.int 101, .int 110, .int 100, .int 0, .int 0, .int 0])]) 0 2 at_497 rfl rfl (by decide) (Nat.le_of_ble_eq_true rfl) rfl rfl fun T N => ?_
          refine N.dup (pc := 498) at_498 rfl ?_
          refine N.iconst (pc := 499) 3 at_499 rfl ?_
          refine N.bipush (pc := 500) 84 at_500 rfl ?_
          refine N.castore (pc := 502) (O' := [(a27, aO .char [.int 101, .int 110, .int 100, .int 84, .int 0, .int 0])]) 0 3 at_502 rfl rfl (by decide) (Nat.le_of_ble_eq_true rfl) rfl rfl fun T N => ?_
          refine N.dup (pc := 503) at_503 rfl ?_
          refine N.iconst (pc := 504) 4 at_504 rfl ?_
          refine N.bipush (pc := 505) 105 at_505 rfl ?_
          refine N.castore (pc := 507) (O' := [(a27, aO .char [.int 101, .int 110, .int 100, .int 84, .int 105, .int 0])]) 0 4 at_507 rfl rfl (by decide) (Nat.le_of_ble_eq_true rfl) rfl rfl fun T N => ?_
          refine N.dup (pc := 508) at_508 rfl ?_
          refine N.iconst (pc := 509) 5 at_509 rfl ?_
          refine N.bipush (pc := 510) 109 at_510 rfl ?_
          refine N.castore (pc := 512) (O' := [(a27, aO .char [.int 101, .int 110, .int 100, .int 84, .int 105, .int 109])]) 0 5 at_512 rfl rfl (by decide) (Nat.le_of_ble_eq_true rfl) rfl rfl fun T N => ?_
          refine N.astore (pc := 513) (l' := #[.val (.int i0), .val (.int i1), .val (.int i2), .val (.int 0), .val (.int ((ushr i0 1) &&& 3)), .val (.int (i2 &&& 255)), .val (.int ((ushr i2 8) &&& 3)), .val (.int (i1 &&& 2147483647)), .unset, .unset, .val (.ref a27), .unset, .unset]) at_513 rfl rfl ?_
          refine N.iload (pc := 515) at_515 rfl ?_
          refine N.bipush (pc := 517) 6 at_517 rfl ?_
          refine N.irem (pc := 519) at_519 (by decide) ?_
          obtain ⟨p', hp', ep⟩ := mod_small i1 6 (by decide) (by decide)
          rw [show (i1 &&& 2147483647) % 6 = p'.toInt32 from ep]
          refine N.istore (pc := 520) (l' := #[.val (.int i0), .val (.int i1), .val (.int i2), .val (.int 0), .val (.int ((ushr i0 1) &&& 3)), .val (.int (i2 &&& 255)), .val (.int ((ushr i2 8) &&& 3)), .val (.int (i1 &&& 2147483647)), .unset, .unset, .val (.ref a27), .val (.int p'.toInt32), .unset]) at_520 rfl ?_
          refine N.aload (pc := 522) at_522 rfl rfl ?_
          refine N.iload (pc := 524) at_524 rfl ?_
          refine N.iload (pc := 526) at_526 rfl ?_
          replace N := N.cast (O' := [(a27, aO .char ((([101, 110, 100, 84, 105, 109] : List Int32)).map Value.int))]) rfl
          have hp31 : p' < 2 ^ 31 := by omega
          have hpl : p' < ([101, 110, 100, 84, 105, 109] : List Int32).length := hp'
          refine N.castore (pc := 528) (O' := [(a27, aO .char ((([101, 110, 100, 84, 105, 109] : List Int32).set p' (i2 &&& 255)).map Value.int))]) 0 p' at_528 rfl (n_nat hp31) (n_nneg hp31) (by rw [List.length_map]; exact hpl) (by rw [nar_lat (lat_and i2)]) (by simp only [set_map]; rfl) fun T N => ?_
          refine N.new (pc := 529) at_529 (w2 hw) (w3 hw) (w4 hw) (lay_java_lang_String hw) (Nat.le_of_ble_eq_true rfl) (Nat.le_of_ble_eq_true rfl) fun a28 T l_a28 N => ?_
          replace N := N.cast (O' := [(a27, aO .char ((([101, 110, 100, 84, 105, 109] : List Int32).set p' (i2 &&& 255)).map Value.int)), (a28, .inl ("java/lang/String", [(("java/lang/String", "value", "[B"), .null), (("java/lang/String", "coder", "B"), .int 0)]))]) rfl
          refine N.dup (pc := 532) at_532 rfl ?_
          refine N.aload (pc := 533) at_533 rfl rfl ?_
          refine N.callI (pc := 535) (c_init3 G (a := a28) (b := a27) (cs := (([101, 110, 100, 84, 105, 109] : List Int32).set p' (i2 &&& 255))) (by rw [List.length_set]; decide) (by rw [List.length_set]; decide) (lat_set (by unfold Lat; decide) (lat_and i2))) [1] [0] at_535 rfl (w5 hw) (w6 hw) (w4 hw) (w7 hw) (by decide) pd9 rfl (st := [.ref a28]) rfl rfl rfl (by decide) (by decide) (ltAll rfl) rfl (Nat.le_of_ble_eq_true rfl) (Nat.le_of_ble_eq_true rfl) (Nat.le_of_ble_eq_true rfl) (Nat.le_of_ble_eq_true rfl) fun v O' FN vm T hQ N => ?_
          obtain ⟨b28, rfl, rfl, rfl⟩ := hQ
          replace N := N.cast3 (O' := [(a27, aO .char ((([101, 110, 100, 84, 105, 109] : List Int32).set p' (i2 &&& 255)).map Value.int)), (a28, .inl ("java/lang/String", [(("java/lang/String", "value", "[B"), .ref b28), (("java/lang/String", "coder", "B"), .int 0)])), (b28, aO .byte ((((([101, 110, 100, 84, 105, 109] : List Int32).set p' (i2 &&& 255))).map by8).map Value.int))]) (RO' := []) (FZ' := []) rfl rfl rfl
          show Goes p e below _ (T.setTop (mkF m 538 #[.val (.int i0), .val (.int i1), .val (.int i2), .val (.int 0), .val (.int ((ushr i0 1) &&& 3)), .val (.int (i2 &&& 255)), .val (.int ((ushr i2 8) &&& 3)), .val (.int (i1 &&& 2147483647)), .unset, .unset, .val (.ref a27), .val (.int p'.toInt32), .unset] [.ref a28]))
          replace N := N.freeze (O' := [(a27, aO .char ((([101, 110, 100, 84, 105, 109] : List Int32).set p' (i2 &&& 255)).map Value.int)), (b28, aO .byte ((((([101, 110, 100, 84, 105, 109] : List Int32).set p' (i2 &&& 255))).map by8).map Value.int))]) 1 rfl (Nat.le_of_ble_eq_true rfl) rfl
          replace N := N.freeze (O' := [(a27, aO .char ((([101, 110, 100, 84, 105, 109] : List Int32).set p' (i2 &&& 255)).map Value.int))]) 1 rfl (Nat.le_of_ble_eq_true rfl) rfl
          replace N := N.str (cs := (([101, 110, 100, 84, 105, 109] : List Int32).set p' (i2 &&& 255))) 0 1 rfl rfl (lat_set (by unfold Lat; decide) (lat_and i2))
          replace N := N.cast3 (O' := [(a27, aO .char ((([101, 110, 100, 84, 105, 109] : List Int32).set p' (i2 &&& 255)).map Value.int))]) (RO' := []) (FZ' := [(a28, .inl ("java/lang/String", [(("java/lang/String", "value", "[B"), .ref b28), (("java/lang/String", "coder", "B"), .int 0)])), (b28, aO .byte ((((([101, 110, 100, 84, 105, 109] : List Int32).set p' (i2 &&& 255))).map by8).map Value.int)), (a28, tO (([101, 110, 100, 84, 105, 109] : List Int32).set p' (i2 &&& 255)))]) rfl rfl rfl
          refine N.astore (pc := 538) (l' := #[.val (.int i0), .val (.int i1), .val (.int i2), .val (.int 0), .val (.int ((ushr i0 1) &&& 3)), .val (.int (i2 &&& 255)), .val (.int ((ushr i2 8) &&& 3)), .val (.int (i1 &&& 2147483647)), .val (.ref a28), .unset, .val (.ref a27), .val (.int p'.toInt32), .unset]) at_538 rfl rfl ?_
          refine N.iconst (pc := 540) 0 at_540 rfl ?_
          refine N.istore (pc := 541) (l' := #[.val (.int i0), .val (.int i1), .val (.int i2), .val (.int 0), .val (.int ((ushr i0 1) &&& 3)), .val (.int (i2 &&& 255)), .val (.int ((ushr i2 8) &&& 3)), .val (.int (i1 &&& 2147483647)), .val (.ref a28), .val (.int 0), .val (.ref a27), .val (.int p'.toInt32), .unset]) at_541 rfl ?_
          refine N.goto (pc := 543) (pc' := 588) at_543 rfl ?_
          refine N.aload (pc := 588) at_588 rfl rfl ?_
          refine N.callS (pc := 590) (c_isTimeKey G (a := a28) (cs := (([101, 110, 100, 84, 105, 109] : List Int32).set p' (i2 &&& 255)))) [] [3] at_590 (w31 hw) (w32 hw) (w33 hw) (w34 hw) (by decide) pd10 rfl (st := []) rfl rfl rfl (by decide) (by decide) (ltAll rfl) rfl (Nat.le_of_ble_eq_true rfl) (Nat.le_of_ble_eq_true rfl) (Nat.le_of_ble_eq_true rfl) (Nat.le_of_ble_eq_true rfl) fun v O' FN vm T hQ N => ?_
          obtain ⟨r, rfl, rfl, rfl, hr⟩ := hQ
          replace N := N.cast3 (O' := [(a27, aO .char ((([101, 110, 100, 84, 105, 109] : List Int32).set p' (i2 &&& 255)).map Value.int))]) (RO' := []) (FZ' := [(a28, .inl ("java/lang/String", [(("java/lang/String", "value", "[B"), .ref b28), (("java/lang/String", "coder", "B"), .int 0)])), (b28, aO .byte ((((([101, 110, 100, 84, 105, 109] : List Int32).set p' (i2 &&& 255))).map by8).map Value.int)), (a28, tO (([101, 110, 100, 84, 105, 109] : List Int32).set p' (i2 &&& 255)))]) rfl rfl rfl
          show Goes p e below _ (T.setTop (mkF m 593 #[.val (.int i0), .val (.int i1), .val (.int i2), .val (.int 0), .val (.int ((ushr i0 1) &&& 3)), .val (.int (i2 &&& 255)), .val (.int ((ushr i2 8) &&& 3)), .val (.int (i1 &&& 2147483647)), .val (.ref a28), .val (.int 0), .val (.ref a27), .val (.int p'.toInt32), .unset] [.int r]))
          have hr' : r = 0 := by
            rcases hr with ⟨h1, h2⟩ | ⟨h1, h2⟩
            · exfalso; rcases h2 with q | q <;> simpa using congrArg List.length q
            · exact h1
          refine N.iload (pc := 593) at_593 rfl ?_
          refine N.icmpneF (pc := 595) at_595 hr' ?_
          refine N.iconst (pc := 598) 1 at_598 rfl ?_
          refine N.goto (pc := 599) (pc' := 603) at_599 rfl ?_
          exact N.ireturn (pc := 603) [] (fun _ h => h) (List.forall_mem_nil _) (Nat.le_of_ble_eq_true rfl) (Nat.le_of_ble_eq_true rfl) (t := .boolean) at_603 rfl (by simp) rfl rfl
        · refine N.icmpneT (pc := 396) (pc' := 546) at_396 rfl h3 ?_
          refine N.iload (pc := 546) at_546 rfl ?_
          by_cases h4 : ((ushr i2 8) &&& 3) = 0
          · refine N.ifneF (pc := 548) at_548 h4 ?_
            refine N.aconst (pc := 551) at_551 ?_
            refine N.astore (pc := 552) (l' := #[.val (.int i0), .val (.int i1), .val (.int i2), .val (.int 0), .val (.int ((ushr i0 1) &&& 3)), .val (.int (i2 &&& 255)), .val (.int ((ushr i2 8) &&& 3)), .val (.int (i1 &&& 2147483647)), .val (.null), .unset, .unset, .unset, .unset]) at_552 rfl rfl ?_
            refine N.goto (pc := 554) (pc' := 585) at_554 rfl ?_
            refine N.iconst (pc := 585) 0 at_585 rfl ?_
            refine N.istore (pc := 586) (l' := #[.val (.int i0), .val (.int i1), .val (.int i2), .val (.int 0), .val (.int ((ushr i0 1) &&& 3)), .val (.int (i2 &&& 255)), .val (.int ((ushr i2 8) &&& 3)), .val (.int (i1 &&& 2147483647)), .val (.null), .val (.int 0), .unset, .unset, .unset]) at_586 rfl ?_
            refine N.aload (pc := 588) at_588 rfl rfl ?_
            refine N.callS (pc := 590) (c_isTimeKeyNull G ) [] [] at_590 (w31 hw) (w32 hw) (w33 hw) (w34 hw) (by decide) pd10 rfl (st := []) rfl rfl rfl (by decide) (by decide) (ltAll rfl) rfl (Nat.le_of_ble_eq_true rfl) (Nat.le_of_ble_eq_true rfl) (Nat.le_of_ble_eq_true rfl) (Nat.le_of_ble_eq_true rfl) fun v O' FN vm T hQ N => ?_
            obtain ⟨rfl, rfl, rfl⟩ := hQ
            replace N := N.cast3 (O' := []) (RO' := []) (FZ' := []) rfl rfl rfl
            show Goes p e below _ (T.setTop (mkF m 593 #[.val (.int i0), .val (.int i1), .val (.int i2), .val (.int 0), .val (.int ((ushr i0 1) &&& 3)), .val (.int (i2 &&& 255)), .val (.int ((ushr i2 8) &&& 3)), .val (.int (i1 &&& 2147483647)), .val (.null), .val (.int 0), .unset, .unset, .unset] [.int 0]))
            refine N.iload (pc := 593) at_593 rfl ?_
            refine N.icmpneF (pc := 595) at_595 rfl ?_
            refine N.iconst (pc := 598) 1 at_598 rfl ?_
            refine N.goto (pc := 599) (pc' := 603) at_599 rfl ?_
            exact N.ireturn (pc := 603) [] (fun _ h => h) (List.forall_mem_nil _) (Nat.le_of_ble_eq_true rfl) (Nat.le_of_ble_eq_true rfl) (t := .boolean) at_603 rfl (by simp) rfl rfl
          · refine N.ifneT (pc := 548) (pc' := 557) at_548 rfl h4 ?_
            refine N.iload (pc := 557) at_557 rfl ?_
            refine N.iconst (pc := 559) 1 at_559 rfl ?_
            by_cases h5 : ((ushr i2 8) &&& 3) = 1
            · refine N.icmpneF (pc := 560) at_560 h5 ?_
              refine N.new (pc := 563) at_563 (w2 hw) (w3 hw) (w4 hw) (lay_java_lang_String hw) (Nat.le_of_ble_eq_true rfl) (Nat.le_of_ble_eq_true rfl) fun a29 T l_a29 N => ?_
              replace N := N.cast (O' := [(a29, .inl ("java/lang/String", [(("java/lang/String", "value", "[B"), .null), (("java/lang/String", "coder", "B"), .int 0)]))]) rfl
              refine N.dup (pc := 566) at_566 rfl ?_
              refine N.iconst (pc := 567) 0 at_567 rfl ?_
              refine N.newarray (pc := 568) 0 0 at_568 (w1 hw) rfl (by decide) (Nat.le_of_ble_eq_true rfl) (Nat.le_of_ble_eq_true rfl) (Nat.le_of_ble_eq_true rfl) (Nat.le_of_ble_eq_true rfl) fun a30 T l_a30 N => ?_
              replace N := N.cast (O' := [(a29, .inl ("java/lang/String", [(("java/lang/String", "value", "[B"), .null), (("java/lang/String", "coder", "B"), .int 0)])), (a30, aO .char [])]) rfl
              refine N.callI (pc := 570) (c_init3e G (a := a29) (b := a30)) [0] [1] at_570 rfl (w5 hw) (w6 hw) (w4 hw) (w7 hw) (by decide) pd9 rfl (st := [.ref a29]) rfl rfl rfl (by decide) (by decide) (ltAll rfl) rfl (Nat.le_of_ble_eq_true rfl) (Nat.le_of_ble_eq_true rfl) (Nat.le_of_ble_eq_true rfl) (Nat.le_of_ble_eq_true rfl) fun v O' FN vm T hQ N => ?_
              obtain ⟨b', rfl, rfl, rfl⟩ := hQ
              replace N := N.cast3 (O' := [(a29, .inl ("java/lang/String", [(("java/lang/String", "value", "[B"), .ref b'), (("java/lang/String", "coder", "B"), .int 0)])), (a30, aO .char [])]) (RO' := []) (FZ' := [(b', aO .byte [])]) rfl rfl rfl
              show Goes p e below _ (T.setTop (mkF m 573 #[.val (.int i0), .val (.int i1), .val (.int i2), .val (.int 0), .val (.int ((ushr i0 1) &&& 3)), .val (.int (i2 &&& 255)), .val (.int ((ushr i2 8) &&& 3)), .val (.int (i1 &&& 2147483647)), .unset, .unset, .unset, .unset, .unset] [.ref a29]))
              replace N := N.freeze (O' := [(a30, aO .char [])]) 0 rfl (Nat.le_of_ble_eq_true rfl) rfl
              replace N := N.str (cs := []) 1 0 rfl rfl (fun _ h => nomatch h)
              replace N := N.cast3 (O' := [(a30, aO .char [])]) (RO' := []) (FZ' := [(b', aO .byte []), (a29, .inl ("java/lang/String", [(("java/lang/String", "value", "[B"), .ref b'), (("java/lang/String", "coder", "B"), .int 0)])), (a29, tO ([]))]) rfl rfl rfl
              refine N.astore (pc := 573) (l' := #[.val (.int i0), .val (.int i1), .val (.int i2), .val (.int 0), .val (.int ((ushr i0 1) &&& 3)), .val (.int (i2 &&& 255)), .val (.int ((ushr i2 8) &&& 3)), .val (.int (i1 &&& 2147483647)), .val (.ref a29), .unset, .unset, .unset, .unset]) at_573 rfl rfl ?_
              refine N.goto (pc := 575) (pc' := 585) at_575 rfl ?_
              refine N.iconst (pc := 585) 0 at_585 rfl ?_
              refine N.istore (pc := 586) (l' := #[.val (.int i0), .val (.int i1), .val (.int i2), .val (.int 0), .val (.int ((ushr i0 1) &&& 3)), .val (.int (i2 &&& 255)), .val (.int ((ushr i2 8) &&& 3)), .val (.int (i1 &&& 2147483647)), .val (.ref a29), .val (.int 0), .unset, .unset, .unset]) at_586 rfl ?_
              refine N.aload (pc := 588) at_588 rfl rfl ?_
              refine N.callS (pc := 590) (c_isTimeKey G (a := a29) (cs := [])) [] [3] at_590 (w31 hw) (w32 hw) (w33 hw) (w34 hw) (by decide) pd10 rfl (st := []) rfl rfl rfl (by decide) (by decide) (ltAll rfl) rfl (Nat.le_of_ble_eq_true rfl) (Nat.le_of_ble_eq_true rfl) (Nat.le_of_ble_eq_true rfl) (Nat.le_of_ble_eq_true rfl) fun v O' FN vm T hQ N => ?_
              obtain ⟨r, rfl, rfl, rfl, hr⟩ := hQ
              replace N := N.cast3 (O' := [(a30, aO .char [])]) (RO' := []) (FZ' := [(b', aO .byte []), (a29, .inl ("java/lang/String", [(("java/lang/String", "value", "[B"), .ref b'), (("java/lang/String", "coder", "B"), .int 0)])), (a29, tO ([]))]) rfl rfl rfl
              show Goes p e below _ (T.setTop (mkF m 593 #[.val (.int i0), .val (.int i1), .val (.int i2), .val (.int 0), .val (.int ((ushr i0 1) &&& 3)), .val (.int (i2 &&& 255)), .val (.int ((ushr i2 8) &&& 3)), .val (.int (i1 &&& 2147483647)), .val (.ref a29), .val (.int 0), .unset, .unset, .unset] [.int r]))
              have hr' : r = 0 := by
                rcases hr with ⟨h1, h2⟩ | ⟨h1, h2⟩
                · exfalso; rcases h2 with q | q <;> simp at q
                · exact h1
              refine N.iload (pc := 593) at_593 rfl ?_
              refine N.icmpneF (pc := 595) at_595 hr' ?_
              refine N.iconst (pc := 598) 1 at_598 rfl ?_
              refine N.goto (pc := 599) (pc' := 603) at_599 rfl ?_
              exact N.ireturn (pc := 603) [] (fun _ h => h) (List.forall_mem_nil _) (Nat.le_of_ble_eq_true rfl) (Nat.le_of_ble_eq_true rfl) (t := .boolean) at_603 rfl (by simp) rfl rfl
            · refine N.icmpneT (pc := 560) (pc' := 578) at_560 rfl h5 ?_
              refine N.iload (pc := 578) at_578 rfl ?_
              refine N.callS (pc := 580) (c_valueOf G (x := i2 &&& 255) (lat_and i2)) [] [] at_580 (w50 hw) (w51 hw) (w4 hw) (w52 hw) (by decide) pd11 rfl (st := []) rfl rfl rfl (by decide) (by decide) (ltAll rfl) rfl (Nat.le_of_ble_eq_true rfl) (Nat.le_of_ble_eq_true rfl) (Nat.le_of_ble_eq_true rfl) (Nat.le_of_ble_eq_true rfl) fun v O' FN vm T hQ N => ?_
              obtain ⟨a', rfl, rfl, rfl⟩ := hQ
              replace N := N.cast3 (O' := []) (RO' := []) (FZ' := [(a', tO ([i2 &&& 255]))]) rfl rfl rfl
              show Goes p e below _ (T.setTop (mkF m 583 #[.val (.int i0), .val (.int i1), .val (.int i2), .val (.int 0), .val (.int ((ushr i0 1) &&& 3)), .val (.int (i2 &&& 255)), .val (.int ((ushr i2 8) &&& 3)), .val (.int (i1 &&& 2147483647)), .unset, .unset, .unset, .unset, .unset] [.ref a']))
              refine N.astore (pc := 583) (l' := #[.val (.int i0), .val (.int i1), .val (.int i2), .val (.int 0), .val (.int ((ushr i0 1) &&& 3)), .val (.int (i2 &&& 255)), .val (.int ((ushr i2 8) &&& 3)), .val (.int (i1 &&& 2147483647)), .val (.ref a'), .unset, .unset, .unset, .unset]) at_583 rfl rfl ?_
              refine N.iconst (pc := 585) 0 at_585 rfl ?_
              refine N.istore (pc := 586) (l' := #[.val (.int i0), .val (.int i1), .val (.int i2), .val (.int 0), .val (.int ((ushr i0 1) &&& 3)), .val (.int (i2 &&& 255)), .val (.int ((ushr i2 8) &&& 3)), .val (.int (i1 &&& 2147483647)), .val (.ref a'), .val (.int 0), .unset, .unset, .unset]) at_586 rfl ?_
              refine N.aload (pc := 588) at_588 rfl rfl ?_
              refine N.callS (pc := 590) (c_isTimeKey G (a := a') (cs := [i2 &&& 255])) [] [0] at_590 (w31 hw) (w32 hw) (w33 hw) (w34 hw) (by decide) pd10 rfl (st := []) rfl rfl rfl (by decide) (by decide) (ltAll rfl) rfl (Nat.le_of_ble_eq_true rfl) (Nat.le_of_ble_eq_true rfl) (Nat.le_of_ble_eq_true rfl) (Nat.le_of_ble_eq_true rfl) fun v O' FN vm T hQ N => ?_
              obtain ⟨r, rfl, rfl, rfl, hr⟩ := hQ
              replace N := N.cast3 (O' := []) (RO' := []) (FZ' := [(a', tO ([i2 &&& 255]))]) rfl rfl rfl
              show Goes p e below _ (T.setTop (mkF m 593 #[.val (.int i0), .val (.int i1), .val (.int i2), .val (.int 0), .val (.int ((ushr i0 1) &&& 3)), .val (.int (i2 &&& 255)), .val (.int ((ushr i2 8) &&& 3)), .val (.int (i1 &&& 2147483647)), .val (.ref a'), .val (.int 0), .unset, .unset, .unset] [.int r]))
              have hr' : r = 0 := by
                rcases hr with ⟨h1, h2⟩ | ⟨h1, h2⟩
                · exfalso; rcases h2 with q | q <;> simpa using congrArg List.length q
                · exact h1
              refine N.iload (pc := 593) at_593 rfl ?_
              refine N.icmpneF (pc := 595) at_595 hr' ?_
              refine N.iconst (pc := 598) 1 at_598 rfl ?_
              refine N.goto (pc := 599) (pc' := 603) at_599 rfl ?_
              exact N.ireturn (pc := 603) [] (fun _ h => h) (List.forall_mem_nil _) (Nat.le_of_ble_eq_true rfl) (Nat.le_of_ble_eq_true rfl) (t := .boolean) at_603 rfl (by simp) rfl rfl

set_option maxRecDepth 65536 in
set_option maxHeartbeats 4000000 in
theorem comes_1 {Post : Tables → Env → Array Value → State → Outcome → State → Prop} (hpost : ∀ tb e args s v u, (limb_1_1.after args s (.returned v) u = true ∧ limb_1_2.after args s (.returned v) u = true ∧ True) → FramedW s (.returned v) u (Jvm.fieldLocs frame_1_writes args s ++ Jvm.arrayLocs frame_1_arrays args s ++ Jvm.staticLocs frame_1_statics s) 24 3200 → Post tb e args s (.returned v) u) :
    ArmFor flags0 classFile x code maxLocals ret World_1 tables_1 room_1 Calls_1 rest_1 Pre_1 Post := by
  intro l hfl _ _ p e ha hc hk s m args below hf hA hF happ hP
  obtain ⟨hcalls, hrest, hpre⟩ := hP
  obtain ⟨-, -, -, hnamed, -, -, -, hat⟩ := (Spec.applies_iff hf).mp happ
  obtain ⟨hg, hn⟩ := and_e (Cond.before_iff.mp (show (Jvm.Cond.and given_1 narrow_1).before args s = true from hpre))
  obtain ⟨h0, q0⟩ := and_e hg
  obtain ⟨g0, q1⟩ := and_e q0
  obtain ⟨g1, q2⟩ := and_e q1
  have g2 := q2
  obtain ⟨u0, u1, u2, rfl⟩ : ∃ u0 u1 u2 : Value, args = #[u0, u1, u2] := by
    have hs : args.size = 3 := by simpa [Cond.value, given_1] using h0
    obtain ⟨L⟩ := args
    match L, hs with
    | [u0, u1, u2], _ => exact ⟨u0, u1, u2, rfl⟩
  have hw : HW s #[u0, u1, u2] := fun d (hd : d ∈ tables_1) => atoms_spec (ws := Jvm.Cond.code x code maxLocals ret :: tables_1) hat d (List.mem_cons_of_mem _ hd)
  obtain ⟨i0, e0⟩ := is_v g0
  obtain rfl : u0 = (.int i0) := Option.some.inj e0
  obtain ⟨i1, e1⟩ := is_v g1
  obtain rfl : u1 = (.int i1) := Option.some.inj e1
  obtain ⟨i2, e2⟩ := is_v g2
  obtain rfl : u2 = (.int i2) := Option.some.inj e2
  obtain ⟨hsets, hown0⟩ := atoms_of _ (rest_1_c_eq ▸ (show rest_1_c.before _ s = true from hrest))
  have G_compact : ∃ cv : Int32, ¬ cv = 0 ∧ Sta s s.heap "java/lang/String" "COMPACT_STRINGS" "Z" (.int cv) := by
    obtain ⟨cv, ev⟩ := is_v (Cond.before_iff.mp (hsets _ (List.mem_of_getElem? (i := 1) rfl)))
    have nv := not_v (Cond.before_iff.mp (hsets _ (List.mem_of_getElem? (i := 2) rfl)))
    exact ⟨cv, gotF (Cond.eq_ints ev (Term.int_eval 0)) nv, Sta.start ev (Or.inl (hsets _ (List.mem_of_getElem? (i := 0) rfl)))⟩
  have hEW : EW s _ ELs := EW.cons (w35 hw) (by decide +kernel) (EW.cons (w48 hw) (by decide +kernel) (EW.cons (w49 hw) (by decide +kernel) (EW.nil)))
  have G : Glob s _ := ⟨hw, hEW, G_compact⟩
  have hcw : Jvm.Lit.compactW.before #[(.int i0), (.int i1), (.int i2)] s = true := hsets _ (List.mem_of_getElem? (i := 2) rfl)
  have hH : HI s ELs s.vm s.heap s.heap.size [] [] [] := ⟨⟨Nat.le_refl _, fun _ _ q => q⟩, CHv.start hEW (fun p hp => hcalls.1 p hp) hcw (w20 hw) (w3 hw), fun _ h => (nomatch h), List.nodup_nil, fun _ h => (nomatch h), fun _ h => (nomatch h)⟩
  obtain ⟨n, o, z1, z2, z3, v, L, O', LN, rfl, hQ, hFr, -, -, -, -, hnar, hEnd⟩ := c_law (l := l) G i0 i1 i2 p e ha hc hk s m _ below hf ((Spec.applies_iff_loose hf).mp happ).1 ⟨rfl, State.Warmed39.refl s, hH⟩ trivial
  subst hQ
  exact ⟨n, _, z1, z2, z3, hpost _ _ _ _ _ _ ⟨Cond.after_iff.mpr rfl, Cond.after_iff.mpr (eq_i res_at (Term.int_eval (1)) rfl), trivial⟩ ⟨hEnd.1, hEnd.2.1, hEnd.2.2.1, (hEnd.2.2.2.sift fun y hy => Or.inr (hFr y hy)).mono (by decide) (by decide)⟩⟩
theorem main_1_1 : Claimed_1_1 := comes_1 fun _ _ _ _ _ _ h hF => ⟨h.1, hF⟩
theorem main_1_2 : Claimed_1_2 := comes_1 fun _ _ _ _ _ _ h hF => ⟨h.2.1, hF⟩
end Jvm.Pilot.@@N@@
namespace Jvm.Pilot.@@N@@
open Jvm Jvm.ClassFile Sem Op Lib Jvm.Free Jvm.Stand Jvm.Pilot.@@N@@.Jvm.D
/-! MADE BY PROGRAM (witnessworld.py) out of the Statement's table words and the real class files: 20 classes; the members and pool entries that the words name. The judged class is class 1, her method 1. -/
namespace start1
open Jvm.ClassFile
def u (s : String) : CpInfo := .utf8 (stringToUtf16 s)
/-- a pool by its gaps: so many unusable entries, then the entry; so many at the end -/
def gap : Nat → List CpInfo → List CpInfo
  | 0, r => r
  | n + 1, r => .unusable :: gap n r
def poolList (es : List (Nat × CpInfo)) (last : Nat) : List CpInfo := es.foldr (fun e r => gap e.1 (e.2 :: r)) (gap last [])
def pool (es : List (Nat × CpInfo)) (last : Nat) : Array CpInfo := ⟨poolList es last⟩
def fileOf (pool : Array CpInfo) (this : Nat) (attrs : Array Attribute := #[]) (ms : Array MethodInfo := #[]) (fl : Nat := 33) (sup : Nat := 0) (ifs : Array Nat := #[]) (fds : Array FieldInfo := #[]) : ClassFile where
  minorVersion := 0
  majorVersion := 65
  constantPool := pool
  accessFlags := fl
  thisClass := this
  superClass := sup
  interfaces := ifs
  fields := fds
  methods := ms
  attributes := attrs
def plain (name : String) (sup : Option ClassId) : Class where
  name := name
  kind := .ordinary
  loader := none
  accessFlags := 33
  super := sup
  interfaces := #[]
  cf := none
  fields := #[]
  methods := #[]
  instanceTypes := #[]
  staticTypes := #[]
  resolved := #[]
  callSites := []
  init := .initialized
  statics := none
  mirror := none

def pool0 : Array CpInfo := pool [(5, u "<init>"), (0, u "()V"), (1, .class_ 10), (1, u "java/lang/Object")] 113

def k0c0 : Code := { maxStack := 0, maxLocals := 1, code := object_method_1_code, exceptionTable := #[], attributes := #[] }
def k0m0 : Method := { name := "<init>", desc := "()V", sig := { parameters := [], returnType := none }, accessFlags := 1, code := some k0c0 }
/-- java/lang/Object -/
def k0 : Class := { plain "java/lang/Object" none with
  accessFlags := 33
  interfaces := #[]
  cf := some (fileOf pool0 8 #[] #[{ accessFlags := 1, nameIndex := 5, descriptorIndex := 6, attributes := #[] }] 33 0 #[] #[])
  fields := #[]
  methods := #[k0m0]
  instanceTypes := #[]
  staticTypes := #[]
  resolved := Array.replicate 124 none
  statics := none }

def pool1 : Array CpInfo := pool [(2, .class_ 4), (1, u "java/lang/Object"), (0, u "<init>"), (0, u "()V"), (0, .integer 2147483647), (0, .class_ 9), (0, u "java/lang/String"), (0, .methodref 8 11), (0, .nameAndType 5 12), (0, u "([C)V"), (0, .methodref 8 14), (0, .nameAndType 15 16), (0, u "valueOf"), (0, u "(C)Ljava/lang/String;"), (0, .methodref 18 19), (0, .class_ 20), (0, .nameAndType 21 22), (0, u "com/example/stratagraph/stratagraph/store/TimeFilter"), (0, u "isTimeKey"), (0, u "(Ljava/lang/String;)Z"), (0, .class_ 24), (0, u "com/example/stratagraph/stratagraph/store/TimeFilterIsTimeKeyPinLaw"), (2, u "law"), (0, u "(III)Z")] 5

def k1m0 : Method := { name := "<init>", desc := "()V", sig := { parameters := [], returnType := none }, accessFlags := 1, code := none }
def k1c1 : Code := { maxStack := 4, maxLocals := 13, code := code, exceptionTable := #[], attributes := #[] }
def k1m1 : Method := { name := "law", desc := "(III)Z", sig := { parameters := [.int, .int, .int], returnType := some .boolean }, accessFlags := 9, code := some k1c1 }
/-- com/example/stratagraph/stratagraph/store/TimeFilterIsTimeKeyPinLaw -/
def k1 : Class := { plain "com/example/stratagraph/stratagraph/store/TimeFilterIsTimeKeyPinLaw" (some 0) with
  accessFlags := 49
  interfaces := #[]
  cf := some (fileOf pool1 23 #[] #[{ accessFlags := 1, nameIndex := 5, descriptorIndex := 6, attributes := #[] }, { accessFlags := 9, nameIndex := 27, descriptorIndex := 28, attributes := #[] }] 49 2 #[] #[])
  fields := #[]
  methods := #[k1m0, k1m1]
  instanceTypes := #[]
  staticTypes := #[]
  resolved := Array.replicate 34 none
  statics := none }

def pool2 : Array CpInfo := pool [(1, .class_ 2), (0, u "java/io/Serializable"), (0, .class_ 4), (0, u "java/lang/Object")] 2

/-- java/io/Serializable -/
def k2 : Class := { plain "java/io/Serializable" (some 0) with
  accessFlags := 1537
  interfaces := #[]
  cf := some (fileOf pool2 1 #[] #[] 1537 3 #[] #[])
  fields := #[]
  methods := #[]
  instanceTypes := #[]
  staticTypes := #[]
  resolved := Array.replicate 7 none
  statics := none }

def pool3 : Array CpInfo := pool [(1, .class_ 2), (0, u "java/lang/Comparable"), (0, .class_ 4), (0, u "java/lang/Object")] 7

/-- java/lang/Comparable -/
def k3 : Class := { plain "java/lang/Comparable" (some 0) with
  accessFlags := 1537
  interfaces := #[]
  cf := some (fileOf pool3 1 #[] #[] 1537 3 #[] #[])
  fields := #[]
  methods := #[]
  instanceTypes := #[]
  staticTypes := #[]
  resolved := Array.replicate 12 none
  statics := none }

def pool4 : Array CpInfo := pool [(2, .class_ 4), (1, u "java/lang/CharSequence"), (42, .class_ 48), (0, u "java/lang/CharSequence$1CodePointIterator"), (10, .class_ 60), (0, u "java/lang/CharSequence$1CharIterator"), (5, .class_ 67), (0, u "java/lang/Object")] 63

/-- java/lang/CharSequence -/
def k4 : Class := { plain "java/lang/CharSequence" (some 0) with
  accessFlags := 1537
  interfaces := #[]
  cf := some (fileOf pool4 2 #[.nestMembers #[47, 59]] #[] 1537 66 #[] #[])
  fields := #[]
  methods := #[]
  instanceTypes := #[]
  staticTypes := #[]
  resolved := Array.replicate 131 none
  statics := none }

def pool5 : Array CpInfo := pool [(1, .class_ 2), (0, u "java/lang/constant/Constable"), (0, .class_ 4), (0, u "java/lang/Object")] 6

/-- java/lang/constant/Constable -/
def k5 : Class := { plain "java/lang/constant/Constable" (some 0) with
  accessFlags := 1537
  interfaces := #[]
  cf := some (fileOf pool5 1 #[] #[] 1537 3 #[] #[])
  fields := #[]
  methods := #[]
  instanceTypes := #[]
  staticTypes := #[]
  resolved := Array.replicate 11 none
  statics := none }

def pool6 : Array CpInfo := pool [(1, .class_ 2), (0, u "java/lang/constant/ConstantDesc"), (0, .class_ 4), (0, u "java/lang/Object")] 32

/-- java/lang/constant/ConstantDesc -/
def k6 : Class := { plain "java/lang/constant/ConstantDesc" (some 0) with
  accessFlags := 1537
  interfaces := #[]
  cf := some (fileOf pool6 1 #[] #[] 1537 3 #[] #[])
  fields := #[]
  methods := #[]
  instanceTypes := #[]
  staticTypes := #[]
  resolved := Array.replicate 37 none
  statics := none }

def pool7 : Array CpInfo := pool [(1, .methodref 2 3), (0, .class_ 4), (0, .nameAndType 5 6), (0, u "java/lang/Object"), (0, u "<init>"), (0, u "()V"), (0, .string 8), (0, u ""), (0, .fieldref 10 11), (0, .class_ 12), (0, .nameAndType 13 14), (0, u "java/lang/String"), (0, u "value"), (0, u "[B"), (0, .fieldref 10 16), (0, .nameAndType 17 18), (0, u "coder"), (0, u "B"), (2, u "hash"), (0, u "I"), (2, u "hashIsZero"), (0, u "Z"), (0, .methodref 10 28), (0, .nameAndType 5 29), (0, u "([CIILjava/lang/Void;)V"), (8, .fieldref 10 39), (0, .nameAndType 40 26), (0, u "COMPACT_STRINGS"), (1, .class_ 44), (1, u "java/lang/StringUTF16"), (0, u "compress"), (1, .methodref 42 48), (0, .nameAndType 49 50), (0, u "coderFromArrayLen"), (0, u "([BI)B"), (2, u "toBytes"), (53, .class_ 109), (1, u "java/lang/StringLatin1"), (67, .methodref 42 178), (0, .nameAndType 45 179), (0, u "([CII)[B"), (29, .methodref 10 210), (0, .nameAndType 5 211), (0, u "([BB)V"), (157, u "(C)Z"), (171, .methodref 107 542), (0, .nameAndType 543 544), (0, u "equals"), (0, u "([B[B)Z"), (28, u "(Ljava/lang/Object;)Z"), (1, .class_ 576), (0, u "java/lang/CharSequence"), (22, u "CASE_INSENSITIVE_ORDER"), (0, u "Ljava/util/Comparator;"), (181, u "valueOf"), (0, u "(C)Ljava/lang/String;"), (226, u "([C)V"), (4, .methodref 107 1016), (0, .nameAndType 1017 369), (0, u "canEncode"), (0, .methodref 107 1019), (0, .nameAndType 53 1020), (0, u "(C)[B"), (80, u "serialPersistentFields"), (0, u "[Ljava/io/ObjectStreamField;"), (0, .class_ 1104), (0, u "java/lang/String$CaseInsensitiveComparator"), (1, .class_ 1107), (0, u "java/io/Serializable"), (0, .class_ 1109), (0, u "java/lang/Comparable"), (0, .class_ 1111), (0, u "java/lang/constant/Constable"), (0, .class_ 1113), (0, u "java/lang/constant/ConstantDesc"), (2, u "serialVersionUID"), (0, u "J"), (3, u "REPL"), (0, u "C"), (2, u "LATIN1"), (1, u "UTF16")] 323

def k7m0 : Method := { name := "<init>", desc := "()V", sig := { parameters := [], returnType := none }, accessFlags := 1, code := none }
def k7c1 : Code := { maxStack := 5, maxLocals := 2, code := jdk_42_method_3_code, exceptionTable := #[], attributes := #[] }
def k7m1 : Method := { name := "<init>", desc := "([C)V", sig := { parameters := [(.array .char)], returnType := none }, accessFlags := 1, code := some k7c1 }
def k7c2 : Code := { maxStack := 2, maxLocals := 3, code := jdk_42_method_66_code, exceptionTable := #[], attributes := #[] }
def k7m2 : Method := { name := "equals", desc := "(Ljava/lang/Object;)Z", sig := { parameters := [(.object "java/lang/Object")], returnType := some .boolean }, accessFlags := 1, code := some k7c2 }
def k7c3 : Code := { maxStack := 4, maxLocals := 1, code := jdk_42_method_139_code, exceptionTable := #[], attributes := #[] }
def k7m3 : Method := { name := "valueOf", desc := "(C)Ljava/lang/String;", sig := { parameters := [.char], returnType := some (.object "java/lang/String") }, accessFlags := 9, code := some k7c3 }
def k7c4 : Code := { maxStack := 4, maxLocals := 6, code := jdk_42_method_149_code, exceptionTable := #[], attributes := #[] }
def k7m4 : Method := { name := "<init>", desc := "([CIILjava/lang/Void;)V", sig := { parameters := [(.array .char), .int, .int, (.object "java/lang/Void")], returnType := none }, accessFlags := 2, code := some k7c4 }
def k7c5 : Code := { maxStack := 2, maxLocals := 3, code := jdk_42_method_151_code, exceptionTable := #[], attributes := #[] }
def k7m5 : Method := { name := "<init>", desc := "([BB)V", sig := { parameters := [(.array .byte), .byte], returnType := none }, accessFlags := 0, code := some k7c5 }
/-- java/lang/String -/
def k7 : Class := { plain "java/lang/String" (some 0) with
  accessFlags := 49
  interfaces := #[2, 3, 4, 5, 6]
  cf := some (fileOf pool7 10 #[.nestMembers #[1103]] #[{ accessFlags := 1, nameIndex := 5, descriptorIndex := 6, attributes := #[] }, { accessFlags := 1, nameIndex := 5, descriptorIndex := 1010, attributes := #[] }, { accessFlags := 1, nameIndex := 543, descriptorIndex := 573, attributes := #[] }, { accessFlags := 9, nameIndex := 782, descriptorIndex := 783, attributes := #[] }, { accessFlags := 2, nameIndex := 5, descriptorIndex := 29, attributes := #[] }, { accessFlags := 0, nameIndex := 5, descriptorIndex := 211, attributes := #[] }] 49 2 #[1106, 1108, 575, 1110, 1112] #[{ accessFlags := 18, nameIndex := 13, descriptorIndex := 14, attributes := #[] }, { accessFlags := 18, nameIndex := 17, descriptorIndex := 18, attributes := #[] }, { accessFlags := 2, nameIndex := 21, descriptorIndex := 22, attributes := #[] }, { accessFlags := 2, nameIndex := 25, descriptorIndex := 26, attributes := #[] }, { accessFlags := 26, nameIndex := 1116, descriptorIndex := 1117, attributes := #[] }, { accessFlags := 24, nameIndex := 40, descriptorIndex := 26, attributes := #[] }, { accessFlags := 26, nameIndex := 1101, descriptorIndex := 1102, attributes := #[] }, { accessFlags := 26, nameIndex := 1121, descriptorIndex := 1122, attributes := #[] }, { accessFlags := 25, nameIndex := 599, descriptorIndex := 600, attributes := #[] }, { accessFlags := 24, nameIndex := 1125, descriptorIndex := 18, attributes := #[] }, { accessFlags := 24, nameIndex := 1127, descriptorIndex := 18, attributes := #[] }])
  fields := #[{ name := "value", type := (.array .byte), accessFlags := 18, slot := 0, constantValue := 0 }, { name := "coder", type := .byte, accessFlags := 18, slot := 1, constantValue := 0 }, { name := "hash", type := .int, accessFlags := 2, slot := 2, constantValue := 0 }, { name := "hashIsZero", type := .boolean, accessFlags := 2, slot := 3, constantValue := 0 }, { name := "serialVersionUID", type := .long, accessFlags := 26, slot := 0, constantValue := 0 }, { name := "COMPACT_STRINGS", type := .boolean, accessFlags := 24, slot := 1, constantValue := 0 }, { name := "serialPersistentFields", type := (.array (.object "java/io/ObjectStreamField")), accessFlags := 26, slot := 2, constantValue := 0 }, { name := "REPL", type := .char, accessFlags := 26, slot := 3, constantValue := 0 }, { name := "CASE_INSENSITIVE_ORDER", type := (.object "java/util/Comparator"), accessFlags := 25, slot := 4, constantValue := 0 }, { name := "LATIN1", type := .byte, accessFlags := 24, slot := 5, constantValue := 0 }, { name := "UTF16", type := .byte, accessFlags := 24, slot := 6, constantValue := 0 }]
  methods := #[k7m0, k7m1, k7m2, k7m3, k7m4, k7m5]
  instanceTypes := #[(.array .byte), .byte, .int, .boolean]
  staticTypes := #[.long, .boolean, (.array (.object "java/io/ObjectStreamField")), .char, (.object "java/util/Comparator"), .byte, .byte]
  resolved := Array.replicate 1451 none
  statics := some 0 }

def pool8 : Array CpInfo := pool [(6, .class_ 8), (1, u "java/lang/Object"), (0, u "<init>"), (0, u "()V"), (1, .class_ 14), (1, u "java/lang/StringUTF16"), (31, u "$assertionsDisabled"), (0, u "Z"), (13, u "HI_BYTE_SHIFT"), (0, u "I"), (2, u "LO_BYTE_SHIFT"), (49, .methodref 12 116), (0, .nameAndType 117 118), (0, u "compress"), (0, u "([CI[BII)I"), (3, u "([CII)[B"), (138, u "coderFromArrayLen"), (0, u "([BI)B"), (106, .class_ 371), (1, u "java/lang/StringUTF16$LinesSpliterator"), (58, u "MAX_LENGTH"), (196, .class_ 628), (0, u "java/lang/StringUTF16$CodePointsSpliterator"), (0, .class_ 630), (0, u "java/lang/StringUTF16$CharsSpliterator")] 4

def k8m0 : Method := { name := "<init>", desc := "()V", sig := { parameters := [], returnType := none }, accessFlags := 0, code := none }
def k8c1 : Code := { maxStack := 2, maxLocals := 2, code := jdk_52_method_15_code, exceptionTable := #[], attributes := #[] }
def k8m1 : Method := { name := "coderFromArrayLen", desc := "([BI)B", sig := { parameters := [(.array .byte), .int], returnType := some .byte }, accessFlags := 8, code := some k8c1 }
def k8c2 : Code := { maxStack := 5, maxLocals := 6, code := jdk_52_method_16_code, exceptionTable := #[], attributes := #[] }
def k8m2 : Method := { name := "compress", desc := "([CII)[B", sig := { parameters := [(.array .char), .int, .int], returnType := some (.array .byte) }, accessFlags := 9, code := some k8c2 }
def k8c3 : Code := { maxStack := 3, maxLocals := 7, code := jdk_52_method_21_code, exceptionTable := #[], attributes := #[] }
def k8m3 : Method := { name := "compress", desc := "([CI[BII)I", sig := { parameters := [(.array .char), .int, (.array .byte), .int, .int], returnType := some .int }, accessFlags := 9, code := some k8c3 }
/-- java/lang/StringUTF16 -/
def k8 : Class := { plain "java/lang/StringUTF16" (some 0) with
  accessFlags := 48
  interfaces := #[]
  cf := some (fileOf pool8 12 #[.nestMembers #[627, 629, 369]] #[{ accessFlags := 0, nameIndex := 9, descriptorIndex := 10, attributes := #[] }, { accessFlags := 8, nameIndex := 261, descriptorIndex := 262, attributes := #[] }, { accessFlags := 9, nameIndex := 117, descriptorIndex := 122, attributes := #[] }, { accessFlags := 9, nameIndex := 117, descriptorIndex := 118, attributes := #[] }] 48 6 #[] #[{ accessFlags := 26, nameIndex := 61, descriptorIndex := 62, attributes := #[] }, { accessFlags := 26, nameIndex := 65, descriptorIndex := 62, attributes := #[] }, { accessFlags := 24, nameIndex := 430, descriptorIndex := 62, attributes := #[] }, { accessFlags := 4120, nameIndex := 46, descriptorIndex := 47, attributes := #[] }])
  fields := #[{ name := "HI_BYTE_SHIFT", type := .int, accessFlags := 26, slot := 0, constantValue := 0 }, { name := "LO_BYTE_SHIFT", type := .int, accessFlags := 26, slot := 1, constantValue := 0 }, { name := "MAX_LENGTH", type := .int, accessFlags := 24, slot := 2, constantValue := 0 }, { name := "$assertionsDisabled", type := .boolean, accessFlags := 4120, slot := 3, constantValue := 0 }]
  methods := #[k8m0, k8m1, k8m2, k8m3]
  instanceTypes := #[]
  staticTypes := #[.int, .int, .int, .boolean]
  resolved := Array.replicate 635 none
  statics := none }

def pool9 : Array CpInfo := pool [(2, .class_ 4), (1, u "java/lang/Object"), (3, .class_ 10), (1, u "com/example/stratagraph/stratagraph/store/TimeFilter"), (0, u "startsBy"), (0, u "Ljava/lang/Long;"), (2, u "endsAfter"), (2, u "point"), (2, u "description"), (0, u "Ljava/lang/String;"), (27, .string 51), (0, u "startTime"), (0, .methodref 53 54), (0, .class_ 55), (0, .nameAndType 56 57), (0, u "java/lang/String"), (0, u "equals"), (0, u "(Ljava/lang/Object;)Z"), (0, .string 59), (0, u "endTime"), (20, u "NONE"), (0, u "Lcom/example/stratagraph/stratagraph/store/TimeFilter;"), (0, u "START_KEY"), (1, u "END_KEY"), (8, u "isTimeKey"), (0, u "(Ljava/lang/String;)Z")] 30

def k9c0 : Code := { maxStack := 2, maxLocals := 1, code := prog_12_method_6_code, exceptionTable := #[], attributes := #[] }
def k9m0 : Method := { name := "isTimeKey", desc := "(Ljava/lang/String;)Z", sig := { parameters := [(.object "java/lang/String")], returnType := some .boolean }, accessFlags := 9, code := some k9c0 }
/-- com/example/stratagraph/stratagraph/store/TimeFilter -/
def k9 : Class := { plain "com/example/stratagraph/stratagraph/store/TimeFilter" (some 0) with
  accessFlags := 49
  interfaces := #[]
  cf := some (fileOf pool9 8 #[] #[{ accessFlags := 9, nameIndex := 93, descriptorIndex := 94, attributes := #[] }] 49 2 #[] #[{ accessFlags := 25, nameIndex := 82, descriptorIndex := 22, attributes := #[] }, { accessFlags := 25, nameIndex := 84, descriptorIndex := 22, attributes := #[] }, { accessFlags := 25, nameIndex := 80, descriptorIndex := 81, attributes := #[] }, { accessFlags := 18, nameIndex := 11, descriptorIndex := 12, attributes := #[] }, { accessFlags := 18, nameIndex := 15, descriptorIndex := 12, attributes := #[] }, { accessFlags := 18, nameIndex := 18, descriptorIndex := 12, attributes := #[] }, { accessFlags := 18, nameIndex := 21, descriptorIndex := 22, attributes := #[] }])
  fields := #[{ name := "START_KEY", type := (.object "java/lang/String"), accessFlags := 25, slot := 0, constantValue := 0 }, { name := "END_KEY", type := (.object "java/lang/String"), accessFlags := 25, slot := 1, constantValue := 0 }, { name := "NONE", type := (.object "com/example/stratagraph/stratagraph/store/TimeFilter"), accessFlags := 25, slot := 2, constantValue := 0 }, { name := "startsBy", type := (.object "java/lang/Long"), accessFlags := 18, slot := 0, constantValue := 0 }, { name := "endsAfter", type := (.object "java/lang/Long"), accessFlags := 18, slot := 1, constantValue := 0 }, { name := "point", type := (.object "java/lang/Long"), accessFlags := 18, slot := 2, constantValue := 0 }, { name := "description", type := (.object "java/lang/String"), accessFlags := 18, slot := 3, constantValue := 0 }]
  methods := #[k9m0]
  instanceTypes := #[(.object "java/lang/Long"), (.object "java/lang/Long"), (.object "java/lang/Long"), (.object "java/lang/String")]
  staticTypes := #[(.object "java/lang/String"), (.object "java/lang/String"), (.object "com/example/stratagraph/stratagraph/store/TimeFilter")]
  resolved := Array.replicate 125 none
  statics := none }

def pool10 : Array CpInfo := pool [(4, .class_ 6), (1, u "java/lang/Object"), (0, u "<init>"), (0, u "()V"), (5, .class_ 16), (1, u "java/lang/StringLatin1"), (73, u "canEncode"), (14, u "(C)Z"), (15, u "$assertionsDisabled"), (0, u "Z"), (98, .class_ 223), (1, u "java/lang/StringLatin1$LinesSpliterator"), (57, u "equals"), (0, u "([B[B)Z"), (97, u "toBytes"), (1, u "(C)[B"), (7, .class_ 391), (0, u "java/lang/StringLatin1$CharsSpliterator")] 3

def k10m0 : Method := { name := "<init>", desc := "()V", sig := { parameters := [], returnType := none }, accessFlags := 0, code := none }
def k10c1 : Code := { maxStack := 2, maxLocals := 1, code := jdk_43_method_3_code, exceptionTable := #[], attributes := #[] }
def k10m1 : Method := { name := "canEncode", desc := "(C)Z", sig := { parameters := [.char], returnType := some .boolean }, accessFlags := 9, code := some k10c1 }
def k10c2 : Code := { maxStack := 3, maxLocals := 3, code := jdk_43_method_13_code, exceptionTable := #[], attributes := #[] }
def k10m2 : Method := { name := "equals", desc := "([B[B)Z", sig := { parameters := [(.array .byte), (.array .byte)], returnType := some .boolean }, accessFlags := 9, code := some k10c2 }
def k10c3 : Code := { maxStack := 4, maxLocals := 1, code := jdk_43_method_46_code, exceptionTable := #[], attributes := #[] }
def k10m3 : Method := { name := "toBytes", desc := "(C)[B", sig := { parameters := [.char], returnType := some (.array .byte) }, accessFlags := 9, code := some k10c3 }
/-- java/lang/StringLatin1 -/
def k10 : Class := { plain "java/lang/StringLatin1" (some 0) with
  accessFlags := 48
  interfaces := #[]
  cf := some (fileOf pool10 14 #[.nestMembers #[390, 221]] #[{ accessFlags := 0, nameIndex := 7, descriptorIndex := 8, attributes := #[] }, { accessFlags := 9, nameIndex := 90, descriptorIndex := 105, attributes := #[] }, { accessFlags := 9, nameIndex := 281, descriptorIndex := 282, attributes := #[] }, { accessFlags := 9, nameIndex := 380, descriptorIndex := 382, attributes := #[] }] 48 4 #[] #[{ accessFlags := 4120, nameIndex := 121, descriptorIndex := 122, attributes := #[] }])
  fields := #[{ name := "$assertionsDisabled", type := .boolean, accessFlags := 4120, slot := 0, constantValue := 0 }]
  methods := #[k10m0, k10m1, k10m2, k10m3]
  instanceTypes := #[]
  staticTypes := #[.boolean]
  resolved := Array.replicate 395 none
  statics := none }

def pool11 : Array CpInfo := pool [(2, .class_ 4), (1, u "java/lang/Object"), (0, u "<init>"), (0, u "()V"), (17, .class_ 26), (1, u "jdk/internal/util/Preconditions"), (28, .class_ 56), (0, u "jdk/internal/util/Preconditions$4"), (57, .class_ 115), (0, u "jdk/internal/util/Preconditions$1"), (7, u "SIOOBE_FORMATTER"), (0, u "Ljava/util/function/BiFunction;"), (0, .class_ 126), (0, u "jdk/internal/util/Preconditions$2"), (3, u "AIOOBE_FORMATTER"), (0, .class_ 132), (0, u "jdk/internal/util/Preconditions$3"), (3, u "IOOBE_FORMATTER")] 57

def k11m0 : Method := { name := "<init>", desc := "()V", sig := { parameters := [], returnType := none }, accessFlags := 1, code := none }
/-- jdk/internal/util/Preconditions -/
def k11 : Class := { plain "jdk/internal/util/Preconditions" (some 0) with
  accessFlags := 33
  interfaces := #[]
  cf := some (fileOf pool11 24 #[.nestMembers #[55, 131, 125, 114]] #[{ accessFlags := 1, nameIndex := 5, descriptorIndex := 6, attributes := #[] }] 33 2 #[] #[{ accessFlags := 25, nameIndex := 123, descriptorIndex := 124, attributes := #[] }, { accessFlags := 25, nameIndex := 130, descriptorIndex := 124, attributes := #[] }, { accessFlags := 25, nameIndex := 136, descriptorIndex := 124, attributes := #[] }])
  fields := #[{ name := "SIOOBE_FORMATTER", type := (.object "java/util/function/BiFunction"), accessFlags := 25, slot := 0, constantValue := 0 }, { name := "AIOOBE_FORMATTER", type := (.object "java/util/function/BiFunction"), accessFlags := 25, slot := 1, constantValue := 0 }, { name := "IOOBE_FORMATTER", type := (.object "java/util/function/BiFunction"), accessFlags := 25, slot := 2, constantValue := 0 }]
  methods := #[k11m0]
  instanceTypes := #[]
  staticTypes := #[(.object "java/util/function/BiFunction"), (.object "java/util/function/BiFunction"), (.object "java/util/function/BiFunction")]
  resolved := Array.replicate 194 none
  statics := some 1 }

def pool12 : Array CpInfo := pool [(9, u "<init>"), (6, .class_ 18), (1, u "java/lang/Object"), (0, u "()V"), (1, .class_ 23), (1, u "jdk/internal/util/ArraysSupport"), (0, u "LOG2_ARRAY_LONG_INDEX_SCALE"), (0, u "I"), (2, u "U"), (0, u "Ljdk/internal/misc/Unsafe;"), (8, u "BIG_ENDIAN"), (0, u "Z"), (8, u "LOG2_BYTE_BIT_SIZE"), (4, u "LOG2_ARRAY_INT_INDEX_SCALE"), (54, u "JLA"), (0, u "Ljdk/internal/access/JavaLangAccess;"), (11, u "LOG2_ARRAY_BOOLEAN_INDEX_SCALE"), (9, u "LOG2_ARRAY_BYTE_INDEX_SCALE"), (5, u "LOG2_ARRAY_CHAR_INDEX_SCALE"), (5, u "LOG2_ARRAY_SHORT_INDEX_SCALE"), (18, u "LOG2_ARRAY_FLOAT_INDEX_SCALE"), (24, u "LOG2_ARRAY_DOUBLE_INDEX_SCALE"), (89, u "T_BOOLEAN"), (2, u "T_CHAR"), (1, u "T_FLOAT"), (1, u "T_DOUBLE"), (1, u "T_BYTE"), (1, u "T_SHORT"), (1, u "T_INT"), (1, u "T_LONG"), (1, u "SOFT_MAX_ARRAY_LENGTH")] 83

def k12m0 : Method := { name := "<init>", desc := "()V", sig := { parameters := [], returnType := none }, accessFlags := 2, code := none }
/-- jdk/internal/util/ArraysSupport -/
def k12 : Class := { plain "jdk/internal/util/ArraysSupport" (some 0) with
  accessFlags := 33
  interfaces := #[]
  cf := some (fileOf pool12 21 #[] #[{ accessFlags := 2, nameIndex := 9, descriptorIndex := 19, attributes := #[] }] 33 16 #[] #[{ accessFlags := 24, nameIndex := 28, descriptorIndex := 29, attributes := #[] }, { accessFlags := 26, nameIndex := 38, descriptorIndex := 39, attributes := #[] }, { accessFlags := 25, nameIndex := 121, descriptorIndex := 25, attributes := #[] }, { accessFlags := 25, nameIndex := 131, descriptorIndex := 25, attributes := #[] }, { accessFlags := 25, nameIndex := 137, descriptorIndex := 25, attributes := #[] }, { accessFlags := 25, nameIndex := 143, descriptorIndex := 25, attributes := #[] }, { accessFlags := 25, nameIndex := 53, descriptorIndex := 25, attributes := #[] }, { accessFlags := 25, nameIndex := 24, descriptorIndex := 25, attributes := #[] }, { accessFlags := 25, nameIndex := 162, descriptorIndex := 25, attributes := #[] }, { accessFlags := 25, nameIndex := 187, descriptorIndex := 25, attributes := #[] }, { accessFlags := 26, nameIndex := 48, descriptorIndex := 25, attributes := #[] }, { accessFlags := 25, nameIndex := 277, descriptorIndex := 25, attributes := #[] }, { accessFlags := 25, nameIndex := 280, descriptorIndex := 25, attributes := #[] }, { accessFlags := 25, nameIndex := 282, descriptorIndex := 25, attributes := #[] }, { accessFlags := 25, nameIndex := 284, descriptorIndex := 25, attributes := #[] }, { accessFlags := 25, nameIndex := 286, descriptorIndex := 25, attributes := #[] }, { accessFlags := 25, nameIndex := 288, descriptorIndex := 25, attributes := #[] }, { accessFlags := 25, nameIndex := 290, descriptorIndex := 25, attributes := #[] }, { accessFlags := 25, nameIndex := 292, descriptorIndex := 25, attributes := #[] }, { accessFlags := 26, nameIndex := 108, descriptorIndex := 109, attributes := #[] }, { accessFlags := 25, nameIndex := 294, descriptorIndex := 25, attributes := #[] }])
  fields := #[{ name := "U", type := (.object "jdk/internal/misc/Unsafe"), accessFlags := 24, slot := 0, constantValue := 0 }, { name := "BIG_ENDIAN", type := .boolean, accessFlags := 26, slot := 1, constantValue := 0 }, { name := "LOG2_ARRAY_BOOLEAN_INDEX_SCALE", type := .int, accessFlags := 25, slot := 2, constantValue := 0 }, { name := "LOG2_ARRAY_BYTE_INDEX_SCALE", type := .int, accessFlags := 25, slot := 3, constantValue := 0 }, { name := "LOG2_ARRAY_CHAR_INDEX_SCALE", type := .int, accessFlags := 25, slot := 4, constantValue := 0 }, { name := "LOG2_ARRAY_SHORT_INDEX_SCALE", type := .int, accessFlags := 25, slot := 5, constantValue := 0 }, { name := "LOG2_ARRAY_INT_INDEX_SCALE", type := .int, accessFlags := 25, slot := 6, constantValue := 0 }, { name := "LOG2_ARRAY_LONG_INDEX_SCALE", type := .int, accessFlags := 25, slot := 7, constantValue := 0 }, { name := "LOG2_ARRAY_FLOAT_INDEX_SCALE", type := .int, accessFlags := 25, slot := 8, constantValue := 0 }, { name := "LOG2_ARRAY_DOUBLE_INDEX_SCALE", type := .int, accessFlags := 25, slot := 9, constantValue := 0 }, { name := "LOG2_BYTE_BIT_SIZE", type := .int, accessFlags := 26, slot := 10, constantValue := 0 }, { name := "T_BOOLEAN", type := .int, accessFlags := 25, slot := 11, constantValue := 0 }, { name := "T_CHAR", type := .int, accessFlags := 25, slot := 12, constantValue := 0 }, { name := "T_FLOAT", type := .int, accessFlags := 25, slot := 13, constantValue := 0 }, { name := "T_DOUBLE", type := .int, accessFlags := 25, slot := 14, constantValue := 0 }, { name := "T_BYTE", type := .int, accessFlags := 25, slot := 15, constantValue := 0 }, { name := "T_SHORT", type := .int, accessFlags := 25, slot := 16, constantValue := 0 }, { name := "T_INT", type := .int, accessFlags := 25, slot := 17, constantValue := 0 }, { name := "T_LONG", type := .int, accessFlags := 25, slot := 18, constantValue := 0 }, { name := "JLA", type := (.object "jdk/internal/access/JavaLangAccess"), accessFlags := 26, slot := 19, constantValue := 0 }, { name := "SOFT_MAX_ARRAY_LENGTH", type := .int, accessFlags := 25, slot := 20, constantValue := 0 }]
  methods := #[k12m0]
  instanceTypes := #[]
  staticTypes := #[(.object "jdk/internal/misc/Unsafe"), .boolean, .int, .int, .int, .int, .int, .int, .int, .int, .int, .int, .int, .int, .int, .int, .int, .int, .int, (.object "jdk/internal/access/JavaLangAccess"), .int]
  resolved := Array.replicate 378 none
  statics := none }

def pool13 : Array CpInfo := pool [(1, u "java/lang/Cloneable"), (0, .class_ 1), (0, u "java/lang/Object"), (0, .class_ 3)] 3

/-- java/lang/Cloneable -/
def k13 : Class := { plain "java/lang/Cloneable" (some 0) with
  accessFlags := 1537
  interfaces := #[]
  cf := some (fileOf pool13 2 #[] #[] 1537 4 #[] #[])
  fields := #[]
  methods := #[]
  instanceTypes := #[]
  staticTypes := #[]
  resolved := Array.replicate 8 none
  statics := none }

/-- the primitive byte -/
def k14 : Class := { plain "byte" none with kind := .primitive 'B', accessFlags := 0x411 }
/-- [B -/
def k15 : Class := { plain "[B" (some 0) with kind := .array 14 .byte, interfaces := #[13, 2], accessFlags := 1041 }

/-- the primitive char -/
def k16 : Class := { plain "char" none with kind := .primitive 'C', accessFlags := 0x411 }
/-- [C -/
def k17 : Class := { plain "[C" (some 0) with kind := .array 16 .char, interfaces := #[13, 2], accessFlags := 1041 }

/-- the primitive int -/
def k18 : Class := { plain "int" none with kind := .primitive 'I', accessFlags := 0x411 }
/-- [I -/
def k19 : Class := { plain "[I" (some 0) with kind := .array 18 .int, interfaces := #[13, 2], accessFlags := 1041 }

def heap : Heap := #[{ cls := 7, slots := #[.long 0, .int 1, .null, .int 0, .null, .int 0, .int 0], vm := .statics 7 },
  { cls := 11, slots := #[.null, .null, .null], vm := .statics 11 }]
def classes : Array Class := #[k0, k1, k2, k3, k4, k5, k6, k7, k8, k9, k10, k11, k12, k13, k14, k15, k16, k17, k18, k19]
def interned : List (Array UInt16 × Addr) := []
def slotsUsed : Nat := 10
def theMethod : MethodId := ⟨1, 1⟩
def args0 : Array Value := #[.int 5, .int 5, .int 5]
def aboutOver (below : List Frame) : State where
  vm := { classes := classes, interned := interned.toArray }
  heap := heap
  slotsUsed := slotsUsed
  threads := #[{ frames := .invoking theMethod args0 :: below }]
def below0 : List Frame := [.native { method := ⟨0, 0⟩, args := #[] }]
def about1 : State := aboutOver below0
def p0 : Program := .bare "" "" ""
def e0 : Env := launch0.env 0 0 0
theorem w_frames : about1.frames = Frame.invoking theMethod args0 :: below0 := rfl
set_option maxRecDepth 65536 in
theorem w_args : argsFit about1.vm theMethod args0 = true := by decide +kernel
set_option maxRecDepth 65536 in
theorem w_heap : heapFits about1 = true := by decide +kernel
set_option maxRecDepth 65536 in
theorem w_runnable : about1.curStatus? = some .runnable := by decide +kernel
set_option maxRecDepth 65536 in
theorem w_alone : about1.alone = true := by decide +kernel
set_option maxRecDepth 65536 in
theorem w_named : about1.methodNamed? x = some theMethod := by decide +kernel
set_option maxRecDepth 65536 in
theorem w_hears : about1.hears theMethod below0 = true := by decide +kernel
set_option maxRecDepth 65536 in
theorem w_ripe : about1.ripe theMethod args0 below0 = true := by decide +kernel
theorem w_running : about1.status = .running := rfl
set_option maxRecDepth 65536 in
theorem w_room : about1.hasRoom e0.platform room_1 = true :=
  launch0.hasRoom_least _ room_1 (by decide +kernel) (by decide +kernel) (by decide +kernel) (by decide +kernel) (by decide +kernel) (by decide +kernel)
theorem allAtoms_all (ts : List Jvm.Cond) (a : Array Jvm.Value) (st : Jvm.State) : (allAtoms ts).before a st = ts.all (fun c => c.before a st) := by
  induction ts with
  | nil => rfl
  | cons c t ih =>
    show (Jvm.Cond.and c (allAtoms t)).before a st = _
    rw [Jvm.Cond.before_and, ih, List.all_cons]
def words1 : List Jvm.Cond := Jvm.Cond.code x code maxLocals ret :: tables_1
/-- a 'code' word, met by the world's own term for the bytes: nothing is compared byte by byte -/
theorem code_word {y : MethodName} {bytes : ByteArray} {mx : Nat} {rt : Option FieldType} {a : Array Value} {s : State} {m : MethodId} {meth : Method} {c : Code} (h1 : s.methodNamed? y = some m) (h2 : s.vm.method? m = some meth) (h3 : meth.code = some c) (h4 : c.code = bytes)
    (h5 : (c.maxLocals == mx && c.exceptionTable.isEmpty && decide (c.maxStack ≤ mostOperands) && decide (meth.sig.returnType = rt) && !meth.locks && decide (parseMethodDescriptor y.desc = some meth.sig)) = true) : (Jvm.Cond.code y bytes mx rt).before a s = true := by
  simp only [Bool.and_eq_true, beq_iff_eq, Bool.not_eq_true', decide_eq_true_eq] at h5
  obtain ⟨⟨⟨⟨⟨g1, g2⟩, g3⟩, g4⟩, g5⟩, g6⟩ := h5
  simp [Cond.before, Cond.holds, Cond.value, h1, h2, h3, h4, g1, g2, g3, g4, g5, g6]
def isCode : Jvm.Cond → Bool
  | .code _ _ _ _ => true
  | _ => false
theorem all_split {L : List Jvm.Cond} {P : Jvm.Cond → Bool} (h1 : L.all (fun c => isCode c || P c) = true) (h2 : ∀ c ∈ L.filter isCode, P c = true) : L.all P = true := by
  refine List.all_eq_true.mpr fun c hc => ?_
  have h := List.all_eq_true.mp h1 c hc
  rcases Bool.eq_false_or_eq_true (isCode c) with hi | hi
  · exact h2 c (List.mem_filter.mpr ⟨hc, hi⟩)
  · simpa [hi] using h
set_option maxRecDepth 65536 in
theorem w_c0 : (Jvm.Cond.code x code maxLocals ret).before args0 about1 = true := code_word (m := ⟨1, 1⟩) (meth := k1m1) (c := k1c1) (by decide +kernel) rfl rfl rfl (by decide +kernel)
set_option maxRecDepth 65536 in
theorem w_c1 : (Jvm.Cond.code ({ cls := "java/lang/String", name := "<init>", desc := "([C)V" } : Jvm.MethodName) jdk_42_method_3_code (2 : Nat) (Option.none : Option Jvm.ClassFile.FieldType)).before args0 about1 = true := code_word (m := ⟨7, 1⟩) (meth := k7m1) (c := k7c1) (by decide +kernel) rfl rfl rfl (by decide +kernel)
set_option maxRecDepth 65536 in
theorem w_c2 : (Jvm.Cond.code ({ cls := "java/lang/String", name := "<init>", desc := "([CIILjava/lang/Void;)V" } : Jvm.MethodName) jdk_42_method_149_code (6 : Nat) (Option.none : Option Jvm.ClassFile.FieldType)).before args0 about1 = true := code_word (m := ⟨7, 4⟩) (meth := k7m4) (c := k7c4) (by decide +kernel) rfl rfl rfl (by decide +kernel)
set_option maxRecDepth 65536 in
theorem w_c3 : (Jvm.Cond.code ({ cls := "java/lang/Object", name := "<init>", desc := "()V" } : Jvm.MethodName) object_method_1_code (1 : Nat) (Option.none : Option Jvm.ClassFile.FieldType)).before args0 about1 = true := code_word (m := ⟨0, 0⟩) (meth := k0m0) (c := k0c0) (by decide +kernel) rfl rfl rfl (by decide +kernel)
set_option maxRecDepth 65536 in
theorem w_c4 : (Jvm.Cond.code ({ cls := "java/lang/StringUTF16", name := "compress", desc := "([CII)[B" } : Jvm.MethodName) jdk_52_method_16_code (6 : Nat) (Option.some (Jvm.ClassFile.FieldType.array Jvm.ClassFile.FieldType.byte))).before args0 about1 = true := code_word (m := ⟨8, 2⟩) (meth := k8m2) (c := k8c2) (by decide +kernel) rfl rfl rfl (by decide +kernel)
set_option maxRecDepth 65536 in
theorem w_c5 : (Jvm.Cond.code ({ cls := "java/lang/StringUTF16", name := "compress", desc := "([CI[BII)I" } : Jvm.MethodName) jdk_52_method_21_code (7 : Nat) (Option.some Jvm.ClassFile.FieldType.int)).before args0 about1 = true := code_word (m := ⟨8, 3⟩) (meth := k8m3) (c := k8c3) (by decide +kernel) rfl rfl rfl (by decide +kernel)
set_option maxRecDepth 65536 in
theorem w_c6 : (Jvm.Cond.code ({ cls := "java/lang/StringUTF16", name := "coderFromArrayLen", desc := "([BI)B" } : Jvm.MethodName) jdk_52_method_15_code (2 : Nat) (Option.some Jvm.ClassFile.FieldType.byte)).before args0 about1 = true := code_word (m := ⟨8, 1⟩) (meth := k8m1) (c := k8c1) (by decide +kernel) rfl rfl rfl (by decide +kernel)
set_option maxRecDepth 65536 in
theorem w_c7 : (Jvm.Cond.code ({ cls := "com/example/stratagraph/stratagraph/store/TimeFilter", name := "isTimeKey", desc := "(Ljava/lang/String;)Z" } : Jvm.MethodName) prog_12_method_6_code (1 : Nat) (Option.some Jvm.ClassFile.FieldType.boolean)).before args0 about1 = true := code_word (m := ⟨9, 0⟩) (meth := k9m0) (c := k9c0) (by decide +kernel) rfl rfl rfl (by decide +kernel)
set_option maxRecDepth 65536 in
theorem w_c8 : (Jvm.Cond.code ({ cls := "java/lang/String", name := "equals", desc := "(Ljava/lang/Object;)Z" } : Jvm.MethodName) jdk_42_method_66_code (3 : Nat) (Option.some Jvm.ClassFile.FieldType.boolean)).before args0 about1 = true := code_word (m := ⟨7, 2⟩) (meth := k7m2) (c := k7c2) (by decide +kernel) rfl rfl rfl (by decide +kernel)
set_option maxRecDepth 65536 in
theorem w_c9 : (Jvm.Cond.code ({ cls := "java/lang/StringLatin1", name := "equals", desc := "([B[B)Z" } : Jvm.MethodName) jdk_43_method_13_code (3 : Nat) (Option.some Jvm.ClassFile.FieldType.boolean)).before args0 about1 = true := code_word (m := ⟨10, 2⟩) (meth := k10m2) (c := k10c2) (by decide +kernel) rfl rfl rfl (by decide +kernel)
set_option maxRecDepth 65536 in
theorem w_c10 : (Jvm.Cond.code ({ cls := "java/lang/String", name := "valueOf", desc := "(C)Ljava/lang/String;" } : Jvm.MethodName) jdk_42_method_139_code (1 : Nat) (Option.some (Jvm.ClassFile.FieldType.object "java/lang/String"))).before args0 about1 = true := code_word (m := ⟨7, 3⟩) (meth := k7m3) (c := k7c3) (by decide +kernel) rfl rfl rfl (by decide +kernel)
set_option maxRecDepth 65536 in
theorem w_c11 : (Jvm.Cond.code ({ cls := "java/lang/StringLatin1", name := "canEncode", desc := "(C)Z" } : Jvm.MethodName) jdk_43_method_3_code (1 : Nat) (Option.some Jvm.ClassFile.FieldType.boolean)).before args0 about1 = true := code_word (m := ⟨10, 1⟩) (meth := k10m1) (c := k10c1) (by decide +kernel) rfl rfl rfl (by decide +kernel)
set_option maxRecDepth 65536 in
theorem w_c12 : (Jvm.Cond.code ({ cls := "java/lang/StringLatin1", name := "toBytes", desc := "(C)[B" } : Jvm.MethodName) jdk_43_method_46_code (1 : Nat) (Option.some (Jvm.ClassFile.FieldType.array Jvm.ClassFile.FieldType.byte))).before args0 about1 = true := code_word (m := ⟨10, 3⟩) (meth := k10m3) (c := k10c3) (by decide +kernel) rfl rfl rfl (by decide +kernel)
set_option maxRecDepth 65536 in
theorem w_c13 : (Jvm.Cond.code ({ cls := "java/lang/String", name := "<init>", desc := "([BB)V" } : Jvm.MethodName) jdk_42_method_151_code (3 : Nat) (Option.none : Option Jvm.ClassFile.FieldType)).before args0 about1 = true := code_word (m := ⟨7, 5⟩) (meth := k7m5) (c := k7c5) (by decide +kernel) rfl rfl rfl (by decide +kernel)
def codes1 : List Jvm.Cond := [Jvm.Cond.code x code maxLocals ret, Jvm.Cond.code ({ cls := "java/lang/String", name := "<init>", desc := "([C)V" } : Jvm.MethodName) jdk_42_method_3_code (2 : Nat) (Option.none : Option Jvm.ClassFile.FieldType), Jvm.Cond.code ({ cls := "java/lang/String", name := "<init>", desc := "([CIILjava/lang/Void;)V" } : Jvm.MethodName) jdk_42_method_149_code (6 : Nat) (Option.none : Option Jvm.ClassFile.FieldType), Jvm.Cond.code ({ cls := "java/lang/Object", name := "<init>", desc := "()V" } : Jvm.MethodName) object_method_1_code (1 : Nat) (Option.none : Option Jvm.ClassFile.FieldType), Jvm.Cond.code ({ cls := "java/lang/StringUTF16", name := "compress", desc := "([CII)[B" } : Jvm.MethodName) jdk_52_method_16_code (6 : Nat) (Option.some (Jvm.ClassFile.FieldType.array Jvm.ClassFile.FieldType.byte)), Jvm.Cond.code ({ cls := "java/lang/StringUTF16", name := "compress", desc := "([CI[BII)I" } : Jvm.MethodName) jdk_52_method_21_code (7 : Nat) (Option.some Jvm.ClassFile.FieldType.int), Jvm.Cond.code ({ cls := "java/lang/StringUTF16", name := "coderFromArrayLen", desc := "([BI)B" } : Jvm.MethodName) jdk_52_method_15_code (2 : Nat) (Option.some Jvm.ClassFile.FieldType.byte), Jvm.Cond.code ({ cls := "com/example/stratagraph/stratagraph/store/TimeFilter", name := "isTimeKey", desc := "(Ljava/lang/String;)Z" } : Jvm.MethodName) prog_12_method_6_code (1 : Nat) (Option.some Jvm.ClassFile.FieldType.boolean), Jvm.Cond.code ({ cls := "java/lang/String", name := "equals", desc := "(Ljava/lang/Object;)Z" } : Jvm.MethodName) jdk_42_method_66_code (3 : Nat) (Option.some Jvm.ClassFile.FieldType.boolean), Jvm.Cond.code ({ cls := "java/lang/StringLatin1", name := "equals", desc := "([B[B)Z" } : Jvm.MethodName) jdk_43_method_13_code (3 : Nat) (Option.some Jvm.ClassFile.FieldType.boolean), Jvm.Cond.code ({ cls := "java/lang/String", name := "valueOf", desc := "(C)Ljava/lang/String;" } : Jvm.MethodName) jdk_42_method_139_code (1 : Nat) (Option.some (Jvm.ClassFile.FieldType.object "java/lang/String")), Jvm.Cond.code ({ cls := "java/lang/StringLatin1", name := "canEncode", desc := "(C)Z" } : Jvm.MethodName) jdk_43_method_3_code (1 : Nat) (Option.some Jvm.ClassFile.FieldType.boolean), Jvm.Cond.code ({ cls := "java/lang/StringLatin1", name := "toBytes", desc := "(C)[B" } : Jvm.MethodName) jdk_43_method_46_code (1 : Nat) (Option.some (Jvm.ClassFile.FieldType.array Jvm.ClassFile.FieldType.byte)), Jvm.Cond.code ({ cls := "java/lang/String", name := "<init>", desc := "([BB)V" } : Jvm.MethodName) jdk_42_method_151_code (3 : Nat) (Option.none : Option Jvm.ClassFile.FieldType)]
set_option maxRecDepth 65536 in
theorem codes_eq : words1.filter isCode = codes1 := rfl
theorem w_codes : ∀ c ∈ words1.filter isCode, c.before args0 about1 = true := by
  rw [codes_eq]
  intro c hc
  simp only [codes1, List.mem_cons, List.not_mem_nil, or_false] at hc
  rcases hc with rfl | rfl | rfl | rfl | rfl | rfl | rfl | rfl | rfl | rfl | rfl | rfl | rfl | rfl
  · exact w_c0
  · exact w_c1
  · exact w_c2
  · exact w_c3
  · exact w_c4
  · exact w_c5
  · exact w_c6
  · exact w_c7
  · exact w_c8
  · exact w_c9
  · exact w_c10
  · exact w_c11
  · exact w_c12
  · exact w_c13
set_option maxRecDepth 65536 in
theorem w_t1 : (words1.take 24).all (fun c => isCode c || c.before args0 about1) = true := by decide +kernel
set_option maxRecDepth 65536 in
theorem w_t2 : ((words1.drop 24).take 24).all (fun c => isCode c || c.before args0 about1) = true := by decide +kernel
set_option maxRecDepth 65536 in
theorem w_t3 : ((words1.drop 24).drop 24).all (fun c => isCode c || c.before args0 about1) = true := by decide +kernel
theorem w_tables : (allAtoms (Jvm.Cond.code x code maxLocals ret :: tables_1)).before args0 about1 = true := by
  rw [allAtoms_all]
  show words1.all (fun c => c.before args0 about1) = true
  refine all_split ?_ w_codes
  rw [← List.take_append_drop 24 words1, List.all_append, w_t1, ← List.take_append_drop 24 (words1.drop 24), List.all_append, w_t2, w_t3]
  rfl
set_option maxRecDepth 65536 in
theorem w_rest : rest_1_c.before args0 about1 = true := by decide +kernel
set_option maxRecDepth 65536 in
theorem w_case : (Jvm.Cond.and given_1 narrow_1).before args0 about1 = true := by decide +kernel
set_option maxRecDepth 65536 in
theorem w_consts : constsHeld consts_1 about1 := Jvm.Lit.constsHeldB_iff.mp (by decide +kernel)
theorem w_applies : (headSpec (Jvm.Cond.code x code maxLocals ret :: tables_1) room_1).applies x e0.platform about1 = true :=
  (Spec.applies_iff w_frames).mpr ⟨w_running, w_runnable, w_alone, w_named, w_hears, w_ripe, w_room, w_tables⟩
theorem atStart : AtStart classFile x code maxLocals ret World_1 tables_1 room_1 Calls_1 rest_1 Pre_1 launch0 p0 e0 about1 theMethod args0 below0 :=
  ⟨lists_1, trivial, launch0.admits_env _ _ _, launch0.least_env, fairChoices_fair.cas, fairChoices_fair.clock, w_frames, w_args, w_heap, w_applies, ⟨w_consts, trivial⟩, w_rest, w_case⟩
end start1
theorem witness_1 : WitnessClaimed_1 := ⟨start1.p0, start1.e0, start1.about1, start1.theMethod, start1.args0, start1.below0, start1.atStart⟩
end Jvm.Pilot.@@N@@
