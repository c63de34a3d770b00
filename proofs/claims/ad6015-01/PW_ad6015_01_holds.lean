import PyProof.Rows.All
import Wide.All
import OpenK.AllK
import Wide.FinOn
import Lean
import PySem.Challenge.RW_ad6015_01
set_option Elab.async false

section
open PySem PySem.W PyProof.Rows
set_option Elab.async false
set_option maxRecDepth 100000
set_option maxHeartbeats 8000000
namespace Mine
open_top hd for PySem.Challenge.rw_ad6015_01
end Mine
end

section
open PySem PySem.W PyProof.Rows PySem.Calls
set_option Elab.async false
set_option maxRecDepth 100000
namespace Mine

/-- nothing of g is lost or turned in h -/
abbrev Lasts (g h : Heap) : Prop := ∀ b o, g.get? b = some o → h.get? b = some o
theorem Lasts.refl (g : Heap) : Lasts g g := fun _ _ e => e
theorem Lasts.trans {g h k : Heap} (a : Lasts g h) (b : Lasts h k) : Lasts g k := fun x o e => b x o (a x o e)
theorem Lasts.push (h : Heap) (o : Obj) : Lasts h (h.push o) := fun _ _ e => Heap.get?_push_of_some _ e

/-- the kinds of a row of ints -/
inductive Kd where
  | tup
  | lst
  | byt

/-- v is, in h, a row of the kind k of the ints ns -/
def Row (h : Heap) (k : Kd) (v : Value) (ns : List Int) : Prop :=
  match k with
  | .tup => ∃ a vs, v = .ref a ∧ h.IsTuple a (List.toArray vs) ∧ IntsAre vs ns
  | .lst => ∃ a vs, v = .ref a ∧ h.IsList a (List.toArray vs) ∧ IntsAre vs ns
  | .byt => ∃ b t, v = .bytes b t ∧ KBw.bInts b = ns

theorem Row.mono {g h : Heap} {k : Kd} {v : Value} {ns : List Int} (l : Lasts g h) (R : Row g k v ns) : Row h k v ns := by
  cases k with
  | tup => obtain ⟨a, vs, e, ⟨o, ho, r⟩, hi⟩ := R; exact ⟨a, vs, e, ⟨o, l _ _ ho, r⟩, hi⟩
  | lst => obtain ⟨a, vs, e, ⟨o, ho, r⟩, hi⟩ := R; exact ⟨a, vs, e, ⟨o, l _ _ ho, r⟩, hi⟩
  | byt => exact R

/-- an object that is no list and no tuple may turn -/
theorem Row.but {g h : Heap} {I : Addr} {oI : Obj} {k : Kd} {v : Value} {ns : List Int} (R : Row g k v ns) (hI : g.get? I = some oI) (hc : oI.cls ≠ .type "list" ∧ oI.cls ≠ .type "tuple")
    (l : Heap.ExtBut I g h) : Row h k v ns := by
  cases k with
  | tup =>
    obtain ⟨a, vs, e, ⟨o, ho, hc', r⟩, hi⟩ := R
    exact ⟨a, vs, e, ⟨o, l _ _ (by rintro rfl; rw [hI] at ho; cases ho; exact hc.2 hc') ho, hc', r⟩, hi⟩
  | lst =>
    obtain ⟨a, vs, e, ⟨o, ho, hc', r⟩, hi⟩ := R
    exact ⟨a, vs, e, ⟨o, l _ _ (by rintro rfl; rw [hI] at ho; cases ho; exact hc.1 hc') ho, hc', r⟩, hi⟩
  | byt => exact R

/-- I draws from the row v, from the place j on -/
def RowIt (h : Heap) (I : Addr) (k : Kd) (v : Value) (j : Nat) : Prop :=
  match k with
  | .tup => ∃ a, v = .ref a ∧ h.IsTupleIter I a j
  | .lst => ∃ a, v = .ref a ∧ h.IsListIter I a j
  | .byt => ∃ b t, v = .bytes b t ∧ KBw.IsBytesIter h I b t j

theorem RowIt.at {g h : Heap} {I : Addr} {k : Kd} {v : Value} {j : Nat} (R : RowIt g I k v j) (l : ∀ o, g.get? I = some o → h.get? I = some o) : RowIt h I k v j := by
  cases k with
  | tup => obtain ⟨a, e, o, ho, r⟩ := R; exact ⟨a, e, o, l _ ho, r⟩
  | lst => obtain ⟨a, e, o, ho, r⟩ := R; exact ⟨a, e, o, l _ ho, r⟩
  | byt => obtain ⟨b, t, e, o, ho, r⟩ := R; exact ⟨b, t, e, o, l _ ho, r⟩
theorem RowIt.has {g : Heap} {I : Addr} {k : Kd} {v : Value} {j : Nat} (R : RowIt g I k v j) : ∃ o, g.get? I = some o ∧ o.cls ≠ .type "list" ∧ o.cls ≠ .type "tuple" := by
  cases k with
  | tup => obtain ⟨a, e, o, ho, hc, r⟩ := R; exact ⟨o, ho, by rw [hc]; simp, by rw [hc]; simp⟩
  | lst => obtain ⟨a, e, o, ho, hc, r⟩ := R; exact ⟨o, ho, by rw [hc]; simp, by rw [hc]; simp⟩
  | byt => obtain ⟨b, t, e, o, ho, hc, r⟩ := R; exact ⟨o, ho, by rw [hc]; simp, by rw [hc]; simp⟩

section
variable {prog : Program} {w : World} {A : Around} {E : Value → Shared → Prop} {s : Shared} {k : Kd} {v : Value} {ns : List Int}

theorem row_iter {Q : Value → Shared → Prop} (R : Row s.heap k v ns)
    (h : ∀ o : Obj, o.isFreed = false → (∀ h' I, Heap.get? h' I = some o → RowIt h' I k v 0) → Q (.ref s.heap.objs.size) { s with heap := s.heap.push o }) :
    wpAny (model prog w) A (pyIter v) Q E s := by
  cases k with
  | tup =>
    obtain ⟨a, vs, rfl, ht, hi⟩ := R
    exact wpAny_pyIter_tuple ht (h _ rfl fun h' I e => ⟨a, rfl, _, e, rfl, rfl⟩)
  | lst =>
    obtain ⟨a, vs, rfl, ht, hi⟩ := R
    exact wpAny_pyIter_list ht (h _ rfl fun h' I e => ⟨a, rfl, _, e, rfl, rfl⟩)
  | byt =>
    obtain ⟨b, t, rfl, hi⟩ := R
    exact KBw.pyIter_bytes (h _ rfl fun h' I e => ⟨b, t, rfl, _, e, rfl, rfl⟩)

theorem ints_getE {vs : List Value} {ns : List Int} (h : IntsAre vs ns) {j : Nat} {n : Int} (e : ns[j]? = some n) : ∃ t, vs[j]? = some (.int n t) := by
  induction h generalizing j with
  | nil => simp at e
  | cons m t _ ih =>
    cases j with
    | zero => simp at e; subst e; exact ⟨t, rfl⟩
    | succ j => exact ih (by simpa using e)
theorem bytes_getE {b : Array UInt8} {ns : List Int} (h : KBw.bInts b = ns) {j : Nat} {n : Int} (e : ns[j]? = some n) : ∃ c, b[j]? = some c ∧ n = (c.toNat : Int) := by
  subst h
  unfold KBw.bInts at e
  rw [List.getElem?_map] at e
  cases hb : b.toList[j]? with
  | none => rw [hb] at e; cases e
  | some c => rw [hb] at e; cases e; exact ⟨c, by simpa using hb, rfl⟩

theorem entryTupNext : True := trivial

/-- one draw: the item at j -/
theorem row_nextOf {Q : Value → Shared → Prop} {I : Addr} {j : Nat} {n : Int} (hit : RowIt s.heap I k v j) (R : Row s.heap k v ns) (e : ns[j]? = some n)
    (h : ∀ t h' tk, RowIt h' I k v (j + 1) → Heap.SameBut I s.heap h' → Q (.int n t) { s with heap := h', toks := tk }) :
    wpAny (model prog w) A (Builtin.SmallTypes.nextOf (.ref I)) Q E s := by
  cases k with
  | lst =>
    obtain ⟨a, vs, rfl, hl, hi⟩ := R
    obtain ⟨a', e', hit'⟩ := hit
    cases e'
    obtain ⟨t, ht⟩ := ints_getE hi e
    exact wpAny_nextOf_list_item hit' hl (x := .int n t) (by simpa using ht) fun h' hit'' hs' => h t h' s.toks ⟨a, rfl, hit''⟩ hs'
  | tup =>
    obtain ⟨a, vs, rfl, hl, hi⟩ := R
    obtain ⟨a', e', hit'⟩ := hit
    cases e'
    obtain ⟨t, ht⟩ := ints_getE hi e
    obtain ⟨o, ho, hc, hd⟩ := id hit'
    obtain ⟨ol, hol, _, nl, hdl⟩ := hl
    have hx : vs.toArray[j]? = some (.int n t) := by simpa using ht
    unfold Builtin.SmallTypes.nextOf
    refine wpAny_bind (wpAny_callSpecial?_slot (name := Str.ofString "__next__") hit'.typeIs F.slot_tuple_iterator_next
      (wpAny_call_entry F.slot_tuple_iterator_next hit'.typeIs F.entry_tuple_iterator_next ?_ (F.args_tuple_iterator_next_1 _)))
    show wpAny _ _ (field (.ref I) 0 >>= _) _ _ s
    refine wpAny_bind (wpAny_field ho hd (x := .ref a) rfl ?_)
    show wpAny _ _ (if (Value.ref a == Value.none) = true then _ else _) _ _ s
    rw [if_neg (show ¬ ((Value.ref a == Value.none) = true) from Bool.false_ne_true)]
    show wpAny _ _ (field (.ref I) 1 >>= _) _ _ s
    refine wpAny_bind (wpAny_field ho hd (x := .int j 0) rfl ?_)
    show wpAny _ _ (seqItems? (.ref a) >>= _) _ _ s
    refine wpAny_bind (wpAny_seqItems hol hdl ?_)
    simp only [Int.toNat_natCast, hx]
    refine wpAny_bind (wpAny_setField ho hd (by simp) (wpAny_pure ⟨_, rfl, wpAny_pure (h t _ s.toks ⟨a, rfl, ?_⟩ (Heap.SameBut.update ..))⟩))
    exact ⟨_, Heap.get?_update_self _ ho (Obj.isFreed_of_fields (Obj.data_mapFields hd _)), (Obj.cls_mapFields ..).trans hc, by
      rw [Obj.data_mapFields hd]; simp [rawInt]⟩
  | byt =>
    obtain ⟨b, t, rfl, hi⟩ := R
    obtain ⟨b', t', e', hit'⟩ := hit
    cases e'
    obtain ⟨c, hx, rfl⟩ := bytes_getE hi e
    obtain ⟨o, ho, hc, hd⟩ := id hit'
    unfold Builtin.SmallTypes.nextOf
    refine wpAny_bind (wpAny_callSpecial?_slot (name := Str.ofString "__next__") (KBw.iter_typeIs hit') KBw.slot_next
      (wpAny_call_entry KBw.slot_next (KBw.iter_typeIs hit') KBw.entry_next ?_ (KBw.args_next _)))
    show wpAny _ _ (field (.ref I) 0 >>= _) _ _ s
    refine wpAny_bind (wpAny_field ho hd (x := .bytes b t) rfl ?_)
    show wpAny _ _ (if (Value.bytes b t == Value.none) = true then _ else _) _ _ s
    rw [if_neg (show ¬ ((Value.bytes b t == Value.none) = true) from Bool.false_ne_true)]
    show wpAny _ _ (field (.ref I) 1 >>= _) _ _ s
    refine wpAny_bind (wpAny_field ho hd (x := .int j 0) rfl ?_)
    refine wpAny_bind (wpAny_of_eq (a := b) rfl ?_)
    simp only [Int.toNat_natCast, hx]
    refine wpAny_bind (wpAny_setField ho hd (by simp) (wpAny_bind (wpAny_mkInt (wpAny_pure ⟨_, rfl, wpAny_pure (h _ _ _ ⟨b, t, rfl, ?_⟩ (Heap.SameBut.update ..))⟩))))
    exact ⟨_, Heap.get?_update_self _ ho (Obj.isFreed_of_fields (Obj.data_mapFields hd _)), (Obj.cls_mapFields ..).trans hc, by
      rw [Obj.data_mapFields hd]; simp [rawInt]⟩

/-- the draw behind the last item -/
theorem row_nextOf_end {Q : Value → Shared → Prop} {I : Addr} {j : Nat} (hh : A.handled = none) (hit : RowIt s.heap I k v j) (R : Row s.heap k v ns) (e : ns[j]? = none)
    (h : ∀ h' x, Heap.ExtBut I s.heap h' → (∃ o, h'.get? x = some o ∧ o.cls = .type "StopIteration") → E (.ref x) { s with heap := h' }) :
    wpAny (model prog w) A (Builtin.SmallTypes.nextOf (.ref I)) Q E s := by
  cases k with
  | lst =>
    obtain ⟨a, vs, rfl, hl, hi⟩ := R
    obtain ⟨a', e', hit'⟩ := hit
    cases e'
    exact wpAny_nextOf_list_end hh hit' hl (by have := hi.length; simp at e ⊢; omega) h
  | tup =>
    obtain ⟨a, vs, rfl, hl, hi⟩ := R
    obtain ⟨a', e', hit'⟩ := hit
    cases e'
    obtain ⟨o, ho, hc, hd⟩ := id hit'
    obtain ⟨ol, hol, _, nl, hdl⟩ := hl
    have hx : vs.toArray[j]? = none := by have := hi.length; simp at e ⊢; omega
    unfold Builtin.SmallTypes.nextOf
    refine wpAny_bind (wpAny_callSpecial?_slot (name := Str.ofString "__next__") hit'.typeIs F.slot_tuple_iterator_next
      (wpAny_call_entry F.slot_tuple_iterator_next hit'.typeIs F.entry_tuple_iterator_next ?_ (F.args_tuple_iterator_next_1 _)))
    show wpAny _ _ (field (.ref I) 0 >>= _) _ _ s
    refine wpAny_bind (wpAny_field ho hd (x := .ref a) rfl ?_)
    show wpAny _ _ (if (Value.ref a == Value.none) = true then _ else _) _ _ s
    rw [if_neg (show ¬ ((Value.ref a == Value.none) = true) from Bool.false_ne_true)]
    show wpAny _ _ (field (.ref I) 1 >>= _) _ _ s
    refine wpAny_bind (wpAny_field ho hd (x := .int j 0) rfl ?_)
    show wpAny _ _ (seqItems? (.ref a) >>= _) _ _ s
    refine wpAny_bind (wpAny_seqItems hol hdl ?_)
    simp only [Int.toNat_natCast, hx]
    refine wpAny_bind (wpAny_rule (wpAny_bind (wpAny_setField ho hd (by simp) ?_)))
    show wpAny _ _ (newExc (.type "StopIteration") [] >>= _) _ _ _
    refine wpAny_bind ?_
    simp only [newExc, newTuple]
    refine wpAny_bind (wpAny_newObj_type ?_ (by size_fits))
    refine wpAny_bind (m := firstArgMember _ _) (wpAny_of_eq (a := Value.none) (by first | rfl | (simp only [firstArgMember]; rfl)) ?_)
    refine wpAny_newObj_type ?_ (by size_fits)
    simp only [raiseNew]
    refine wpAny_bind (wpAny_handled ?_)
    rw [show A.in1.handled = none from hh]
    refine wpAny_bind (wpAny_pure (wpAny_throw ?_))
    exact h _ _ (((Heap.SameBut.update ..).extBut.push _).push _) ⟨_, Heap.get?_push_size _ rfl, rfl⟩
  | byt =>
    obtain ⟨b, t, rfl, hi⟩ := R
    obtain ⟨b', t', e', hit'⟩ := hit
    cases e'
    obtain ⟨o, ho, hc, hd⟩ := id hit'
    have hx : b[j]? = none := by subst hi; simp [KBw.bInts] at e; simpa using e
    unfold Builtin.SmallTypes.nextOf
    refine wpAny_bind (wpAny_callSpecial?_slot (name := Str.ofString "__next__") (KBw.iter_typeIs hit') KBw.slot_next
      (wpAny_call_entry KBw.slot_next (KBw.iter_typeIs hit') KBw.entry_next ?_ (KBw.args_next _)))
    show wpAny _ _ (field (.ref I) 0 >>= _) _ _ s
    refine wpAny_bind (wpAny_field ho hd (x := .bytes b t) rfl ?_)
    show wpAny _ _ (if (Value.bytes b t == Value.none) = true then _ else _) _ _ s
    rw [if_neg (show ¬ ((Value.bytes b t == Value.none) = true) from Bool.false_ne_true)]
    show wpAny _ _ (field (.ref I) 1 >>= _) _ _ s
    refine wpAny_bind (wpAny_field ho hd (x := .int j 0) rfl ?_)
    refine wpAny_bind (wpAny_of_eq (a := b) rfl ?_)
    simp only [Int.toNat_natCast, hx]
    refine wpAny_bind (wpAny_rule (wpAny_bind (wpAny_setField ho hd (by simp) ?_)))
    show wpAny _ _ (newExc (.type "StopIteration") [] >>= _) _ _ _
    refine wpAny_bind ?_
    simp only [newExc, newTuple]
    refine wpAny_bind (wpAny_newObj_type ?_ (by size_fits))
    refine wpAny_bind (m := firstArgMember _ _) (wpAny_of_eq (a := Value.none) (by first | rfl | (simp only [firstArgMember]; rfl)) ?_)
    refine wpAny_newObj_type ?_ (by size_fits)
    simp only [raiseNew]
    refine wpAny_bind (wpAny_handled ?_)
    rw [show A.in1.handled = none from hh]
    refine wpAny_bind (wpAny_pure (wpAny_throw ?_))
    exact h _ _ (((Heap.SameBut.update ..).extBut.push _).push _) ⟨_, Heap.get?_push_size _ rfl, rfl⟩
end
end Mine
end

section
open PySem PySem.W PyProof.Rows PySem.Calls
set_option Elab.async false
set_option maxRecDepth 100000
namespace Mine

abbrev zipObj (f0 f1 : Value) (TI TO : Addr) : Obj := { cls := .type "zip", dict := none, data := .fields #[f0, f1, .bool false, .ref TI, .ref TO], slots := #[] }

/-- the parts of a zip that stand apart -/
structure ZApart (z TI TO I1 I2 : Addr) : Prop where
  a1 : TI ≠ z
  a2 : TO ≠ z
  a3 : I1 ≠ z
  a4 : I2 ≠ z
  a5 : TI ≠ TO
  a6 : TI ≠ I1
  a7 : TI ≠ I2
  a8 : TO ≠ I1
  a9 : TO ≠ I2
  a10 : I1 ≠ I2

/-- a zip of two rows, j pairs drawn -/
structure ZAt (h : Heap) (z TI TO I1 I2 : Addr) (k : Kd) (v1 v2 : Value) (xs ys : List Int) (f0 f1 : Value) (j : Nat) : Prop where
  zo : h.get? z = some (zipObj f0 f1 TI TO)
  ti : IsPair h TI (.ref I1) (.ref I2)
  to : ∃ a b, IsPair h TO a b
  r1 : RowIt h I1 k v1 j
  r2 : RowIt h I2 k v2 j
  x1 : Row h k v1 xs
  x2 : Row h k v2 ys
  n1 : v1 ≠ .ref TO
  n2 : v2 ≠ .ref TO
  ap : ZApart z TI TO I1 I2

theorem Row.ext {g h : Heap} {k : Kd} {v : Value} {ns : List Int} (R : Row g k v ns) (P : Addr → Prop) (l : ∀ b o, ¬ P b → g.get? b = some o → h.get? b = some o)
    (hP : ∀ b o, P b → g.get? b = some o → o.cls ≠ .type "list" ∧ o.cls ≠ .type "tuple") : Row h k v ns := by
  cases k with
  | tup =>
    obtain ⟨a, vs, e, ⟨o, ho, hc', r⟩, hi⟩ := R
    exact ⟨a, vs, e, ⟨o, l _ _ (fun q => (hP _ _ q ho).2 hc') ho, hc', r⟩, hi⟩
  | lst =>
    obtain ⟨a, vs, e, ⟨o, ho, hc', r⟩, hi⟩ := R
    exact ⟨a, vs, e, ⟨o, l _ _ (fun q => (hP _ _ q ho).1 hc') ho, hc', r⟩, hi⟩
  | byt => exact R

theorem Row.off {g h : Heap} {k : Kd} {v : Value} {ns : List Int} {T : Addr} (R : Row g k v ns) (hn : v ≠ .ref T) (l : Heap.ExtBut T g h) : Row h k v ns := by
  cases k with
  | tup =>
    obtain ⟨c, vs, e, ⟨o, ho, r⟩, hi⟩ := R
    exact ⟨c, vs, e, ⟨o, l _ _ (fun q => hn (q ▸ e)) ho, r⟩, hi⟩
  | lst =>
    obtain ⟨c, vs, e, ⟨o, ho, r⟩, hi⟩ := R
    exact ⟨c, vs, e, ⟨o, l _ _ (fun q => hn (q ▸ e)) ho, r⟩, hi⟩
  | byt => exact R

section
variable {prog : Program} {w : World} {A : Around} {E : Value → Shared → Prop} {s : Shared} {k : Kd} {v1 v2 : Value} {xs ys : List Int} {z TI TO I1 I2 : Addr}

theorem wp_alive {M : Model} {a : Addr} {Q : Option Obj → Shared → Prop} (h : Q (s.heap.get? a) s) : wpAny M A (loadIfAlive a) Q E s := fun _ _ _ => h

/-- the first draw: the zip's own tuple is free -/
theorem zip_next_free {Q : Value → Shared → Prop} {f1 : Value} {j : Nat} {x y : Int} (Z : ZAt s.heap z TI TO I1 I2 k v1 v2 xs ys .none f1 j) 
    (hx : xs[j]? = some x) (hy : ys[j]? = some y)
    (hQ : ∀ t1 t2 h' tk, ZAt h' z TI TO I1 I2 k v1 v2 xs ys (rawInt s.heap.objs.size) (.bool false) (j + 1) → IsPair h' s.heap.objs.size (.int x t1) (.int y t2) →
      (∀ c o, c ≠ z → c ≠ TO → c ≠ I1 → c ≠ I2 → s.heap.get? c = some o → h'.get? c = some o) → Q (.ref s.heap.objs.size) { s with heap := h', toks := tk }) :
    wpAny (model prog w) A (Builtin.«zip.__next__» ⟨[.ref z], []⟩) (fun fin s' => ∃ v, fin = .done (.ret v) ∧ Q v s') E s := by
  obtain ⟨hz, hTI, ⟨a, b, hTO⟩, h1, h2, R1, R2, hTO1, hTO2, D⟩ := Z
  show wpAny _ _ (field (.ref z) 2 >>= _) _ _ _
  refine wpAny_bind (wpAny_field hz rfl (x := .bool false) rfl ?_)
  show wpAny _ _ (field (.ref z) 3 >>= _) _ _ _
  refine wpAny_bind (wpAny_field hz rfl (x := .ref TI) rfl ?_)
  refine wpAny_bind (wpAny_seqItems hTI rfl ?_)
  show wpAny _ _ (Builtin.SmallTypes.ownedTupleIsFree (.ref z) >>= _) _ _ _
  refine wpAny_bind ?_
  unfold Builtin.SmallTypes.ownedTupleIsFree
  refine wpAny_bind (wpAny_field hz rfl (x := .none) rfl (wpAny_pure ?_))
  simp only [if_true]
  refine wpAny_bind (wpAny_rule ?_)
  refine wpAny_bind (wpAny_field hz rfl (x := .ref TO) rfl ?_)
  refine wpAny_bind (wpAny_setField_rec hz (by simp) fun h₁ hz₁ hs₁ => ?_)
  replace hz₁ : h₁.get? z = some (zipObj .ellipsis f1 TI TO) := hz₁
  refine wpAny_bind ?_
  simp only [List.zipIdx_cons, List.zipIdx_nil, List.forIn_cons, List.forIn_nil]
  refine wpAny_bind (wpAny_bind (wpAny_onRaise ?_))
  show wpAny _ _ (Builtin.SmallTypes.nextOf (.ref I1) >>= _) _ _ _
  have zc : (zipObj .none f1 TI TO).cls ≠ .type "list" ∧ (zipObj .none f1 TI TO).cls ≠ .type "tuple" := ⟨by simp, by simp⟩
  have R1₁ : Row h₁ k v1 xs := R1.but hz zc hs₁.extBut
  have R2₁ : Row h₁ k v2 ys := R2.but hz zc hs₁.extBut
  have h1₁ : RowIt h₁ I1 k v1 j := h1.at fun o e => hs₁.extBut _ _ D.a3 e
  have h2₁ : RowIt h₁ I2 k v2 j := h2.at fun o e => hs₁.extBut _ _ D.a4 e
  refine wpAny_bind (row_nextOf h1₁ R1₁ hx fun t1 h₂ tk₂ h1₂ hs₂ => wpAny_pure ?_)
  obtain ⟨oI1, hoI1, cI1⟩ := h1₁.has
  obtain ⟨oI2, hoI2, cI2⟩ := h2₁.has
  have hTO₂ : IsPair h₂ TO a b := hs₂.extBut _ _ D.a8 (hs₁.extBut _ _ D.a2 hTO)
  refine wpAny_bind (wpAny_seqItems hTO₂ rfl ?_)
  refine wpAny_bind (wpAny_updateSeq_pair hTO₂ fun h₃ hTO₃ hs₃ => ?_)
  replace hTO₃ : IsPair h₃ TO (.int x t1) b := hTO₃
  refine wpAny_bind (wpAny_letGo (wpAny_pure ?_))
  refine wpAny_bind (wpAny_bind (wpAny_onRaise ?_))
  show wpAny _ _ (Builtin.SmallTypes.nextOf (.ref I2) >>= _) _ _ _
  have R2₂ : Row h₂ k v2 ys := R2₁.but hoI1 cI1 hs₂.extBut
  have R1₂ : Row h₂ k v1 xs := R1₁.but hoI1 cI1 hs₂.extBut
  have R2₃ : Row h₃ k v2 ys := R2₂.off hTO2 hs₃.extBut
  have R1₃ : Row h₃ k v1 xs := R1₂.off hTO1 hs₃.extBut
  have h2₃ : RowIt h₃ I2 k v2 j := (h2₁.at fun o e => hs₂.extBut _ _ D.a10.symm e).at fun o e => hs₃.extBut _ _ D.a9.symm e
  refine wpAny_bind (row_nextOf h2₃ R2₃ hy fun t2 h₄ tk₄ h2₄ hs₄ => wpAny_pure ?_)
  have hoI2₃ : h₃.get? I2 = some oI2 := hs₃.extBut _ _ D.a9.symm (hs₂.extBut _ _ D.a10.symm hoI2)
  have hTO₄ : IsPair h₄ TO (.int x t1) b := hs₄.extBut _ _ D.a9 hTO₃
  refine wpAny_bind (wpAny_seqItems hTO₄ rfl ?_)
  refine wpAny_bind (wpAny_updateSeq_pair hTO₄ fun h₅ hTO₅ hs₅ => ?_)
  replace hTO₅ : IsPair h₅ TO (.int x t1) (.int y t2) := hTO₅
  refine wpAny_bind (wpAny_letGo (wpAny_pure (wpAny_pure ?_)))
  refine wpAny_bind (wpAny_seqItems hTO₅ rfl ?_)
  refine wpAny_bind (wpAny_newTuple ?_)
  have hsz : h₅.objs.size = s.heap.objs.size := by rw [hs₅.1, hs₄.1, hs₃.1, hs₂.1, hs₁.1]
  have hz₅ : h₅.get? z = some (zipObj .ellipsis f1 TI TO) := hs₅.extBut _ _ D.a2.symm (hs₄.extBut _ _ D.a4.symm (hs₃.extBut _ _ D.a2.symm (hs₂.extBut _ _ D.a3.symm hz₁)))
  have hk₅ : ∀ c o, c ≠ z → c ≠ TO → c ≠ I1 → c ≠ I2 → s.heap.get? c = some o → h₅.get? c = some o := fun c o c1 c2 c3 c4 e =>
    hs₅.extBut _ _ c2 (hs₄.extBut _ _ c4 (hs₃.extBut _ _ c2 (hs₂.extBut _ _ c3 (hs₁.extBut _ _ c1 e))))
  have h1₅ : RowIt h₅ I1 k v1 (j + 1) := ((h1₂.at fun o e => hs₃.extBut _ _ D.a8.symm e).at fun o e => hs₄.extBut _ _ D.a10 e).at fun o e => hs₅.extBut _ _ D.a8.symm e
  have h2₅ : RowIt h₅ I2 k v2 (j + 1) := h2₄.at fun o e => hs₅.extBut _ _ D.a9.symm e
  have R1₄ : Row h₄ k v1 xs := R1₃.but hoI2₃ cI2 hs₄.extBut
  have R2₄ : Row h₄ k v2 ys := R2₃.but hoI2₃ cI2 hs₄.extBut
  have R1₅ : Row h₅ k v1 xs := R1₄.off hTO1 hs₅.extBut
  have R2₅ : Row h₅ k v2 ys := R2₄.off hTO2 hs₅.extBut
  have hzlt : z < h₅.objs.size := Heap.lt_size hz₅
  have hTI₅ : IsPair h₅ TI (.ref I1) (.ref I2) := hk₅ _ _ D.a1 D.a5 D.a6 D.a7 hTI
  show wpAny _ _ (Builtin.SmallTypes.ownedTupleHandOut (.ref z) (.ref h₅.objs.size) >>= _) _ _ _
  refine wpAny_bind ?_
  unfold Builtin.SmallTypes.ownedTupleHandOut
  have hz₆ : (h₅.push { cls := .type "tuple", data := .seq #[.int x t1, .int y t2] }).get? z = some (zipObj .ellipsis f1 TI TO) := Heap.get?_push_of_some _ hz₅
  refine wpAny_bind (wpAny_setField_rec hz₆ (by simp) fun h₇ hz₇ hs₇ => ?_)
  replace hz₇ : h₇.get? z = some (zipObj (rawInt h₅.objs.size) f1 TI TO) := hz₇
  refine wpAny_setField_rec hz₇ (by simp) fun h₈ hz₈ hs₈ => ?_
  replace hz₈ : h₈.get? z = some (zipObj (rawInt h₅.objs.size) (.bool false) TI TO) := hz₈
  have up : ∀ c o, c ≠ z → h₅.get? c = some o → h₈.get? c = some o := fun c o c1 e => hs₈.extBut _ _ c1 (hs₇.extBut _ _ c1 (Heap.get?_push_of_some _ e))
  have hT₈ : IsPair h₈ h₅.objs.size (.int x t1) (.int y t2) := hs₈.extBut _ _ (Nat.ne_of_gt hzlt) (hs₇.extBut _ _ (Nat.ne_of_gt hzlt) (Heap.get?_push_size _ rfl))
  have upR : ∀ {v : Value} {zs : List Int} (_ : Row h₅ k v zs), Row h₈ k v zs := fun R =>
    R.ext (fun c => c = z) (fun c o c1 e => up c o c1 e) fun c o c1 e => by rw [c1, hz₅] at e; cases e; exact ⟨by simp, by simp⟩
  rw [hsz] at hz₈ hT₈
  refine wpAny_pure ⟨_, rfl, ?_⟩
  show Q (.ref h₅.objs.size) _
  rw [hsz]
  exact hQ t1 t2 h₈ _ ⟨hz₈, up _ _ D.a1 hTI₅, ⟨_, _, up _ _ D.a2 hTO₅⟩, h1₅.at fun o e => up _ _ D.a3 e, h2₅.at fun o e => up _ _ D.a4 e, upR R1₅, upR R2₅, hTO1, hTO2, D⟩ hT₈
    fun c o c1 c2 c3 c4 e => up c o c1 (hk₅ c o c1 c2 c3 c4 e)

/-- a later draw: the tuple that was handed out is still alive -/
theorem zip_next_busy {Q : Value → Shared → Prop} {f1 : Value} {T : Addr} {oT : Obj} {j : Nat} {x y : Int} (Z : ZAt s.heap z TI TO I1 I2 k v1 v2 xs ys (rawInt T) f1 j) (hT : s.heap.get? T = some oT)
    (hx : xs[j]? = some x) (hy : ys[j]? = some y)
    (hQ : ∀ t1 t2 f1' h' D tk, ZAt h' z TI TO I1 I2 k v1 v2 xs ys (rawInt T) f1' (j + 1) → IsPair h' D (.int x t1) (.int y t2) → s.heap.get? D = none →
      (∀ c o, c ≠ z → c ≠ TO → c ≠ I1 → c ≠ I2 → s.heap.get? c = some o → h'.get? c = some o) → Q (.ref D) { s with heap := h', toks := tk }) :
    wpAny (model prog w) A (Builtin.«zip.__next__» ⟨[.ref z], []⟩) (fun fin s' => ∃ v, fin = .done (.ret v) ∧ Q v s') E s := by
  obtain ⟨hz, hTI, ⟨a, b, hTO⟩, h1, h2, R1, R2, hTO1, hTO2, D⟩ := Z
  show wpAny _ _ (field (.ref z) 2 >>= _) _ _ _
  refine wpAny_bind (wpAny_field hz rfl (x := .bool false) rfl ?_)
  show wpAny _ _ (field (.ref z) 3 >>= _) _ _ _
  refine wpAny_bind (wpAny_field hz rfl (x := .ref TI) rfl ?_)
  refine wpAny_bind (wpAny_seqItems hTI rfl ?_)
  show wpAny _ _ (Builtin.SmallTypes.ownedTupleIsFree (.ref z) >>= _) _ _ _
  refine wpAny_bind ?_
  unfold Builtin.SmallTypes.ownedTupleIsFree
  refine wpAny_bind (wpAny_field hz rfl (x := rawInt T) rfl ?_)
  have gate : wpAny (model prog w) A (do
      if (← loadIfAlive ((T : Int)).toNat).isNone then return true
      if (← field (.ref z) 1) != .bool true then setField (.ref z) 1 (.bool true)
      return false) (fun r s' => r = false ∧ ∃ f1' h', s' = { s with heap := h' } ∧ h'.get? z = some (zipObj (rawInt T) f1' TI TO) ∧ Heap.SameBut z s.heap h') E s := by
    refine wpAny_bind (wp_alive ?_)
    rw [Int.toNat_natCast, hT]
    simp only [Option.isNone_some, Bool.false_eq_true, if_false]
    refine wpAny_bind (wpAny_field hz rfl (x := f1) rfl ?_)
    by_cases hf : (f1 != .bool true) = true
    · simp only [hf, if_true]
      refine wpAny_bind (wpAny_setField_rec hz (by simp) fun h₁ hz₁ hs₁ => wpAny_pure ⟨rfl, _, _, rfl, hz₁, hs₁⟩)
    · simp only [hf, if_false]
      exact wpAny_pure ⟨rfl, f1, s.heap, rfl, hz, ⟨rfl, fun _ _ => rfl⟩⟩
  refine wpAny_mono gate (fun r s' hr => ?_) fun _ _ e => e
  obtain ⟨rfl, f1', h₁, rfl, hz₁, hs₁⟩ := hr
  simp only [Bool.false_eq_true, if_false]
  have zc : (zipObj (rawInt T) f1 TI TO).cls ≠ .type "list" ∧ (zipObj (rawInt T) f1 TI TO).cls ≠ .type "tuple" := ⟨by simp, by simp⟩
  have R1₁ : Row h₁ k v1 xs := R1.but hz zc hs₁.extBut
  have R2₁ : Row h₁ k v2 ys := R2.but hz zc hs₁.extBut
  have h1₁ : RowIt h₁ I1 k v1 j := h1.at fun o e => hs₁.extBut _ _ D.a3 e
  have h2₁ : RowIt h₁ I2 k v2 j := h2.at fun o e => hs₁.extBut _ _ D.a4 e
  refine wpAny_bind ?_
  rw [← Array.forIn_toList]
  simp only [List.forIn_cons, List.forIn_nil]
  refine wpAny_bind (wpAny_bind (wpAny_holding ?_))
  show wpAny _ _ (Builtin.SmallTypes.nextOf (.ref I1) >>= _) _ _ _
  refine wpAny_bind (row_nextOf h1₁ R1₁ hx fun t1 h₂ tk₂ h1₂ hs₂ => wpAny_pure (wpAny_pure ?_))
  obtain ⟨oI1, hoI1, cI1⟩ := h1₁.has
  obtain ⟨oI2, hoI2, cI2⟩ := h2₁.has
  have R1₂ : Row h₂ k v1 xs := R1₁.but hoI1 cI1 hs₂.extBut
  have R2₂ : Row h₂ k v2 ys := R2₁.but hoI1 cI1 hs₂.extBut
  have h2₂ : RowIt h₂ I2 k v2 j := h2₁.at fun o e => hs₂.extBut _ _ D.a10.symm e
  refine wpAny_bind (wpAny_bind (wpAny_holding ?_))
  show wpAny _ _ (Builtin.SmallTypes.nextOf (.ref I2) >>= _) _ _ _
  refine wpAny_bind (row_nextOf h2₂ R2₂ hy fun t2 h₃ tk₃ h2₃ hs₃ => wpAny_pure (wpAny_pure (wpAny_pure ?_)))
  have hoI2₂ : h₂.get? I2 = some oI2 := hs₂.extBut _ _ D.a10.symm hoI2
  have R1₃ : Row h₃ k v1 xs := R1₂.but hoI2₂ cI2 hs₃.extBut
  have R2₃ : Row h₃ k v2 ys := R2₂.but hoI2₂ cI2 hs₃.extBut
  have h1₃ : RowIt h₃ I1 k v1 (j + 1) := h1₂.at fun o e => hs₃.extBut _ _ D.a10 e
  have hz₃ : h₃.get? z = some (zipObj (rawInt T) f1' TI TO) := hs₃.extBut _ _ D.a4.symm (hs₂.extBut _ _ D.a3.symm hz₁)
  have hk₃ : ∀ c o, c ≠ z → c ≠ TO → c ≠ I1 → c ≠ I2 → s.heap.get? c = some o → h₃.get? c = some o := fun c o c1 c2 c3 c4 e =>
    hs₃.extBut _ _ c4 (hs₂.extBut _ _ c3 (hs₁.extBut _ _ c1 e))
  have hsz : h₃.objs.size = s.heap.objs.size := by rw [hs₃.1, hs₂.1, hs₁.1]
  have hTO₃ : IsPair h₃ TO a b := hs₃.extBut _ _ D.a9 (hs₂.extBut _ _ D.a8 (hs₁.extBut _ _ D.a2 hTO))
  refine wpAny_bind (wpAny_newTuple (wpAny_pure ⟨_, rfl, ?_⟩) (by show (2 : Nat) ≤ sizeLine; rw [sizeLine_eq]; omega))
  have up : Lasts h₃ (h₃.push { cls := .type "tuple", data := .seq #[.int x t1, .int y t2] }) := Lasts.push _ _
  exact hQ t1 t2 f1' _ _ _ ⟨up _ _ hz₃, up _ _ (hk₃ _ _ D.a1 D.a5 D.a6 D.a7 hTI), ⟨_, _, up _ _ hTO₃⟩, h1₃.at fun o e => up _ _ e, h2₃.at fun o e => up _ _ e, R1₃.mono up, R2₃.mono up, hTO1, hTO2, D⟩
    (Heap.get?_push_size _ rfl) (by
      cases q : s.heap.get? h₃.objs.size with
      | none => rfl
      | some o => exact absurd (Heap.lt_size q) (by rw [hsz]; exact Nat.lt_irrefl _)) fun c o c1 c2 c3 c4 e => up _ _ (hk₃ c o c1 c2 c3 c4 e)

/-- behind the last pair -/
theorem zip_next_end {Q : PySem.Fin → Shared → Prop} {f0 f1 : Value} {j : Nat} (hh : A.handled = none) (Z : ZAt s.heap z TI TO I1 I2 k v1 v2 xs ys f0 f1 j)
    (hf : f0 = .none ∨ ∃ T oT, f0 = rawInt ((T : Nat) : Int) ∧ s.heap.get? T = some oT)
    (hend : xs[j]? = none ∨ ys[j]? = none)
    (hE : ∀ h' e tk, (∀ c o, c ≠ z → c ≠ TO → c ≠ I1 → c ≠ I2 → s.heap.get? c = some o → h'.get? c = some o) → (∃ o, h'.get? e = some o ∧ o.cls = .type "StopIteration") → E (.ref e) { s with heap := h', toks := tk }) :
    wpAny (model prog w) A (Builtin.«zip.__next__» ⟨[.ref z], []⟩) Q E s := by
  obtain ⟨hz, hTI, ⟨a, b, hTO⟩, h1, h2, R1, R2, hTO1, hTO2, D⟩ := Z
  show wpAny _ _ (field (.ref z) 2 >>= _) _ _ _
  refine wpAny_bind (wpAny_field hz rfl (x := .bool false) rfl ?_)
  show wpAny _ _ (field (.ref z) 3 >>= _) _ _ _
  refine wpAny_bind (wpAny_field hz rfl (x := .ref TI) rfl ?_)
  refine wpAny_bind (wpAny_seqItems hTI rfl ?_)
  show wpAny _ _ (Builtin.SmallTypes.ownedTupleIsFree (.ref z) >>= _) _ _ _
  refine wpAny_bind ?_
  unfold Builtin.SmallTypes.ownedTupleIsFree
  rcases hf with rfl | ⟨T, oT, rfl, hT⟩
  · refine wpAny_bind (wpAny_field hz rfl (x := .none) rfl (wpAny_pure ?_))
    simp only [if_true]
    refine wpAny_bind (wpAny_rule ?_)
    refine wpAny_bind (wpAny_field hz rfl (x := .ref TO) rfl ?_)
    refine wpAny_bind (wpAny_setField_rec hz (by simp) fun h₁ hz₁ hs₁ => ?_)
    replace hz₁ : h₁.get? z = some (zipObj .ellipsis f1 TI TO) := hz₁
    refine wpAny_bind ?_
    simp only [List.zipIdx_cons, List.zipIdx_nil, List.forIn_cons, List.forIn_nil]
    refine wpAny_bind (wpAny_bind (wpAny_onRaise ?_))
    show wpAny _ _ (Builtin.SmallTypes.nextOf (.ref I1) >>= _) _ _ _
    have zc : (zipObj .none f1 TI TO).cls ≠ .type "list" ∧ (zipObj .none f1 TI TO).cls ≠ .type "tuple" := ⟨by simp, by simp⟩
    have R1₁ : Row h₁ k v1 xs := R1.but hz zc hs₁.extBut
    have R2₁ : Row h₁ k v2 ys := R2.but hz zc hs₁.extBut
    have h1₁ : RowIt h₁ I1 k v1 j := h1.at fun o e => hs₁.extBut _ _ D.a3 e
    have h2₁ : RowIt h₁ I2 k v2 j := h2.at fun o e => hs₁.extBut _ _ D.a4 e
    cases hx : xs[j]? with
    | none =>
      refine wpAny_bind (row_nextOf_end hh h1₁ R1₁ hx fun h₂ e hs₂ he => ?_)
      obtain ⟨oe, hoe, hce⟩ := he
      have hz₂ : h₂.get? z = some (zipObj .ellipsis f1 TI TO) := hs₂ _ _ D.a3.symm hz₁
      have hez : e ≠ z := fun q => by subst q; rw [hz₂] at hoe; cases hoe; simp at hce
      exact wpAny_setField_rec hz₂ (by simp) fun h₃ _ hs₃ => hE h₃ e _ (fun c o c1 _ c3 _ q => hs₃.extBut _ _ c1 (hs₂ _ _ c3 (hs₁.extBut _ _ c1 q))) ⟨oe, hs₃.extBut _ _ hez hoe, hce⟩
    | some x =>
      have hy : ys[j]? = none := by rcases hend with q | q; rw [hx] at q; cases q; exact q
      refine wpAny_bind (row_nextOf h1₁ R1₁ hx fun t1 h₂ tk₂ h1₂ hs₂ => wpAny_pure ?_)
      obtain ⟨oI1, hoI1, cI1⟩ := h1₁.has
      have hTO₂ : IsPair h₂ TO a b := hs₂.extBut _ _ D.a8 (hs₁.extBut _ _ D.a2 hTO)
      refine wpAny_bind (wpAny_seqItems hTO₂ rfl ?_)
      refine wpAny_bind (wpAny_updateSeq_pair hTO₂ fun h₃ hTO₃ hs₃ => ?_)
      refine wpAny_bind (wpAny_letGo (wpAny_pure ?_))
      refine wpAny_bind (wpAny_bind (wpAny_onRaise ?_))
      show wpAny _ _ (Builtin.SmallTypes.nextOf (.ref I2) >>= _) _ _ _
      have R2₃ : Row h₃ k v2 ys := (R2₁.but hoI1 cI1 hs₂.extBut).off hTO2 hs₃.extBut
      have h2₃ : RowIt h₃ I2 k v2 j := (h2₁.at fun o e => hs₂.extBut _ _ D.a10.symm e).at fun o e => hs₃.extBut _ _ D.a9.symm e
      refine wpAny_bind (row_nextOf_end hh h2₃ R2₃ hy fun h₄ e hs₄ he => ?_)
      obtain ⟨oe, hoe, hce⟩ := he
      have hz₄ : h₄.get? z = some (zipObj .ellipsis f1 TI TO) := hs₄ _ _ D.a4.symm (hs₃.extBut _ _ D.a2.symm (hs₂.extBut _ _ D.a3.symm hz₁))
      have hez : e ≠ z := fun q => by subst q; rw [hz₄] at hoe; cases hoe; simp at hce
      exact wpAny_setField_rec hz₄ (by simp) fun h₅ _ hs₅ => hE h₅ e _ (fun c o c1 c2 c3 c4 q => hs₅.extBut _ _ c1 (hs₄ _ _ c4 (hs₃.extBut _ _ c2 (hs₂.extBut _ _ c3 (hs₁.extBut _ _ c1 q))))) ⟨oe, hs₅.extBut _ _ hez hoe, hce⟩
  · refine wpAny_bind (wpAny_field hz rfl (x := rawInt T) rfl ?_)
    have gate : wpAny (model prog w) A (do
        if (← loadIfAlive ((T : Int)).toNat).isNone then return true
        if (← field (.ref z) 1) != .bool true then setField (.ref z) 1 (.bool true)
        return false) (fun r s' => r = false ∧ ∃ f1' h', s' = { s with heap := h' } ∧ h'.get? z = some (zipObj (rawInt T) f1' TI TO) ∧ Heap.SameBut z s.heap h') E s := by
      refine wpAny_bind (wp_alive ?_)
      rw [Int.toNat_natCast, hT]
      simp only [Option.isNone_some, Bool.false_eq_true, if_false]
      refine wpAny_bind (wpAny_field hz rfl (x := f1) rfl ?_)
      by_cases hf : (f1 != .bool true) = true
      · simp only [hf, if_true]
        refine wpAny_bind (wpAny_setField_rec hz (by simp) fun h₁ hz₁ hs₁ => wpAny_pure ⟨rfl, _, _, rfl, hz₁, hs₁⟩)
      · simp only [hf]
        exact wpAny_pure ⟨rfl, f1, s.heap, rfl, hz, ⟨rfl, fun _ _ => rfl⟩⟩
    refine wpAny_mono gate (fun r s' hr => ?_) fun _ _ e => e
    obtain ⟨rfl, f1', h₁, rfl, hz₁, hs₁⟩ := hr
    simp only [Bool.false_eq_true, if_false]
    have zc : (zipObj (rawInt T) f1 TI TO).cls ≠ .type "list" ∧ (zipObj (rawInt T) f1 TI TO).cls ≠ .type "tuple" := ⟨by simp, by simp⟩
    have R1₁ : Row h₁ k v1 xs := R1.but hz zc hs₁.extBut
    have R2₁ : Row h₁ k v2 ys := R2.but hz zc hs₁.extBut
    have h1₁ : RowIt h₁ I1 k v1 j := h1.at fun o e => hs₁.extBut _ _ D.a3 e
    have h2₁ : RowIt h₁ I2 k v2 j := h2.at fun o e => hs₁.extBut _ _ D.a4 e
    refine wpAny_bind ?_
    rw [← Array.forIn_toList]
    simp only [List.forIn_cons, List.forIn_nil]
    refine wpAny_bind (wpAny_bind (wpAny_holding ?_))
    show wpAny _ _ (Builtin.SmallTypes.nextOf (.ref I1) >>= _) _ _ _
    cases hx : xs[j]? with
    | none => exact wpAny_bind (row_nextOf_end hh h1₁ R1₁ hx fun h₂ e hs₂ he => hE h₂ e _ (fun c o c1 _ c3 _ q => hs₂ _ _ c3 (hs₁.extBut _ _ c1 q)) he)
    | some x =>
      have hy : ys[j]? = none := by rcases hend with q | q; rw [hx] at q; cases q; exact q
      refine wpAny_bind (row_nextOf h1₁ R1₁ hx fun t1 h₂ tk₂ h1₂ hs₂ => wpAny_pure (wpAny_pure ?_))
      obtain ⟨oI1, hoI1, cI1⟩ := h1₁.has
      have R2₂ : Row h₂ k v2 ys := R2₁.but hoI1 cI1 hs₂.extBut
      have h2₂ : RowIt h₂ I2 k v2 j := h2₁.at fun o e => hs₂.extBut _ _ D.a10.symm e
      refine wpAny_bind (wpAny_bind (wpAny_holding ?_))
      show wpAny _ _ (Builtin.SmallTypes.nextOf (.ref I2) >>= _) _ _ _
      exact wpAny_bind (row_nextOf_end hh h2₂ R2₂ hy fun h₃ e hs₃ he => hE h₃ e _ (fun c o c1 c2 c3 c4 q => hs₃ _ _ c4 (hs₂.extBut _ _ c3 (hs₁.extBut _ _ c1 q))) he)

/-- the zip as an iterator that another one draws from: its own tuple free, or handed out and alive -/
structure ZSt (h : Heap) (z TI TO I1 I2 : Addr) (k : Kd) (v1 v2 : Value) (xs ys : List Int) (j : Nat) : Prop where
  st : ∃ f0 f1, ZAt h z TI TO I1 I2 k v1 v2 xs ys f0 f1 j ∧ (f0 = .none ∨ ∃ T oT, f0 = rawInt ((T : Nat) : Int) ∧ h.get? T = some oT ∧ oT.cls = .type "tuple" ∧ (∃ vs n, oT.data = .seq vs n) ∧ T ≠ TO)

theorem zip_next {Q : Value → Shared → Prop} {j : Nat} {x y : Int} (Z : ZSt s.heap z TI TO I1 I2 k v1 v2 xs ys j) (hx : xs[j]? = some x) (hy : ys[j]? = some y)
    (hQ : ∀ t1 t2 h' D tk, ZSt h' z TI TO I1 I2 k v1 v2 xs ys (j + 1) → IsPair h' D (.int x t1) (.int y t2) → s.heap.get? D = none →
      (∀ c o, c ≠ z → c ≠ TO → c ≠ I1 → c ≠ I2 → s.heap.get? c = some o → h'.get? c = some o) → Q (.ref D) { s with heap := h', toks := tk }) :
    wpAny (model prog w) A (Builtin.«zip.__next__» ⟨[.ref z], []⟩) (fun fin s' => ∃ v, fin = .done (.ret v) ∧ Q v s') E s := by
  obtain ⟨f0, f1, Z, hf⟩ := Z.st
  obtain ⟨o1, ho1, c1, c1'⟩ := Z.r1.has
  obtain ⟨o2, ho2, c2, c2'⟩ := Z.r2.has
  rcases hf with rfl | ⟨T, oT, rfl, hT, hc, hdT, hTO⟩
  · obtain ⟨pa, pb, hp⟩ := Z.to
    have fresh : s.heap.get? s.heap.objs.size = none := by
      cases q : s.heap.get? s.heap.objs.size with
      | none => rfl
      | some o => exact absurd (Heap.lt_size q) (Nat.lt_irrefl _)
    exact zip_next_free Z hx hy fun t1 t2 h' tk Z' P l => hQ t1 t2 h' _ tk ⟨_, _, Z', .inr ⟨_, _, rfl, P, rfl, ⟨_, _, rfl⟩, fun q => by rw [← q] at hp; cases fresh.symm.trans hp⟩⟩ P fresh l
  · refine zip_next_busy Z hT hx hy fun t1 t2 f1' h' D tk Z' P fr l => hQ t1 t2 h' D tk ⟨_, _, Z', .inr ⟨T, oT, rfl, ?_, hc, hdT, hTO⟩⟩ P fr l
    refine l _ _ ?_ hTO ?_ ?_ hT
    · rintro rfl; rw [Z.zo] at hT; cases hT; simp at hc
    · rintro rfl; rw [ho1] at hT; cases hT; exact c1' hc
    · rintro rfl; rw [ho2] at hT; cases hT; exact c2' hc
end
end Mine
end

section
open PySem PySem.W PyProof.Rows PySem.Calls
set_option Elab.async false
set_option maxRecDepth 100000
namespace Mine

/-- an object that may turn while rows are drawn: a frame's table, an enumerate -/
def Off (o : Obj) : Prop := (∃ es ep, o.data = .dict es ep) ∨ o.cls = .type "enumerate"

theorem Row.ext' {g h : Heap} {k : Kd} {v : Value} {ns : List Int} (R : Row g k v ns) (P : Addr → Prop) (l : ∀ b o, ¬ P b → g.get? b = some o → h.get? b = some o)
    (hP : ∀ b o, P b → g.get? b = some o → Off o) : Row h k v ns := by
  cases k with
  | tup =>
    obtain ⟨a, vs, e, ⟨o, ho, hc, n, hd⟩, hi⟩ := R
    refine ⟨a, vs, e, ⟨o, l _ _ (fun q => ?_) ho, hc, n, hd⟩, hi⟩
    rcases hP _ _ q ho with ⟨es, ep, h'⟩ | h'
    · rw [hd] at h'; cases h'
    · rw [hc] at h'; simp at h'
  | lst =>
    obtain ⟨a, vs, e, ⟨o, ho, hc, n, hd⟩, hi⟩ := R
    refine ⟨a, vs, e, ⟨o, l _ _ (fun q => ?_) ho, hc, n, hd⟩, hi⟩
    rcases hP _ _ q ho with ⟨es, ep, h'⟩ | h'
    · rw [hd] at h'; cases h'
    · rw [hc] at h'; simp at h'
  | byt => exact R

theorem RowIt.ext' {g h : Heap} {I : Addr} {k : Kd} {v : Value} {j : Nat} (R : RowIt g I k v j) (P : Addr → Prop) (l : ∀ b o, ¬ P b → g.get? b = some o → h.get? b = some o)
    (hP : ∀ b o, P b → g.get? b = some o → Off o) : RowIt h I k v j := by
  refine R.at fun o e => l _ _ (fun q => ?_) e
  cases k with
  | tup =>
    obtain ⟨a, _, o', ho, hc, hd⟩ := R
    rw [ho] at e; cases e
    rcases hP _ _ q ho with ⟨es, ep, h'⟩ | h'
    · rw [hd] at h'; cases h'
    · rw [hc] at h'; simp at h'
  | lst =>
    obtain ⟨a, _, o', ho, hc, hd⟩ := R
    rw [ho] at e; cases e
    rcases hP _ _ q ho with ⟨es, ep, h'⟩ | h'
    · rw [hd] at h'; cases h'
    · rw [hc] at h'; simp at h'
  | byt =>
    obtain ⟨b, t, _, o', ho, hc, hd⟩ := R
    rw [ho] at e; cases e
    rcases hP _ _ q ho with ⟨es, ep, h'⟩ | h'
    · rw [hd] at h'; cases h'
    · rw [hc] at h'; simp at h'

theorem pair_ext {g h : Heap} {T : Addr} {a b : Value} (R : IsPair g T a b) (P : Addr → Prop) (l : ∀ b o, ¬ P b → g.get? b = some o → h.get? b = some o)
    (hP : ∀ b o, P b → g.get? b = some o → Off o) : IsPair h T a b := by
  refine l _ _ (fun q => ?_) R
  rcases hP _ _ q R with ⟨es, ep, h'⟩ | h' <;> first | (simp at h'; done) | cases h'

theorem ZAt.ext {g h : Heap} {z TI TO I1 I2 : Addr} {k : Kd} {v1 v2 : Value} {xs ys : List Int} {f0 f1 : Value} {j : Nat} (Z : ZAt g z TI TO I1 I2 k v1 v2 xs ys f0 f1 j)
    (P : Addr → Prop) (l : ∀ b o, ¬ P b → g.get? b = some o → h.get? b = some o) (hP : ∀ b o, P b → g.get? b = some o → Off o) : ZAt h z TI TO I1 I2 k v1 v2 xs ys f0 f1 j := by
  obtain ⟨hz, hTI, ⟨a, b, hTO⟩, h1, h2, R1, R2, n1, n2, D⟩ := Z
  refine ⟨l _ _ (fun q => ?_) hz, pair_ext hTI P l hP, ⟨a, b, pair_ext hTO P l hP⟩, h1.ext' P l hP, h2.ext' P l hP, R1.ext' P l hP, R2.ext' P l hP, n1, n2, D⟩
  rcases hP _ _ q hz with ⟨es, ep, h'⟩ | h' <;> first | (simp at h'; done) | cases h'

theorem ZSt.ext {g h : Heap} {z TI TO I1 I2 : Addr} {k : Kd} {v1 v2 : Value} {xs ys : List Int} {j : Nat} (Z : ZSt g z TI TO I1 I2 k v1 v2 xs ys j)
    (P : Addr → Prop) (l : ∀ b o, ¬ P b → g.get? b = some o → h.get? b = some o) (hP : ∀ b o, P b → g.get? b = some o → Off o) : ZSt h z TI TO I1 I2 k v1 v2 xs ys j := by
  obtain ⟨f0, f1, Z, hf⟩ := Z.st
  refine ⟨f0, f1, Z.ext P l hP, hf.imp id ?_⟩
  rintro ⟨T, oT, e, hT, hc, ⟨vs, n, hd⟩, hn⟩
  refine ⟨T, oT, e, l _ _ (fun q => ?_) hT, hc, ⟨vs, n, hd⟩, hn⟩
  rcases hP _ _ q hT with ⟨es, ep, h'⟩ | h'
  · rw [hd] at h'; cases h'
  · rw [hc] at h'; simp at h'

section
variable {prog : Program} {w : World} {A : Around} {E : Value → Shared → Prop} {s : Shared} {k : Kd} {v1 v2 : Value} {xs ys : List Int} {z TI TO I1 I2 : Addr}

theorem zst_type {j : Nat} (Z : ZSt s.heap z TI TO I1 I2 k v1 v2 xs ys j) : s.TypeIs (.ref z) "zip" := by
  obtain ⟨f0, f1, Z, _⟩ := Z.st
  exact ⟨_, Z.zo, rfl⟩

theorem zip_nextOf {Q : Value → Shared → Prop} {j : Nat} {x y : Int} (Z : ZSt s.heap z TI TO I1 I2 k v1 v2 xs ys j) (hx : xs[j]? = some x) (hy : ys[j]? = some y)
    (hQ : ∀ t1 t2 h' D tk, ZSt h' z TI TO I1 I2 k v1 v2 xs ys (j + 1) → IsPair h' D (.int x t1) (.int y t2) → s.heap.get? D = none →
      (∀ c o, c ≠ z → c ≠ TO → c ≠ I1 → c ≠ I2 → s.heap.get? c = some o → h'.get? c = some o) → Q (.ref D) { s with heap := h', toks := tk }) :
    wpAny (model prog w) A (Builtin.SmallTypes.nextOf (.ref z)) Q E s := by
  unfold Builtin.SmallTypes.nextOf
  exact wpAny_bind (wpAny_callSpecial?_slot (name := Str.ofString "__next__") (zst_type Z) F.slot_zip_next
    (wpAny_call_entry F.slot_zip_next (zst_type Z) F.entry_zip_next
      (zip_next Z hx hy fun t1 t2 h' D tk a b c d => wpAny_pure (hQ t1 t2 h' D tk a b c d)) (F.args_zip_next_1 _)))

theorem zip_nextOf_end {Q : Value → Shared → Prop} {j : Nat} (hh : A.handled = none) (Z : ZSt s.heap z TI TO I1 I2 k v1 v2 xs ys j) (hend : xs[j]? = none ∨ ys[j]? = none)
    (hE : ∀ h' e tk, (∀ c o, c ≠ z → c ≠ TO → c ≠ I1 → c ≠ I2 → s.heap.get? c = some o → h'.get? c = some o) → (∃ o, h'.get? e = some o ∧ o.cls = .type "StopIteration") → E (.ref e) { s with heap := h', toks := tk }) :
    wpAny (model prog w) A (Builtin.SmallTypes.nextOf (.ref z)) Q E s := by
  obtain ⟨f0, f1, Z', hf⟩ := Z.st
  unfold Builtin.SmallTypes.nextOf
  exact wpAny_bind (wpAny_callSpecial?_slot (name := Str.ofString "__next__") (zst_type Z) F.slot_zip_next
    (wpAny_call_entry F.slot_zip_next (zst_type Z) F.entry_zip_next
      (zip_next_end hh Z' (hf.imp id fun ⟨T, oT, a, b, _⟩ => ⟨T, oT, a, b⟩) hend hE) (F.args_zip_next_1 _)))

/-- one turn of enumerate over such a zip -/
theorem enum_next {Q : Option Value → Shared → Prop} {e : Addr} {old : Value} {j : Nat} {x y : Int} (he : IsEnum s.heap e z j old) (Z : ZSt s.heap z TI TO I1 I2 k v1 v2 xs ys j)
    (hx : xs[j]? = some x) (hy : ys[j]? = some y)
    (hQ : ∀ ti t1 t2 h' D T tk, IsEnumOut h' e z ((j : Int) + 1) (.ref D) T → ZSt h' z TI TO I1 I2 k v1 v2 xs ys (j + 1) → IsPair h' T (.int j ti) (.ref D) → IsPair h' D (.int x t1) (.int y t2) →
      (∀ c o, c ≠ e → c ≠ z → c ≠ TO → c ≠ I1 → c ≠ I2 → s.heap.get? c = some o → h'.get? c = some o) → Q (some (.ref T)) { s with heap := h', toks := tk }) :
    wpAny (model prog w) A (pyNext (.ref e)) Q E s := by
  have hT : s.TypeIs (.ref e) "enumerate" := ⟨_, he, rfl⟩
  obtain ⟨g0, g1, Z0, hf0⟩ := Z.st
  obtain ⟨oI1, hoI1, cI1⟩ := Z0.r1.has
  obtain ⟨oI2, hoI2, cI2⟩ := Z0.r2.has
  have cls_ne : ∀ {c o}, s.heap.get? c = some o → o.cls ≠ .type "enumerate" → c ≠ e := fun h1 h2 q => by rw [q] at h1; rw [he] at h1; cases h1; exact h2 rfl
  have ez : e ≠ z := (cls_ne Z0.zo (by simp)).symm
  have eTO : e ≠ TO := by obtain ⟨a, b, q⟩ := Z0.to; exact (cls_ne q (by simp)).symm
  have itCls : ∀ {I v}, RowIt s.heap I k v j → e ≠ I := fun {I v} R => by
    cases k with
    | tup => obtain ⟨a, _, o, ho, hc, _⟩ := R; exact (cls_ne ho (by rw [hc]; simp)).symm
    | lst => obtain ⟨a, _, o, ho, hc, _⟩ := R; exact (cls_ne ho (by rw [hc]; simp)).symm
    | byt => obtain ⟨b, t, _, o, ho, hc, _⟩ := R; exact (cls_ne ho (by rw [hc]; simp)).symm
  have e1 : e ≠ I1 := itCls Z0.r1
  have e2 : e ≠ I2 := itCls Z0.r2
  unfold pyNext
  refine wpAny_bind (wpAny_attempt (wpAny_callSpecial?_slot (name := Str.ofString "__next__") hT F.slot_enumerate_next
    (wpAny_call_entry F.slot_enumerate_next hT F.entry_enumerate_next ?_ (F.args_enumerate_next_1 _))))
  obtain ⟨hp, gg, d, tk, os⟩ := s
  show wpAny _ _ (field (.ref e) 2 >>= _) _ _ _
  refine wpAny_bind (wpAny_field he rfl (x := .ref z) rfl ?_)
  refine wpAny_bind (zip_nextOf Z hx hy fun t1 t2 h₁ D tk₁ Z₁ P₁ fr k₁ => ?_)
  replace k₁ : ∀ c o, c ≠ z → c ≠ TO → c ≠ I1 → c ≠ I2 → hp.get? c = some o → h₁.get? c = some o := k₁
  have he₁ : IsEnum h₁ e z j old := k₁ _ _ ez eTO e1 e2 he
  show wpAny _ _ (field (.ref e) 3 >>= _) _ _ ⟨h₁, gg, d, tk₁, os⟩
  refine wpAny_bind (wpAny_field he₁ rfl (x := rawInt j) rfl ?_)
  show wpAny _ _ (field (.ref e) 4 >>= _) _ _ ⟨h₁, gg, d, tk₁, os⟩
  refine wpAny_bind (wpAny_field he₁ rfl (x := .none) rfl ?_)
  show wpAny _ _ (mkInt j >>= _) _ _ ⟨h₁, gg, d, tk₁, os⟩
  refine wpAny_bind (wpAny_mkInt ?_)
  show wpAny _ _ (setField (.ref e) 3 (rawInt ((j : Int) + 1)) >>= _) _ _ ⟨h₁, gg, d, tk₁ + 1, os⟩
  refine wpAny_bind (wpAny_setField_rec he₁ (by simp) fun h₂ he₂ hs₂ => ?_)
  replace hs₂ : Heap.SameBut e h₁ h₂ := hs₂
  replace he₂ : IsEnum h₂ e z ((j : Int) + 1) old := he₂
  show wpAny _ _ (setField (.ref e) 4 .none >>= _) _ _ ⟨h₂, gg, d, tk₁ + 1, os⟩
  refine wpAny_bind (wpAny_setField_rec he₂ (by simp) fun h₃ he₃ hs₃ => ?_)
  replace hs₃ : Heap.SameBut e h₂ h₃ := hs₃
  replace he₃ : IsEnum h₃ e z ((j : Int) + 1) old := he₃
  show wpAny _ _ (newTuple [.int j tk₁, .ref D] >>= _) _ _ ⟨h₃, gg, d, tk₁ + 1, os⟩
  refine wpAny_bind (wpAny_newTuple ?_)
  have he₄ : IsEnum (h₃.push { cls := .type "tuple", data := .seq #[.int j tk₁, .ref D] }) e z ((j : Int) + 1) old := Heap.get?_push_of_some _ he₃
  have hT₄ : IsPair (h₃.push { cls := .type "tuple", data := .seq #[.int j tk₁, .ref D] }) h₃.objs.size (.int j tk₁) (.ref D) := Heap.get?_push_size _ rfl
  have k₄ : ∀ c o, c ≠ e → h₁.get? c = some o → (h₃.push { cls := .type "tuple", data := .seq #[.int j tk₁, .ref D] }).get? c = some o := fun c o c1 q =>
    Heap.get?_push_of_some _ (hs₃.extBut _ _ c1 (hs₂.extBut _ _ c1 q))
  have hTe : h₃.objs.size ≠ e := Nat.ne_of_gt (Heap.lt_size he₃)
  generalize h₃.push { cls := .type "tuple", data := .seq #[.int j tk₁, .ref D] } = h₄ at he₄ hT₄ k₄
  generalize h₃.objs.size = T at hT₄ hTe
  show wpAny _ _ (Builtin.SmallTypes.ownedTupleIsFree (.ref e) >>= _) _ _ ⟨h₄, gg, d, tk₁ + 1, os⟩
  have eD : D ≠ e := fun q => by rw [q] at fr; cases fr.symm.trans he
  refine wpAny_bind ?_
  unfold Builtin.SmallTypes.ownedTupleIsFree
  refine wpAny_bind (wpAny_field he₄ rfl (x := .none) rfl (wpAny_pure ?_))
  simp only [if_true]
  refine wpAny_bind (wpAny_rule ?_)
  refine wpAny_bind (wpAny_field he₄ rfl (x := old) rfl ?_)
  refine wpAny_bind (wpAny_setField_rec he₄ (by simp) fun h₅ he₅ hs₅ => ?_)
  replace hs₅ : Heap.SameBut e h₄ h₅ := hs₅
  replace he₅ : IsEnum h₅ e z ((j : Int) + 1) (.ref D) := he₅
  show wpAny _ _ (Builtin.SmallTypes.ownedTupleHandOut (.ref e) (.ref T) >>= _) _ _ ⟨h₅, gg, d, tk₁ + 1, os⟩
  refine wpAny_bind ?_
  unfold Builtin.SmallTypes.ownedTupleHandOut
  refine wpAny_bind (wpAny_setField_rec he₅ (by simp) fun h₆ he₆ hs₆ => ?_)
  replace hs₆ : Heap.SameBut e h₅ h₆ := hs₆
  replace he₆ : IsEnumOut h₆ e z ((j : Int) + 1) (.ref D) T := he₆
  refine wpAny_setField_rec he₆ (by simp) fun h₇ he₇ hs₇ => ?_
  replace hs₇ : Heap.SameBut e h₆ h₇ := hs₇
  replace he₇ : IsEnumOut h₇ e z ((j : Int) + 1) (.ref D) T := he₇
  have k₇ : ∀ c o, c ≠ e → h₄.get? c = some o → h₇.get? c = some o := fun c o c1 q => hs₇.extBut _ _ c1 (hs₆.extBut _ _ c1 (hs₅.extBut _ _ c1 q))
  refine wpAny_bind (wpAny_letGo (wpAny_pure ⟨_, rfl, wpAny_pure (hQ tk₁ t1 t2 h₇ D T (tk₁ + 1) he₇ ?_ (k₇ _ _ hTe hT₄) (k₇ _ _ eD (k₄ _ _ eD P₁)) ?_)⟩))
  · exact Z₁.ext (fun c => c = e) (fun c o c1 q => k₇ _ _ c1 (k₄ _ _ c1 q)) (fun c o c1 q => by rw [c1] at q; rw [he₁] at q; cases q; exact .inr rfl)
  · exact fun c o c0 c1 c2 c3 c4 q => k₇ _ _ c0 (k₄ _ _ c0 (k₁ _ _ c1 c2 c3 c4 q))

theorem enum_end {Q : Option Value → Shared → Prop} {e : Addr} {old : Value} {j : Nat} (hh : A.handled = none) (he : IsEnum s.heap e z j old) (Z : ZSt s.heap z TI TO I1 I2 k v1 v2 xs ys j)
    (hend : xs[j]? = none ∨ ys[j]? = none)
    (hQ : ∀ h' tk, (∀ c o, c ≠ e → c ≠ z → c ≠ TO → c ≠ I1 → c ≠ I2 → s.heap.get? c = some o → h'.get? c = some o) → Q none { s with heap := h', toks := tk }) :
    wpAny (model prog w) A (pyNext (.ref e)) Q E s := by
  have hT : s.TypeIs (.ref e) "enumerate" := ⟨_, he, rfl⟩
  unfold pyNext
  refine wpAny_bind (wpAny_attempt (wpAny_callSpecial?_slot (name := Str.ofString "__next__") hT F.slot_enumerate_next
    (wpAny_call_entry F.slot_enumerate_next hT F.entry_enumerate_next ?_ (F.args_enumerate_next_1 _))))
  show wpAny _ _ (field (.ref e) 2 >>= _) _ _ _
  refine wpAny_bind (wpAny_field he rfl (x := .ref z) rfl ?_)
  refine wpAny_bind (zip_nextOf_end hh Z hend fun h' x tk hk hx' => ?_)
  obtain ⟨o, ho, hc⟩ := hx'
  refine wpAny_bind (wpAny_isInstance (T := "StopIteration") (b := true) ⟨o, ho, hc⟩ isSubtype_stop ?_)
  exact wpAny_pure (hQ _ _ fun c o _ c1 c2 c3 c4 q => hk c o c1 c2 c3 c4 q)
end
end Mine
end

section
open PySem PySem.W PyProof.Rows PySem.Calls
set_option Elab.async false
set_option maxRecDepth 100000
namespace Mine

section
variable {prog : Program} {w : World} {A : Around} {E : Value → Shared → Prop} {s : Shared} {k : Kd} {v1 v2 : Value} {xs ys : List Int} {z TI TO I1 I2 : Addr}

theorem fresh_size (h : Heap) : h.get? h.objs.size = none := by
  cases q : h.get? h.objs.size with
  | none => rfl
  | some o => exact absurd (Heap.lt_size q) (Nat.lt_irrefl _)

theorem Row.ne {h : Heap} {k : Kd} {v : Value} {ns : List Int} {T : Addr} (R : Row h k v ns) (hT : h.get? T = none) : v ≠ .ref T := by
  rintro rfl
  cases k with
  | tup => obtain ⟨a, vs, e, ⟨o, ho, _⟩, _⟩ := R; cases e; rw [hT] at ho; cases ho
  | lst => obtain ⟨a, vs, e, ⟨o, ho, _⟩, _⟩ := R; cases e; rw [hT] at ho; cases ho
  | byt => obtain ⟨b, t, e, _⟩ := R; cases e

theorem meets_zip_row (v1 v2 : Value) :
    Meets (Builtin.«zip.__new__» ⟨[.type "zip", v1, v2], []⟩) (fun _ R s => Row s.heap k v1 xs ∧ Row s.heap k v2 ys ∧
      ∀ h' z TI TO I1 I2, ZAt h' z TI TO I1 I2 k v1 v2 xs ys .none (.bool false) 0 → Lasts s.heap h' → (s.heap.get? z = none ∧ s.heap.get? TO = none ∧ s.heap.get? I1 = none ∧ s.heap.get? I2 = none) → R (.ok (.ret (.ref z))) { s with heap := h' }) :=
  .of_wp fun prog w A R s h => by
    obtain ⟨hp, g, d, tk, os⟩ := s
    obtain ⟨R1, R2, h⟩ := h
    have hsub := sub_zip
    replace R1 : Row hp k v1 xs := R1
    replace R2 : Row hp k v2 ys := R2
    wp_walk using row_iter R1
    intro o1 f1 i1
    wp_walk using row_iter (R2.mono (Lasts.push hp o1))
    intro o2 f2 i2
    wp_walk
    refine ⟨_, rfl, ?_⟩
    have key : ∀ (H1 H2 H3 H4 : Heap), H1 = hp.push o1 → H2 = H1.push o2 → H3 = H2.push { cls := .type "tuple", data := .seq #[.ref hp.objs.size, .ref H1.objs.size] } →
        H4 = H3.push { cls := .type "tuple", data := .seq #[.none, .none] } →
        ZAt (H4.push (zipObj .none (.bool false) H2.objs.size H3.objs.size)) H4.objs.size H2.objs.size H3.objs.size hp.objs.size H1.objs.size k v1 v2 xs ys .none (.bool false) 0 ∧
        Lasts hp (H4.push (zipObj .none (.bool false) H2.objs.size H3.objs.size)) ∧ (hp.get? H4.objs.size = none ∧ hp.get? H3.objs.size = none ∧ hp.get? hp.objs.size = none ∧ hp.get? H1.objs.size = none) := by
      rintro H1 H2 H3 H4 rfl rfl rfl rfl
      have lt1 : Lasts hp (hp.push o1) := Lasts.push _ _
      have lt2 := lt1.trans (Lasts.push (hp.push o1) o2)
      have z1 : (hp.push o1).objs.size = hp.objs.size + 1 := Heap.size_push ..
      have z2 : ((hp.push o1).push o2).objs.size = hp.objs.size + 2 := by rw [Heap.size_push, z1]
      have z3 : (((hp.push o1).push o2).push { cls := .type "tuple", data := .seq #[.ref hp.objs.size, .ref (hp.push o1).objs.size] }).objs.size = hp.objs.size + 3 := by rw [Heap.size_push, z2]
      have z4 : ((((hp.push o1).push o2).push { cls := .type "tuple", data := .seq #[.ref hp.objs.size, .ref (hp.push o1).objs.size] }).push { cls := .type "tuple", data := .seq #[.none, .none] }).objs.size = hp.objs.size + 4 := by rw [Heap.size_push, z3]
      have up : ∀ {b o}, ((hp.push o1).push o2).get? b = some o → (((((hp.push o1).push o2).push { cls := .type "tuple", data := .seq #[.ref hp.objs.size, .ref (hp.push o1).objs.size] }).push { cls := .type "tuple", data := .seq #[.none, .none] }).push
          (zipObj .none (.bool false) ((hp.push o1).push o2).objs.size (((hp.push o1).push o2).push { cls := .type "tuple", data := .seq #[.ref hp.objs.size, .ref (hp.push o1).objs.size] }).objs.size)).get? b = some o := fun e =>
        Heap.get?_push_of_some _ (Heap.get?_push_of_some _ (Heap.get?_push_of_some _ e))
      have none_of : ∀ n, hp.objs.size ≤ n → hp.get? n = none := fun n hn => by
        cases q : hp.get? n with
        | none => rfl
        | some o => exact absurd (Heap.lt_size q) (Nat.not_lt.mpr hn)
      refine ⟨⟨Heap.get?_push_size _ rfl, Heap.get?_push_of_some _ (Heap.get?_push_of_some _ (Heap.get?_push_size _ rfl)), ⟨.none, .none, Heap.get?_push_of_some _ (Heap.get?_push_size _ rfl)⟩,
        i1 _ _ (up (Heap.get?_push_of_some _ (Heap.get?_push_size _ f1))), i2 _ _ (up (Heap.get?_push_size _ f2)), R1.mono fun b o e => up (lt2 b o e), R2.mono fun b o e => up (lt2 b o e), ?_, ?_, ?_⟩, fun b o e => up (lt2 b o e), ?_⟩
      · exact R1.ne (none_of _ (by rw [z3]; exact Nat.le_add_right _ 3))
      · exact R2.ne (none_of _ (by rw [z3]; exact Nat.le_add_right _ 3))
      · rw [z4, z3, z2, z1]
        generalize hp.objs.size = n
        constructor <;> (intro q; have q' := congrArg (fun (x : Nat) => x) q; simp at q')
      · exact ⟨none_of _ (by rw [z4]; exact Nat.le_add_right _ 4), none_of _ (by rw [z3]; exact Nat.le_add_right _ 3), none_of _ (Nat.le_refl _), none_of _ (by rw [z1]; exact Nat.le_add_right _ 1)⟩
    obtain ⟨q1, q2, q3⟩ := key _ _ _ _ rfl rfl rfl rfl
    exact h _ _ _ _ _ _ q1 q2 q3

theorem call_zip_row {Q : Value → Shared → Prop} (R1 : Row s.heap k v1 xs) (R2 : Row s.heap k v2 ys)
    (h : ∀ h' z TI TO I1 I2, ZAt h' z TI TO I1 I2 k v1 v2 xs ys .none (.bool false) 0 → Lasts s.heap h' → (s.heap.get? z = none ∧ s.heap.get? TO = none ∧ s.heap.get? I1 = none ∧ s.heap.get? I2 = none) → Q (.ref z) { s with heap := h' }) :
    wpAny (model prog w) A (call (.type "zip") [v1, v2]) Q E s := by
  refine callType_new F.called_zip (by decide) (F.typeCall_zip_2 _ _) (F.newCall_zip_2 _ _) (fun obj => F.args_object_init_3 obj _ _) F.entry_zip_new
    (meets_zip_row (k := k) (xs := xs) (ys := ys) v1 v2) ⟨R1, R2, ?_⟩
  intro h' z TI TO I1 I2 Z l fr
  exact ⟨⟨_, Z.zo, rfl⟩, h h' z TI TO I1 I2 Z l fr⟩

theorem meets_enum_zip (z : Addr) :
    Meets (Builtin.«enumerate.__new__» ⟨[.type "enumerate", .ref z], []⟩) (fun _ R s => (∃ TI TO f0, IsZip s.heap z TI TO f0) ∧
      R (.ok (.ret (.ref s.heap.objs.size))) { s with heap := s.heap.push { cls := .type "enumerate", data := .fields #[.none, .bool false, .ref z, rawInt 0, .none, .none] } }) :=
  .of_wp fun prog w A R s h => by
    obtain ⟨hp, g, d, tk, os⟩ := s
    obtain ⟨⟨TI, TO, f0, hz⟩, h⟩ := h
    have hsub := sub_enumerate
    have hZ : IsZip (Shared.heap ⟨hp, g, d, tk, os⟩) z TI TO f0 := hz
    wp_walk
    refine wpAny_stack_any fun st => wpAny_pure ?_
    split
    · rename_i c _ _ _ _ _
      cases (c == Value.type "enumerate")
      · wp_walk using wpAny_pyIter_zip hZ
        exact ⟨_, rfl, h⟩
      · wp_walk using wpAny_pyIter_zip hZ
        exact ⟨_, rfl, h⟩
    · wp_walk using wpAny_pyIter_zip hZ
      exact ⟨_, rfl, h⟩

theorem call_enum_zip {Q : Value → Shared → Prop} {f0 : Value} (hz : IsZip s.heap z TI TO f0)
    (h : ∀ h' e, IsEnum h' e z 0 .none → Lasts s.heap h' → s.heap.get? e = none → Q (.ref e) { s with heap := h' }) :
    wpAny (model prog w) A (call (.type "enumerate") [.ref z]) Q E s := by
  refine callType_new F.called_enumerate (by decide) (F.typeCall_enumerate_1 _) (F.newCall_enumerate_1 _) (fun obj => F.args_object_init_2 obj _) F.entry_enumerate_new
    (meets_enum_zip z) ⟨⟨TI, TO, f0, hz⟩, ?_⟩
  have he : IsEnum (s.heap.push { cls := .type "enumerate", data := .fields #[.none, .bool false, .ref z, rawInt 0, .none, .none] }) s.heap.objs.size z 0 .none := Heap.get?_push_size _ rfl
  exact ⟨⟨_, he, rfl⟩, h _ _ he (Lasts.push _ _) (fresh_size _)⟩
end
end Mine
end

section
open PySem PySem.W PyProof.Rows PySem.Calls
set_option Elab.async false
set_option maxRecDepth 100000
namespace Mine

/-- a frame over the part g of the heap that does not turn -/
structure Fs (g : Heap) (L : Addr) (h : Heap) (m : Str → Option Value) : Prop where
  ns : h.Ns L m
  keep : Lasts g h
  off : g.get? L = none

theorem Fs.set {g h h' : Heap} {L : Addr} {m m' : Str → Option Value} (F : Fs g L h m) (hn : h'.Ns L m') (hs : Heap.ExtBut L h h') : Fs g L h' m' :=
  ⟨hn, fun b o e => hs b o (by rintro rfl; rw [F.off] at e; cases e) (F.keep b o e), F.off⟩
theorem Fs.ext {g h h' : Heap} {L : Addr} {m : Str → Option Value} (F : Fs g L h m) (l : Lasts h h') : Fs g L h' m :=
  ⟨F.ns.keeps l, F.keep.trans l, F.off⟩
theorem ns_off {h : Heap} {L : Addr} {m : Str → Option Value} (n : h.Ns L m) {o : Obj} (e : h.get? L = some o) : Off o := by
  obtain ⟨o', es, ep, h1, h2, _⟩ := n
  rw [h1] at e; cases e
  exact .inl ⟨es, ep, h2⟩
theorem Row.store {h h' : Heap} {L : Addr} {m : Str → Option Value} {k : Kd} {v : Value} {ns : List Int} (R : Row h k v ns) (n : h.Ns L m) (hs : Heap.ExtBut L h h') : Row h' k v ns :=
  R.ext' (fun b => b = L) (fun b o hb e => hs b o hb e) fun b o hb e => ns_off n (hb ▸ e)

section
variable {prog : Program} {w : World} {A : Around} {E : Value → Shared → Prop} {s : Shared} {k : Kd} {v1 v2 : Value} {xs ys : List Int} {z TI TO I1 I2 e : Addr} {env : Env} {m : Str → Option Value} {g : Heap}

def up3 (xi xl xr : Str) (a b c : Value) (m : Str → Option Value) : Str → Option Value :=
  fun q => if q = xr then some c else if q = xl then some b else if q = xi then some a else m q

theorem fs_parts {h' h₁ : Heap} {L : Addr} {m' : Str → Option Value} {f0 f1 : Value} {j : Nat} (F' : Fs g L h' m') (Za : ZAt h' z TI TO I1 I2 k v1 v2 xs ys f0 f1 j) (eL : e ≠ L)
    (ge : g.get? e = none) (gz : g.get? z = none) (gTO : g.get? TO = none) (g1 : g.get? I1 = none) (g2 : g.get? I2 = none)
    (k₁ : ∀ c o, c ≠ e → c ≠ z → c ≠ TO → c ≠ I1 → c ≠ I2 → h'.get? c = some o → h₁.get? c = some o) : Fs g L h₁ m' := by
  have ne_of : ∀ {c o}, g.get? c = none → g.get? o ≠ none → o ≠ c := fun h1 h2 q => h2 (q ▸ h1)
  obtain ⟨oL, esL, epL, hL1, hL2, hL3⟩ := F'.ns
  have dne : ∀ {c o}, h'.get? c = some o → (¬ ∃ es ep, o.data = .dict es ep) → L ≠ c := fun h1 h2 q => by
    rw [← q, hL1] at h1; cases h1; exact h2 ⟨esL, epL, hL2⟩
  have L1 : L ≠ z := dne Za.zo (by rintro ⟨_, _, q⟩; cases q)
  have L2 : L ≠ TO := by obtain ⟨a, b, q⟩ := Za.to; exact dne q (by rintro ⟨_, _, q⟩; cases q)
  have itn : ∀ {I v}, RowIt h' I k v j → L ≠ I := fun {I v} R => by
    cases k with
    | tup => obtain ⟨a, _, o, ho, hc, hd⟩ := R; exact dne ho (by rintro ⟨_, _, q⟩; rw [hd] at q; cases q)
    | lst => obtain ⟨a, _, o, ho, hc, hd⟩ := R; exact dne ho (by rintro ⟨_, _, q⟩; rw [hd] at q; cases q)
    | byt => obtain ⟨b, t, _, o, ho, hc, hd⟩ := R; exact dne ho (by rintro ⟨_, _, q⟩; rw [hd] at q; cases q)
  refine ⟨⟨oL, esL, epL, k₁ _ _ eL.symm L1 L2 (itn Za.r1) (itn Za.r2) hL1, hL2, hL3⟩, fun b o hb => ?_, F'.off⟩
  have hbn : g.get? b ≠ none := by rw [hb]; simp
  exact k₁ b o (ne_of ge hbn) (ne_of gz hbn) (ne_of gTO hbn) (ne_of g1 hbn) (ne_of g2 hbn) (F'.keep b o hb)

theorem loop_enum_zip {R : Result → Shared → Prop} {xi xl xr : Str} {pi pl pr p1 p2 : Pos} {k1 k2 : Nat} {body : List Stmt} (hh : A.handled = none)
    (hi : env.kindOf xi = some .local) (hl : env.kindOf xl = some .local) (hr : env.kindOf xr = some .local) (hsk : env.scope.kind = .function)
    (J : Nat → Prop) (G : Value → Prop) (F : Fs g env.locals s.heap m) (he : IsEnum s.heap e z 0 .none) (Z : ZSt s.heap z TI TO I1 I2 k v1 v2 xs ys 0)
    (ge : g.get? e = none) (gz : g.get? z = none) (gTO : g.get? TO = none) (g1 : g.get? I1 = none) (g2 : g.get? I2 = none) (h0 : J 0)
    (turn : ∀ j x y ti t1 t2 m₁ (s₁ : Shared) E', xs[j]? = some x → ys[j]? = some y → J j → Fs g env.locals s₁.heap (up3 xi xl xr (.int j ti) (.int x t1) (.int y t2) m₁) →
      wpAny (model prog w) A (execs body env) (fun f s₂ => (∃ tk, s₂ = { s₁ with toks := tk }) ∧ ((f = .next ∧ J (j + 1)) ∨ ∃ v, f = .ret v ∧ G v)) E' s₁)
    (hret : ∀ v h' tk m', G v → Fs g env.locals h' m' → R (.ok (.ret v)) { s with heap := h', toks := tk })
    (hdone : ∀ h' tk m', J (min xs.length ys.length) → Fs g env.locals h' m' → (∀ q, q ≠ xi → q ≠ xl → q ≠ xr → m' q = m q) → R (.ok .next) { s with heap := h', toks := tk }) :
    codeAny (model prog w) A (.forLoop (.Tuple [.Name xi pi, .Tuple [.Name xl pl, .Name xr pr] k1 p1] k2 p2) (.ref e) body [] env) R s := by
  have hpk : (env.scope.kind == .class || (env.scope.kind == .module && env.locals != env.globals)) = false := by rw [hsk]; rfl
  refine codeAny_forLoop_any (fun n s' => ∃ j h' tk m' old, n = min xs.length ys.length - j ∧ j ≤ min xs.length ys.length ∧ s' = { s with heap := h', toks := tk } ∧ J j ∧ Fs g env.locals h' m' ∧
      IsEnum h' e z j old ∧ ZSt h' z TI TO I1 I2 k v1 v2 xs ys j ∧ ∀ q, q ≠ xi → q ≠ xl → q ≠ xr → m' q = m q) ?_ (min xs.length ys.length) ⟨0, s.heap, s.toks, m, .none, by simp, Nat.zero_le _, rfl, h0, F, he, Z, fun _ _ _ _ => rfl⟩
  rintro n s' ⟨j, h', tk, m', old, rfl, hj, rfl, hJ, F', he', Z', hm⟩
  have eL : e ≠ env.locals := fun q => by
    obtain ⟨o, es, ep, h1, h2, _⟩ := F'.ns
    rw [← q] at h1; cases h1.symm.trans he'; cases h2
  by_cases hlt : j < min xs.length ys.length
  · have hx : xs[j]? = some xs[j] := List.getElem?_eq_getElem (by omega)
    have hy : ys[j]? = some ys[j] := List.getElem?_eq_getElem (by omega)
    refine enum_next (s := { s with heap := h', toks := tk }) he' Z' hx hy fun ti t1 t2 h₁ D T tk₁ eo₁ Z₁ P1 P2 k₁ => ?_
    replace k₁ : ∀ c o, c ≠ e → c ≠ z → c ≠ TO → c ≠ I1 → c ≠ I2 → h'.get? c = some o → h₁.get? c = some o := k₁
    obtain ⟨f0, f1, Za, _⟩ := Z'.st
    have F₁ : Fs g env.locals h₁ m' := fs_parts F' Za eL ge gz gTO g1 g2 k₁
    -- the outer tuple goes
    have hgo : wpAny (model prog w) A (letOwnedTupleGo (.Tuple [.Name xi pi, .Tuple [.Name xl pl, .Name xr pr] k1 p1] k2 p2) (.ref e) (.ref T)) (fun _ s₁ => ∃ h₂, s₁ = { s with heap := h₂, toks := tk₁ } ∧ IsEnum h₂ e z ((j : Int) + 1) (.ref D) ∧ Heap.SameBut e h₁ h₂)
        (notedBy (model prog w) A env fun e s' => R (.error e) s') { s with heap := h₁, toks := tk₁ } :=
      wpAny_letOwnedTupleGo_enum eo₁ fun h₂ a b => ⟨h₂, rfl, a, b⟩
    refine wpAny_mono hgo (fun _ s₂ hs₂ => ?_) fun _ _ q => q
    obtain ⟨h₂, rfl, he₂, hb₂⟩ := hs₂
    have clsP : ∀ {T a b}, IsPair h₁ T a b → T ≠ e := fun P q => by rw [q] at P; have := Eq.trans (Eq.symm P) eo₁; simp at this
    have P1₂ : IsPair h₂ T (.int j ti) (.ref D) := hb₂.extBut _ _ (clsP P1) P1
    have P2₂ : IsPair h₂ D (.int xs[j] t1) (.int ys[j] t2) := hb₂.extBut _ _ (clsP P2) P2
    have Z₂ : ZSt h₂ z TI TO I1 I2 k v1 v2 xs ys (j + 1) := Z₁.ext (fun c => c = e) (fun c o c1 q => hb₂.extBut _ _ c1 q) (fun c o c1 q => by rw [c1, eo₁] at q; cases q; exact .inr rfl)
    have F₂ : Fs g env.locals h₂ m' := ⟨F₁.ns.at' fun o q => hb₂.extBut _ _ eL.symm q, fun b o hb => hb₂.extBut _ _ (by rintro rfl; rw [ge] at hb; cases hb) (F₁.keep b o hb), F₁.off⟩
    refine wpAny_assign_Tuple hh ⟨_, P1₂, rfl, _, rfl⟩ rfl rfl fun h₃ hx₃ => ?_
    replace hx₃ : Heap.ExtBut h₂.objs.size h₂ h₃ := hx₃
    have l₃ : Lasts h₂ h₃ := fun b o q => hx₃ b o (Nat.ne_of_lt (Heap.lt_size q)) q
    show wpAny _ _ (assignInOrder [assign (.Name xi pi) env, assign (.Tuple [.Name xl pl, .Name xr pr] k1 p1) env] [.int j ti, .ref D]) _ _ _
    refine assignInOrder_cons (wpAny_assign_Name (wpAny_storeName_local hi (F₂.ns.keeps l₃) (fun h₄ n₄ s₄ => ?_) hpk))
    refine assignInOrder_cons ?_
    have F₃ : Fs g env.locals h₃ m' := F₂.ext l₃
    have P2₄ : IsPair h₄ D (.int xs[j] t1) (.int ys[j] t2) := s₄.extBut _ _ (fun q => by
      rw [q] at P2₂
      obtain ⟨o, es, ep, a, b, _⟩ := F₂.ns
      cases a.symm.trans P2₂; cases b) (l₃ _ _ P2₂)
    have dneL : ∀ {h : Heap} {mm : Str → Option Value} {c o}, h.Ns env.locals mm → h.get? c = some o → (¬ ∃ es ep, o.data = .dict es ep) → c ≠ env.locals := fun {h mm c o} n h1 h2 q => by
      obtain ⟨oo, es, ep, a, b, _⟩ := n
      rw [q, a] at h1; cases h1; exact h2 ⟨es, ep, b⟩
    have he₄ : IsEnum h₄ e z ((j : Int) + 1) (.ref D) := s₄.extBut _ _ eL (l₃ _ _ he₂)
    have Z₄ : ZSt h₄ z TI TO I1 I2 k v1 v2 xs ys (j + 1) :=
      (Z₂.ext (fun _ => False) (fun c o _ q => l₃ c o q) (fun _ _ q => q.elim)).ext (fun c => c = env.locals) (fun c o c1 q => s₄.extBut _ _ c1 q)
        (fun c o c1 q => ns_off F₃.ns (c1 ▸ q))
    · refine wpAny_assign_Tuple hh ⟨_, P2₄, rfl, _, rfl⟩ rfl rfl fun h₅ hx₅ => ?_
      replace hx₅ : Heap.ExtBut h₄.objs.size h₄ h₅ := hx₅
      have l₅ : Lasts h₄ h₅ := fun b o q => hx₅ b o (Nat.ne_of_lt (Heap.lt_size q)) q
      show wpAny _ _ (assignInOrder [assign (.Name xl pl) env, assign (.Name xr pr) env] [.int xs[j] t1, .int ys[j] t2]) _ _ _
      have F₄ : Fs g env.locals h₄ (fun q => if q = xi then some (.int j ti) else m' q) := F₃.set n₄ s₄.extBut
      have F₅ := F₄.ext l₅
      refine assignInOrder_cons (wpAny_assign_Name (wpAny_storeName_local hl F₅.ns (fun h₆ n₆ s₆ => ?_) hpk))
      have F₆ := F₅.set n₆ s₆.extBut
      refine assignInOrder_cons (wpAny_assign_Name (wpAny_storeName_local hr F₆.ns (fun h₇ n₇ s₇ => ?_) hpk))
      have F₇ := F₆.set n₇ s₇.extBut
      refine assignInOrder_nil (assignInOrder_nil ?_)
      have he₇ : IsEnum h₇ e z ((j : Int) + 1) (.ref D) := s₇.extBut _ _ eL (s₆.extBut _ _ eL (l₅ _ _ he₄))
      have Zs : ∀ {h h' : Heap} {mm : Str → Option Value}, h.Ns env.locals mm → Heap.SameBut env.locals h h' → ZSt h z TI TO I1 I2 k v1 v2 xs ys (j + 1) → ZSt h' z TI TO I1 I2 k v1 v2 xs ys (j + 1) := fun {h h' mm} n sb Z =>
        Z.ext (fun c => c = env.locals) (fun c o c1 q => sb.extBut _ _ c1 q) (fun c o c1 q => ns_off n (c1 ▸ q))
      have Z₇ : ZSt h₇ z TI TO I1 I2 k v1 v2 xs ys (j + 1) := Zs F₆.ns s₇ (Zs F₅.ns s₆ (Z₄.ext (fun _ => False) (fun c o _ q => l₅ c o q) (fun _ _ q => q.elim)))
      refine wpAny_mono (turn j _ _ ti t1 t2 m' _ _ hx hy hJ (show Fs g env.locals (Shared.heap _) (up3 xi xl xr (.int j ti) (.int xs[j] t1) (.int ys[j] t2) m') from F₇)) (fun f s₈ r => ?_) fun _ _ q => q
      obtain ⟨⟨tk₈, rfl⟩, r⟩ := r
      rcases r with ⟨rfl, hJ'⟩ | ⟨v, rfl, hG⟩
      · exact ⟨min xs.length ys.length - (j + 1), by omega, j + 1, h₇, tk₈, _, _, rfl, by omega, rfl, hJ', F₇, he₇, Z₇, fun q a b c => by show (if q = xr then _ else if q = xl then _ else if q = xi then _ else m' q) = m q; rw [if_neg c, if_neg b, if_neg a]; exact hm q a b c⟩
      · exact hret v h₇ tk₈ _ hG F₇
  · have hj' : j = min xs.length ys.length := by omega
    refine enum_end (s := { s with heap := h', toks := tk }) hh he' Z' ?_ fun h₁ tk₁ k₁ => ?_
    · rcases Nat.le_total xs.length ys.length with q | q
      · exact .inl (List.getElem?_eq_none (by omega))
      · exact .inr (List.getElem?_eq_none (by omega))
    replace k₁ : ∀ c o, c ≠ e → c ≠ z → c ≠ TO → c ≠ I1 → c ≠ I2 → h'.get? c = some o → h₁.get? c = some o := k₁
    obtain ⟨f0, f1, Za, _⟩ := Z'.st
    refine wpAny_execs_nil (hdone h₁ tk₁ m' (hj' ▸ hJ) ?_ ?_)
    · exact fs_parts F' Za eL ge gz gTO g1 g2 k₁
    · exact hm
end
end Mine
end

section
open PySem PySem.W PyProof.Rows PySem.Calls
set_option Elab.async false
set_option maxRecDepth 100000
namespace Mine

theorem if_so {α : Type} {M : Model} {A : Around} {E : Value → Shared → Prop} {s : Shared} {c : Bool} {a b : Sem α} {Q : α → Shared → Prop} (hc : c = true) (h : wpAny M A a Q E s) : wpAny M A (if c = true then a else b) Q E s := by
  rw [if_pos hc]; exact h
theorem if_no {α : Type} {M : Model} {A : Around} {E : Value → Shared → Prop} {s : Shared} {c : Bool} {a b : Sem α} {Q : α → Shared → Prop} (hc : c = false) (h : wpAny M A b Q E s) : wpAny M A (if c = true then a else b) Q E s := by
  rw [if_neg (by rw [hc]; exact Bool.false_ne_true)]; exact h

section
variable {prog : Program} {w : World} {A : Around} {E : Value → Shared → Prop} {s : Shared} {k : Kd} {v : Value} {ns : List Int}

theorem bytes_hint {b : Array UInt8} {t : Tok} {Q : Bool → Shared → Prop} (h : Q false s) : wpAny (model prog w) A (Builtin.List.listLengthHint (.bytes b t)) Q E s := by
  unfold Builtin.List.listLengthHint
  refine wpAny_bind (wpAny_specialOf (typeIs_bytes s b t) FB.slot_bytes_len.lookup ?_)
  have hsp : splitId "bytes.__len__" = some ("bytes", "__len__") := by decide +kernel
  simp only [hsp]
  refine wpAny_bind (wpAny_isInstance (T := "bytes") (b := true) (typeIs_bytes s b t) (by rw [isSubtype_type]; kernel_rfl) ?_)
  refine if_no (by rfl) (if_so (by decide +kernel) ?_)
  exact wpAny_bind (wpAny_typeOf (typeIs_bytes s b t) (wpAny_pure h))

theorem bytes_ints_at {b : Array UInt8} {n : Nat} {acc : Array Value} (h : ItemsOf (fun i v => ∃ c u, b[i]? = some c ∧ v = .int (c.toNat : Int) u) acc n) (hn : n = b.size) : IntsAre acc.toList (KBw.bInts b) := by
  have key : ∀ (l : List Value) (bs : List UInt8), l.length = bs.length → (∀ (j : Nat) (v : Value), l[j]? = some v → ∃ c u, bs[j]? = some c ∧ v = .int (c.toNat : Int) u) → IntsAre l (bs.map fun c => (c.toNat : Int)) := by
    intro l
    induction l with
    | nil => intro bs hl _; cases bs with
      | nil => exact .nil
      | cons => simp at hl
    | cons v l ih =>
      intro bs hl hj
      cases bs with
      | nil => simp at hl
      | cons c bs =>
        obtain ⟨c', u, e1, e2⟩ := hj 0 v rfl
        simp at e1
        subst e1 e2
        exact .cons _ u (ih bs (by simpa using hl) fun j v' hv => by simpa using hj (j + 1) v' (by simpa using hv))
  refine key acc.toList b.toList (by rw [Array.length_toList, Array.length_toList, h.1, hn]) fun j v' hv => ?_
  obtain ⟨c, u, e1, e2⟩ := h.2 j v' (by simpa using hv)
  exact ⟨c, u, by simpa using e1, e2⟩

theorem list_init_bytes {R : Result → Shared → Prop} {b : Array UInt8} {t : Tok} {S : Addr} (hh : A.handled = none) (hS : s.heap.get? S = some { cls := .type "list", data := .seq #[] })
    (hR : ∀ h' tk acc c', Heap.ExtBut S s.heap h' → h'.get? S = some { cls := .type "list", dict := none, data := .seq acc c', slots := #[] } → IntsAre acc.toList (KBw.bInts b) → R (.ok (.ret .none)) { s with heap := h', toks := tk }) (hn : b.size ≤ sizeLine) :
    wpAny (model prog w) A.in1 (Builtin.«list.__init__» ⟨[.ref S, .bytes b t], []⟩)
      (fun fin s' => match fin with | .done f => R (.ok f) s' | .again c' => c'.quiet = true ∧ codeAny (model prog w) A c' R s') (fun e s' => R (.error e) s') s := by
  show wpAny _ A.in1 (do let old ← Builtin.List.listItems (.ref S); Builtin.List.listUpdate (.ref S) (fun _ => #[]); letGo old.toList.reverse; Builtin.List.listExtendWith (.ref S) (.bytes b t) .none) _ _ s
  refine wpAny_bind ?_
  unfold Builtin.List.listItems
  refine wpAny_bind (wpAny_seqItems hS rfl (wpAny_pure ?_))
  show wpAny _ A.in1 (updateSeq S (fun _ => #[]) >>= fun _ => letGo (#[] : Array Value).toList.reverse >>= fun _ => Builtin.List.listExtendWith (.ref S) (.bytes b t) .none) _ _ s
  refine wpAny_bind (wpAny_updateSeq hS rfl ?_)
  have hS₂ := Heap.get?_update_self (Obj.mapSeq (fun _ => (#[] : Array Value))) hS rfl
  have oth : ∀ b o, b ≠ S → s.heap.get? b = some o → (s.heap.update S (Obj.mapSeq (fun _ => (#[] : Array Value)))).get? b = some o :=
    fun b o hb e => (Heap.get?_update_other _ _ (Ne.symm hb)).trans e
  have szS : S < s.heap.objs.size := Heap.lt_size hS
  refine wpAny_bind (wpAny_letGo ?_)
  unfold Builtin.List.listExtendWith
  refine wpAny_bind (wpAny_typeOf (typeIs_bytes _ b t) ?_)
  refine if_no (by show ((false || Value.type "bytes" == Value.type "list") || Value.type "bytes" == Value.type "tuple") = false; decide) ?_
  refine wpAny_bind (KBw.pyIter_bytes ?_)
  refine wpAny_bind (wpAny_holding (bytes_hint ?_))
  refine if_no (by decide +kernel) ?_
  have hsz : (s.heap.update S (Obj.mapSeq (fun _ => (#[] : Array Value)))).objs.size = s.heap.objs.size := (Heap.SameBut.update ..).1
  refine wpAny_pure ⟨plainId_quiet F.plain_extend_loop _, ?_⟩
  have W := (KBw.walks (prog := prog) (w := w) (A := A.in1) hh (s.heap.update S (Obj.mapSeq (fun _ => (#[] : Array Value)))).objs.size b t).toS
  refine codeAny_extend_loopS W hn S (by
    intro hm
    have := List.mem_singleton.mp hm
    rw [hsz] at this
    exact absurd szS (this ▸ Nat.lt_irrefl _)) _ b.size 0 _ _ _ rfl (Nat.zero_le _) ⟨_, Heap.get?_push_size _ rfl, rfl, rfl⟩ (Heap.get?_push_of_some _ hS₂) (ItemsOf.nil _) fun s' acc' c' hm hS' hacc => ?_
  obtain ⟨hh', gg', dd', tk', os'⟩ := s'
  obtain ⟨m1, m2, m3, m4, m5⟩ := hm
  dsimp only at m2 m3 m4
  subst m2 m3 m4
  refine hR hh' tk' acc' c' (fun c o hc e => ?_) hS' (bytes_ints_at hacc rfl)
  refine m1 c o (fun hm => ?_) (Heap.get?_push_of_some _ (oth c o hc e))
  rcases List.mem_cons.mp hm with q | hm
  · exact hc q
  · rw [List.mem_singleton.mp hm, hsz] at e
    cases (fresh_size s.heap).symm.trans e

/-- list(v) of a row: a new list of its ints -/
theorem row_listF {Q : Value → Shared → Prop} (R : Row s.heap k v ns) (hh : A.handled = none) (hz : ns.length ≤ 1000) (h : ∀ h' tk, Lasts s.heap h' → Row h' .lst (.ref s.heap.objs.size) ns → Q (.ref s.heap.objs.size) { s with heap := h', toks := tk }) :
    wpAny (model prog w) A (call (.type "list") [v]) Q E s := by
  have hsl : 1000 ≤ sizeLine := by rw [sizeLine_eq]; omega
  cases k with
  | tup =>
    obtain ⟨a, vs, rfl, ⟨o, ho, hc, n, hd⟩, hi⟩ := R
    exact call_list_seq a (.inr rfl) ho hc hd (fun h' c' l e => h h' s.toks l ⟨_, vs, rfl, ⟨_, e, rfl, _, rfl⟩, hi⟩) (by rw [List.size_toArray, hi.length]; omega)
  | lst =>
    obtain ⟨a, vs, rfl, ⟨o, ho, hc, n, hd⟩, hi⟩ := R
    exact call_list_seq a (.inl rfl) ho hc hd (fun h' c' l e => h h' s.toks l ⟨_, vs, rfl, ⟨_, e, rfl, _, rfl⟩, hi⟩) (by rw [List.size_toArray, hi.length]; omega)
  | byt =>
    obtain ⟨b, t, rfl, hi⟩ := R
    have hbz : b.size ≤ sizeLine := by rw [← KBw.ints_length, hi]; omega
    refine callType_codes (Q₁ := fun obj s₁ => obj = .ref s.heap.objs.size ∧ s₁ = { s with heap := s.heap.push { cls := .type "list", data := .seq #[] } }) F.called_list (F.typeCall_list_1 _) F.entry_list_init
      (code_list_new _ ⟨rfl, rfl⟩) fun obj s₁ h₁ => ?_
    obtain ⟨rfl, rfl⟩ := h₁
    have hS : (s.heap.push { cls := .type "list", data := .seq #[] }).get? s.heap.objs.size = some { cls := .type "list", data := .seq #[] } := Heap.get?_push_size _ rfl
    refine ⟨⟨_, hS, rfl⟩, F.args_list_init_2 _ _, ?_⟩
    refine list_init_bytes (A := A.in1) hh hS (fun h' tk acc c' l e hI => ?_) hbz
    refine ⟨rfl, h h' tk (fun c o q => l _ _ (fun x => ?_) (Heap.get?_push_of_some _ q)) ⟨_, acc.toList, rfl, ⟨_, e, rfl, c', by simp⟩, hi ▸ hI⟩⟩
    rw [x] at q
    cases (fresh_size s.heap).symm.trans q
theorem row_list {Q : Value → Shared → Prop} (R : Row s.heap k v ns) (hh : A.handled = none) (hz : ns.length ≤ 1000) (h : ∀ r h' tk, Lasts s.heap h' → Row h' .lst r ns → Q r { s with heap := h', toks := tk }) :
    wpAny (model prog w) A (call (.type "list") [v]) Q E s := row_listF R hh hz fun h' tk l r => h _ h' tk l r
end
end Mine
end

section
open PySem PySem.W PyProof.Rows PySem.Calls
set_option Elab.async false
set_option maxRecDepth 100000
namespace Mine

/-- v[lo:hi] of a list, the ends not negative -/
def cut {α : Type} (lo hi : Option Nat) (ns : List α) : List α := (match hi with | none => ns | some h => ns.take h).drop (lo.getD 0)
def toI : Option Nat → Option Int
  | none => none
  | some n => some (n : Int)
/-- a slice's end as a value -/
inductive End : Value → Option Nat → Prop
  | none : End .none none
  | int (n : Nat) (t : Tok) : End (.int (n : Int) t) (some n)
theorem End.part {v : Value} {o : Option Nat} (h : End v o) : IsPart v (toI o) := by
  cases h with
  | none => exact .none
  | int n t => exact .int _ t
theorem adjust (lo hi : Option Nat) (n : Nat) : Builtin.Slice.sliceAdjust (toI lo) (toI hi) 1 n = (((min (lo.getD 0) n : Nat) : Int), ((min (hi.getD n) n : Nat) : Int)) := by
  cases lo <;> cases hi <;> simp [Builtin.Slice.sliceAdjust, toI] <;> omega
theorem cut_pick {α : Type} (lo hi : Option Nat) (ns : List α) : cut lo hi ns = (ns.drop (min (lo.getD 0) ns.length)).take (min (hi.getD ns.length) ns.length - min (lo.getD 0) ns.length) := by
  have key : ∀ (a b : Nat), (ns.take b).drop a = (ns.drop (min a ns.length)).take (min b ns.length - min a ns.length) := by
    intro a b
    apply List.ext_getElem?
    intro i
    simp only [List.getElem?_drop, List.getElem?_take]
    by_cases h : a ≤ ns.length
    · have e : min a ns.length = a := by omega
      rw [e]
      by_cases h1 : a + i < b
      · rw [if_pos h1]
        by_cases h2 : i < min b ns.length - a
        · rw [if_pos h2]
        · rw [if_neg h2, List.getElem?_eq_none (by omega)]
      · rw [if_neg h1, if_neg (by omega)]
    · have e : min a ns.length = ns.length := by omega
      rw [e, if_neg (by omega : ¬ i < min b ns.length - ns.length)]
      split
      · exact List.getElem?_eq_none (by omega)
      · rfl
  unfold cut
  cases hi with
  | none => simpa using key (lo.getD 0) ns.length
  | some b => simpa using key (lo.getD 0) b

section
variable {prog : Program} {w : World} {A : Around} {E : Value → Shared → Prop} {s : Shared} {k : Kd} {v : Value} {ns : List Int}

theorem part_index {u : Value} {o : Option Nat} {Q : Option Int → Shared → Prop} (hv : End u o) (h : Q (toI o) s) : wpAny (model prog w) A (Builtin.Slice.slicePartIndex u) Q E s := by
  cases hv with
  | none => exact wpAny_pure h
  | int i t =>
    unfold Builtin.Slice.slicePartIndex
    refine if_no (by rfl) ?_
    refine wpAny_bind (wpAny_specialOf (T := "int") (typeIs_int s i t) int_index ?_)
    refine if_no (by rfl) ?_
    exact wpAny_bind (wpAny_of_eq (a := (i : Int)) rfl (wpAny_pure h))

theorem meets_tuple_slice (a sl : Addr) (vs : List Value) {l u : Value} {lo hi : Option Nat} (hl : End l lo) (hu : End u hi) :
    Meets (Builtin.«tuple.__getitem__» ⟨[.ref a, .ref sl], []⟩) (fun _ R s => s.heap.IsTuple a vs.toArray ∧ s.heap.IsSliceOf sl l u .none ∧ vs.length ≤ 1000 ∧
      ∀ D h', Lasts s.heap h' → h'.IsTuple D (cut lo hi vs).toArray → R (.ok (.ret (.ref D))) { s with heap := h' }) := by
  refine .of_wp fun prog w A R s hS => ?_
  obtain ⟨⟨ot, hot, hct, nt, hdt⟩, ⟨os, hos, hcs, hds⟩, hz, h⟩ := hS
  have hT : s.TypeIs (.ref sl) "slice" := ⟨os, hos, hcs⟩
  show wpAny _ _ (Builtin.Tuple.tupleItemsOf (.ref a) >>= _) _ _ s
  refine wpAny_bind ?_
  unfold Builtin.Tuple.tupleItemsOf
  refine wpAny_bind (wpAny_seqItems hot hdt (wpAny_pure ?_))
  refine wpAny_bind (wpAny_typeOf hT ?_)
  refine if_so (by decide) ?_
  refine wpAny_bind ?_
  unfold Builtin.Slice.sliceApplied Builtin.Slice.sliceFields
  refine wpAny_bind (wpAny_bind (wpAny_field hos hds (x := l) rfl ?_))
  refine wpAny_bind (wpAny_field hos hds (x := u) rfl ?_)
  refine wpAny_bind (wpAny_field hos hds (x := .none) rfl (wpAny_pure ?_))
  refine wpAny_bind (part_index .none ?_)
  refine if_no (by decide) ?_
  refine wpAny_bind (part_index hl ?_)
  refine wpAny_bind (part_index hu ?_)
  refine wpAny_bind (wpAny_pure ?_)
  have e : Builtin.Slice.sliceAdjust (toI lo) (toI hi) ((toI none).getD 1) ((vs.toArray.size : Nat) : Int) = _ := adjust lo hi vs.toArray.size
  rw [e]
  refine wpAny_pure ?_
  have hs : vs.toArray.size = vs.length := by simp
  rw [hs]
  generalize ha : min (lo.getD 0) vs.length = x
  generalize hb : min (hi.getD vs.length) vs.length = y
  have ep : Builtin.Slice.slicePlaces (x : Int) (y : Int) ((toI none).getD 1) = y - x := by
    show Builtin.Slice.slicePlaces (x : Int) (y : Int) 1 = y - x
    unfold Builtin.Slice.slicePlaces
    simp
    split <;> omega
  dsimp only
  rw [ep]
  have epick : (List.filterMap (fun (k : Nat) => vs.toArray[((x : Int) + (k : Int) * (toI none).getD 1).toNat]?) (List.range (y - x))) = cut lo hi vs := by
    rw [cut_pick, ha, hb, ← pick_run vs.toArray x (y - x), List.filterMap_map]
    congr 1
    funext q
    show vs.toArray[((x : Int) + (q : Int) * 1).toNat]? = vs.toArray[x + q]?
    congr 1
    omega
  rw [epick]
  have whole : wpAny (model prog w) A.in1 (do
        let r ← Builtin.Tuple.tupleExact (cut lo hi vs).toArray
        ret r) (fun fin s' => ∃ v, fin = PySem.Fin.done (PySem.Flow.ret v) ∧ R (Except.ok (PySem.Flow.ret v)) s') (fun e s' => R (Except.error e) s') s := by
    have hc : (cut lo hi vs).length ≤ vs.length := by rw [cut_pick, List.length_take, List.length_drop]; omega
    unfold Builtin.Tuple.tupleExact
    refine wpAny_bind (wpAny_newObj_type (wpAny_pure ⟨_, rfl, h _ _ (Lasts.push _ _) ⟨_, Heap.get?_push_size _ rfl, rfl, _, rfl⟩⟩) ?_)
    show (cut lo hi vs).toArray.size ≤ _
    rw [List.size_toArray, sizeLine_eq]; omega
  by_cases hw : ((x : Int) == 0 && (toI none).getD 1 == 1 && y - x == vs.length) = true
  · refine if_so hw ?_
    have hx : x = 0 ∧ y = vs.length := by
      simp [toI] at hw
      omega
    have hcut : cut lo hi vs = vs := by
      rw [cut_pick, ha, hb, hx.1, hx.2]; simp
    rw [hcut] at h
    refine wpAny_bind ?_
    unfold Builtin.Tuple.tupleIsExact
    refine wpAny_bind (wpAny_typeOf (T := "tuple") ⟨ot, hot, hct⟩ (wpAny_pure ?_))
    refine if_so (by decide) ?_
    exact wpAny_bind (wpAny_rule (wpAny_pure ⟨_, rfl, h a s.heap (Lasts.refl _) ⟨ot, hot, hct, nt, hdt⟩⟩))
  · exact if_no (by simpa using hw) whole

theorem cut_ints {vs : List Value} {ns : List Int} {lo hi : Option Nat} (h : IntsAre vs ns) : IntsAre (cut lo hi vs) (cut lo hi ns) := by
  unfold cut
  cases hi with
  | none => exact h.drop _
  | some b => exact (h.take b).drop _

theorem pick_cut {α : Type} (lo hi : Option Nat) (l : List α) : (l.drop ((toI lo).elim 0 (clipAt l.length))).take ((toI hi).elim l.length (clipAt l.length) - (toI lo).elim 0 (clipAt l.length)) = cut lo hi l := by
  rw [cut_pick]
  cases lo <;> cases hi <;> simp [toI, clipAt_nat]

/-- v[lo:hi] of a row -/
theorem row_slice {Q : Value → Shared → Prop} {x : Str} {p : Pos} {slice : PySem.Expr} {l u : Value} {lo hi : Option Nat} (R : Row s.heap k v ns) (hz : ns.length ≤ 1000) (hl : End l lo) (hu : End u hi)
    (h : ∀ r h' tk, Lasts s.heap h' → Row h' k r (cut lo hi ns) → Q r { s with heap := h', toks := tk })
    (hs : ∀ o i, subscripted slice false o i = operate [i, o] (getItem o i)) :
    wpAny (model prog w) A (subscriptTail (.Name x p) slice v (.ref s.heap.objs.size)) Q E { s with heap := s.heap.push { cls := .type "slice", data := .fields #[l, u, .none] } } := by
  have hsl : 1000 ≤ sizeLine := by rw [sizeLine_eq]; omega
  have lp : Lasts s.heap (s.heap.push { cls := .type "slice", data := .fields #[l, u, .none] }) := Lasts.push _ _
  cases k with
  | lst =>
    obtain ⟨a, vs, rfl, ht, hi'⟩ := R
    have hl' := ht.push { cls := .type "slice", data := .fields #[l, u, .none] }
    refine tail_of_ItemOn ⟨"list", _, list_getitem_lookup, Heap.IsList.typeIs (s := { s with heap := s.heap.push { cls := .type "slice", data := .fields #[l, u, .none] } }) hl',
      wpAny_getItem_list_slice hl' (Heap.IsSliceOf.new ..) hl.part hu.part .none (by simp) ?_ (by rw [List.size_toArray, hi'.length]; omega)⟩ (hs _ _) (fun _ => rfl)
    refine h _ _ _ (lp.trans (Lasts.push _ _)) ⟨_, cut lo hi vs, rfl, ⟨_, Heap.get?_push_size _ rfl, rfl, 0, ?_⟩, cut_ints hi'⟩
    show Data.seq (slicePick vs.toArray (toI lo) (toI hi) none) 0 = _
    rw [slicePick_plain]
    have := pick_cut lo hi vs
    simp only [List.size_toArray] at this ⊢
    rw [this]
  | tup =>
    obtain ⟨a, vs, rfl, ⟨o, ho, hc, n, hd⟩, hi'⟩ := R
    have hT : Shared.TypeIs { s with heap := s.heap.push { cls := .type "slice", data := .fields #[l, u, .none] } } (.ref a) "tuple" := ⟨o, lp _ _ ho, hc⟩
    refine tail_of_ItemOn ⟨"tuple", _, slot_tuple_getitem.lookup, hT, getItem_meets hT (by decide) slot_tuple_getitem entry_tuple_getitem (args_tuple_getitem _ _) (meets_tuple_slice a _ vs hl hu)
      ⟨⟨o, lp _ _ ho, hc, n, hd⟩, Heap.IsSliceOf.new .., by rw [hi'.length]; omega, fun D h' l' t' => ?_⟩⟩ (hs _ _) (fun _ => rfl)
    exact h _ h' _ (lp.trans l') ⟨D, _, rfl, t', cut_ints hi'⟩
  | byt =>
    obtain ⟨b, t, rfl, hb⟩ := R
    refine tail_of_ItemOn ⟨"bytes", _, FB.slot_bytes_getitem.lookup, typeIs_bytes _ _ _, getItem_meets (typeIs_bytes _ _ _) (by decide) FB.slot_bytes_getitem FB.entry_bytes_getitem (FB.args_bytes_getitem_2 _ _) (KBc.meets_slice2 b t _ hl.part hu.part)
      ⟨Heap.IsSliceOf.new _ _ _ _, Nat.le_trans (KBc.size_picked_le b _ _) (by rw [← KBw.ints_length b, hb]; omega), fun t' k' => ?_⟩⟩ (hs _ _) (fun _ => rfl)
    refine h _ _ k' lp ⟨_, t', rfl, ?_⟩
    have := KBc.ints_picked hb (toI lo) (toI hi)
    rw [pick_cut] at this
    exact this

/-- v[i] of a row, i a place of it -/
theorem row_item {Q : Value → Shared → Prop} {x : Str} {p : Pos} {slice : PySem.Expr} {i : Nat} {u : Tok} {n : Int} (R : Row s.heap k v ns) (hz : ns.length ≤ 1000) (e : ns[i]? = some n)
    (h : ∀ t tk, Q (.int n t) { s with toks := tk }) (hs : ∀ o i, subscripted slice false o i = operate [o, i] (getItem o i)) :
    wpAny (model prog w) A (subscriptTail (.Name x p) slice v (.int (i : Int) u)) Q E s := by
  have hi0 : i < ns.length := (List.getElem?_eq_some_iff.mp e).1
  cases k with
  | lst =>
    obtain ⟨a, vs, rfl, ht, hi'⟩ := R
    obtain ⟨t, et⟩ := ints_getE hi' e
    exact tail_of_ItemOn ⟨"list", _, list_getitem_lookup, ht.typeIs, wpAny_getItem_list ht (by omega) (by omega) (x := .int n t) (by simpa using et) (h t s.toks)⟩ (hs _ _) (fun _ => rfl)
  | tup =>
    obtain ⟨a, vs, rfl, ht, hi'⟩ := R
    obtain ⟨t, et⟩ := ints_getE hi' e
    refine tail_of_ItemOn ⟨"tuple", _, slot_tuple_getitem.lookup, ht.typeIs, getItem_tuple ht (by omega) (by omega) (j := i) (x := .int n t) ?_ (by simpa using et) (h t s.toks)⟩ (hs _ _) (fun _ => rfl)
    have hl : vs.toArray.size = ns.length := by rw [List.size_toArray, hi'.length]
    rw [hl]
    simp [seqIndex?, hi0]
    omega
  | byt =>
    obtain ⟨b, t, rfl, hb⟩ := R
    refine KBw.item_K hb (by omega) (by omega) (by omega) (fun t' k' _ _ => ?_) (hs _ _) (fun _ => rfl)
    have : ns.getD ((i : Int)).toNat 0 = n := by rw [Int.toNat_natCast, List.getD_eq_getElem?_getD, e]; rfl
    rw [this]
    exact h t' k'
end
end Mine
end

section
open PySem PySem.W PyProof.Rows PySem.Calls PySem.Spec
set_option Elab.async false
set_option maxRecDepth 100000
namespace Mine

def pdOf : Kd → List Int → PyData
  | .tup, ns => .tuple (ns.map .int)
  | _, ns => .list (ns.map .int)
theorem pdOf_lay (k : Kd) (ns : List Int) : (pdOf k ns).canLay0 = true ∧ (pdOf k ns).depth ≤ 1 := by
  cases k <;> simp [pdOf, PyData.canLay0, PyData.depth, ke_canLayAll0, ke_depthAll]
theorem pdOf_eqv (k : Kd) (xs ys : List Int) : PyData.eqv (pdOf k xs) (pdOf k ys) = decide (xs = ys) := by
  cases k <;> simp [pdOf, PyData.eqv, ked_eqvAll]

section
variable {prog : Program} {w : World} {A : Around} {E : Value → Shared → Prop} {s : Shared} {k : Kd} {v v1 v2 : Value} {ns xs ys : List Int}

theorem row_reads {h : Heap} (R : Row h k v ns) (hk : k ≠ .byt) : ∃ as, Reads h v (pdOf k ns) as := by
  cases k with
  | tup =>
    obtain ⟨a, vs, rfl, ⟨o, ho, hc, n, hd⟩, hi⟩ := R
    exact ⟨_, reads_tuple_at ho hc hd (by simpa using hi.reads h)⟩
  | lst =>
    obtain ⟨a, vs, rfl, ⟨o, ho, hc, n, hd⟩, hi⟩ := R
    exact ⟨_, reads_list_at ho hc hd (by simpa using hi.reads h)⟩
  | byt => exact absurd rfl hk

theorem bytes_inj {b c : Array UInt8} : (KBw.bInts b = KBw.bInts c) ↔ b.toList = c.toList := by
  constructor
  · intro h
    unfold KBw.bInts at h
    have inj : ∀ (x y : UInt8), ((x.toNat : Nat) : Int) = ((y.toNat : Nat) : Int) → x = y := fun x y e => UInt8.toNat_inj.mp (by omega)
    exact List.map_inj_right (f := fun c : UInt8 => (c.toNat : Int)) inj |>.mp h
  · intro h; unfold KBw.bInts; rw [h]

theorem row_eqAt (R1 : Row s.heap k v1 xs) (R2 : Row s.heap k v2 ys) (hu : A.units + 64 < cLine) : SeqAt.EqAt A s v1 v2 (decide (xs = ys)) := by
  by_cases hk : k = .byt
  · subst hk
    obtain ⟨b, t, rfl, hb⟩ := R1
    obtain ⟨c, u, rfl, hc⟩ := R2
    intro prog w E Q hq
    refine eqBool_bytes ?_
    have : decide (b.toList = c.toList) = decide (xs = ys) := by
      subst hb hc
      exact decide_eq_decide.mpr bytes_inj.symm
    rw [this]; exact hq
  · obtain ⟨as, ra⟩ := row_reads R1 hk
    obtain ⟨bs, rb⟩ := row_reads R2 hk
    have h := SeqAt.eqAt_reads _ _ A s v1 v2 as bs ra rb (pdOf_lay k xs).1 (pdOf_lay k ys).1 (by have := (pdOf_lay k xs).2; omega)
    rw [pdOf_eqv] at h
    exact h

theorem row_eq {Q : Value → Shared → Prop} (R1 : Row s.heap k v1 xs) (R2 : Row s.heap k v2 ys) (hu : A.units + 64 < cLine) (h : Q (.bool (decide (xs = ys))) s) : wpAny (model prog w) A (compareOp .Eq v1 v2) Q E s := by
  by_cases hk : k = .byt
  · subst hk
    obtain ⟨b, t, rfl, hb⟩ := R1
    obtain ⟨c, u, rfl, hc⟩ := R2
    refine PySem.W.eq_bytes ?_
    have : (b.toList == c.toList) = decide (xs = ys) := by
      subst hb hc
      rw [Bool.eq_iff_iff]
      simp [bytes_inj]
    rw [this]; exact h
  · obtain ⟨as, ra⟩ := row_reads R1 hk
    obtain ⟨bs, rb⟩ := row_reads R2 hk
    exact SeqAt.compareEq_reads ra rb (pdOf_lay k xs).1 (pdOf_lay k ys).1 (by have := (pdOf_lay k xs).2; omega) (by rw [pdOf_eqv]; exact h)

theorem row_ne {Q : Value → Shared → Prop} (R1 : Row s.heap .lst v1 xs) (R2 : Row s.heap .lst v2 ys) (hu : A.units + 64 < cLine) (h : Q (.bool (!decide (xs = ys))) s) : wpAny (model prog w) A (compareOp .NotEq v1 v2) Q E s := by
  obtain ⟨as, ra⟩ := row_reads R1 (by intro e; cases e)
  obtain ⟨bs, rb⟩ := row_reads R2 (by intro e; cases e)
  exact SeqAt.compareNe_reads ra rb (pdOf_lay .lst xs).1 (pdOf_lay .lst ys).1 (by have := (pdOf_lay .lst xs).2; omega) (by rw [pdOf_eqv]; exact h)

/-- two tuples of three rows, place by place the same -/
theorem triple_ne {Q : Value → Shared → Prop} {a b : Addr} {p1 p2 p3 q1 q2 q3 : Value} {n1 n2 n3 : List Int} (ha : s.heap.IsTuple a #[p1, p2, p3]) (hb : s.heap.IsTuple b #[q1, q2, q3])
    (r1 : Row s.heap k p1 n1) (r2 : Row s.heap k p2 n2) (r3 : Row s.heap k p3 n3) (s1 : Row s.heap k q1 n1) (s2 : Row s.heap k q2 n2) (s3 : Row s.heap k q3 n3) (hu : A.units + 65 < cLine)
    (h : Q (.bool false) s) : wpAny (model prog w) A (compareOp .NotEq (.ref a) (.ref b)) Q E s := by
  have he : ∀ j (h1 : j < (#[p1, p2, p3] : Array Value).size) (h2 : j < (#[q1, q2, q3] : Array Value).size), SeqAt.EqAt A.in1 s (#[p1, p2, p3] : Array Value)[j] (#[q1, q2, q3] : Array Value)[j] ((fun _ => true) j) := by
    intro j h1 h2
    have hu' : A.in1.units + 64 < cLine := by show A.units + 1 + 64 < cLine; omega
    match j, h1, h2 with
    | 0, _, _ => have := row_eqAt (A := A.in1) r1 s1 hu'; simpa using this
    | 1, _, _ => have := row_eqAt (A := A.in1) r2 s2 hu'; simpa using this
    | 2, _, _ => have := row_eqAt (A := A.in1) r3 s3 hu'; simpa using this
  refine SeqAt.RcNeAt.tuples ha hb (by omega) he prog w E Q ?_
  have e : (!((List.range (min (#[p1, p2, p3] : Array Value).size (#[q1, q2, q3] : Array Value).size)).all (fun _ => true) && (#[p1, p2, p3] : Array Value).size == (#[q1, q2, q3] : Array Value).size)) = false := by rfl
  rw [e]; exact h
end
end Mine
end

section
open PySem PySem.W PyProof.Rows PySem.Calls
set_option Elab.async false
set_option maxRecDepth 100000
namespace Mine

/-- the world that the defs run in: the written part, the globals, the builtins -/
structure Wd (K : Frag) (h : Heap) : Prop where
  K : K.In h
  ns : ∃ mg mb, h.Ns mainGlobals mg ∧ h.Ns builtinsNs mb ∧ ∀ x : Str, x ≠ "__name__" → mb x = bootBuiltins x
  lim : h.NoLimit

theorem Wd.mono {K : Frag} {g h : Heap} (W : Wd K g) (l : Lasts g h) : Wd K h := by
  obtain ⟨K, ⟨mg, mb, a, b, c⟩, n⟩ := W
  exact ⟨K.keeps l, ⟨mg, mb, a.keeps l, b.keeps l, c⟩, n.keeps l⟩

section
variable {prog : Program} {w : World} {A : Around} {E : Value → Shared → Prop} {s : Shared} {env : Env} {m : Str → Option Value} {g : Heap} {L : Addr} {x : Str} {pos : Pos} {v : Value} {M : Model} {K : Frag}

theorem nm_local {Q : Value → Shared → Prop} (F : Fs g env.locals s.heap m) (hv : m x = some v) (h : Q v s) (hk : env.scope.kind = .function) (hl : env.kindOf x = some .local)
    (hd : (x == ("__debug__" : Str)) = false) : wpAny M A (eval (.Name x pos) env) Q E s :=
  wpAny_Name (wpAny_loadName_local hk hl F.ns hv h) hd
theorem nm_global {Q : Value → Shared → Prop} (F : Fs g L s.heap m) (W : Wd K g) (e : nsIn K mainGlobals x = some (some v)) (h : Q v s) (hk : env.scope.kind = .function)
    (hx : env.kindOf x = some .globalImplicit) (hg : env.globals = mainGlobals) (hd : (x == ("__debug__" : Str)) = false) : wpAny M A (eval (.Name x pos) env) Q E s := by
  obtain ⟨KI, ⟨mg, mb, a, b, c⟩, n⟩ := W.mono F.keep
  exact Calls.Name_function_global hk hx (Calls.loadGlobal_global (by rw [hg]; exact a) (mg_of KI a e) h) hd
theorem nm_boot {Q : Value → Shared → Prop} (F : Fs g L s.heap m) (W : Wd K g) (e : nsIn K mainGlobals x = some none) (hv : bootBuiltins x = some v) (hn : x ≠ "__name__") (h : Q v s) (hk : env.scope.kind = .function)
    (hx : env.kindOf x = some .globalImplicit) (hg : env.globals = mainGlobals) (hb : env.builtins = builtinsNs) (hd : (x == ("__debug__" : Str)) = false) : wpAny M A (eval (.Name x pos) env) Q E s := by
  obtain ⟨KI, ⟨mg, mb, a, b, c⟩, n⟩ := W.mono F.keep
  exact Calls.Name_function_global hk hx (Calls.loadGlobal_builtin (by rw [hg]; exact a) (mg_none_of KI a e) (by rw [hb]; exact b) ((c x hn).trans hv) h) hd
theorem st_local {Q : Unit → Shared → Prop} (F : Fs g env.locals s.heap m) (h : ∀ h', Fs g env.locals h' (fun y => if y = x then some v else m y) → Heap.ExtBut env.locals s.heap h' → Q () { s with heap := h', toks := s.toks + 1 })
    (hk : env.scope.kind = .function) (hl : env.kindOf x = some .local) : wpAny M A (storeName env x v) Q E s :=
  wpAny_storeName_local hl F.ns (fun h' hn hs => h h' (F.set hn hs.extBut) hs.extBut) (by rw [hk]; rfl)

/-- a plain def of the text is entered -/
theorem enter {R : Result → Shared → Prop} {name qual : Str} {params : Arguments} {body : List Stmt} {scope : Scope} {dV kV doc pm cdv ct oc : Value} {an od : Option Addr} {osl : Array (Option Value)} {f : Addr} {args : Args} {binds : List (Str × Value)}
    (W : Wd K s.heap) (ho : K.lookup f = some ⟨oc, od, .func (fnOf name qual params body scope dV kV doc pm an cdv ct), osl⟩) (hcd : codeIn K cdv qual = true) (hroom : A.depth < recursionLimit)
    (hbind : BindsTo s (fnOf name qual params body scope dV kV doc pm an cdv ct) args binds) (hloc : ∀ y ∈ binds, scope.names.lookup y.1 = some .local)
    (h : ∀ h₁, Fs s.heap s.heap.objs.size h₁ (fun y => binds.reverse.lookup y) →
      wpAny (model prog w) (A.deeper (envOf qual scope s.heap.objs.size f cdv)) (execs body (envOf qual scope s.heap.objs.size f cdv))
        (fun fl s' => R (.ok (.ret (match fl with | .ret v => v | _ => .none))) s')
        (fun e s' => wpAny (model prog w) (A.deeper (envOf qual scope s.heap.objs.size f cdv)) (leaving (envOf qual scope s.heap.objs.size f cdv) e) (fun _ s'' => R (.error e) s'') (fun e' s'' => R (.error e') s'') s')
        { s with heap := h₁, toks := s.toks + binds.length })
    (hco : scope.isCoroutine = false) (hgen : scope.isGenerator = false) (hk : scope.kind = .function)
    (hcell : ∀ x ∈ scope.names, x.2 ≠ .cell) : codeAny (model prog w) A (.call (.ref f) args) R s := by
  refine codeAny_call_def (fd := fnOf name qual params body scope dV kV doc pm an cdv ct) (body := body) (binds := binds) hroom (W.K _ _ ho) rfl W.lim (codeRec_of W.K hcd) rfl hbind hcell hloc (fun h₁ hns hk₁ => ?_) hco hgen hk
  exact h h₁ ⟨hns, hk₁, fresh_size _⟩
end

section
variable {prog : Program} {w : World} {A : Around} {E : Value → Shared → Prop} {s : Shared} {k : Kd} {v : Value} {ns : List Int}
theorem row_len {Q : Value → Shared → Prop} (R : Row s.heap k v ns) (hz : ns.length ≤ 1000) (h : ∀ t tk, Q (.int (ns.length : Nat) t) { s with toks := tk }) : wpAny (model prog w) A (call (.builtin "len") [v]) Q E s := by
  cases k with
  | tup =>
    obtain ⟨a, vs, rfl, ht, hi⟩ := R
    have e : vs.toArray.size = ns.length := by rw [List.size_toArray, hi.length]
    exact len_tuple ht (by omega) (by rw [e]; exact h _ _)
  | lst =>
    obtain ⟨a, vs, rfl, ht, hi⟩ := R
    have e : vs.toArray.size = ns.length := by rw [List.size_toArray, hi.length]
    exact len_list ht (by omega) (by rw [e]; exact h _ _)
  | byt =>
    obtain ⟨b, t, rfl, hi⟩ := R
    exact KBw.len_K hi (by omega) (h _ _)
end

section
variable {prog : Program} {w : World} {A : Around} {E : Value → Shared → Prop} {s : Shared}
theorem min_nat {a b : Nat} {t u : Tok} {Q : Value → Shared → Prop} (hh : A.handled = none) (h : ∀ t' h' tk, Lasts s.heap h' → Q (.int ((min a b : Nat) : Int) t') { s with heap := h', toks := tk }) :
    wpAny (model prog w) A (call (.builtin "min") [.int (a : Int) t, .int (b : Int) u]) Q E s := by
  refine min_two_ints hh fun h' tk hk => ?_
  by_cases c : (b : Int) < (a : Int)
  · rw [if_pos c]; have e : min a b = b := by omega
    exact e ▸ h u h' tk hk
  · rw [if_neg c]; have e : min a b = a := by omega
    exact e ▸ h t h' tk hk
theorem max_nat {a b : Nat} {t u : Tok} {Q : Value → Shared → Prop} (hh : A.handled = none) (h : ∀ t' h' tk, Lasts s.heap h' → Q (.int ((max a b : Nat) : Int) t') { s with heap := h', toks := tk }) :
    wpAny (model prog w) A (call (.builtin "max") [.int (a : Int) t, .int (b : Int) u]) Q E s := by
  refine max_two_ints hh fun h' tk hk => ?_
  by_cases c : (b : Int) > (a : Int)
  · rw [if_pos c]; have e : max a b = b := by omega
    exact e ▸ h u h' tk hk
  · rw [if_neg c]; have e : max a b = a := by omega
    exact e ▸ h t h' tk hk
end

/-- the length of the common beginning -/
def cpl : List Int → List Int → Nat
  | x :: xs, y :: ys => if x = y then cpl xs ys + 1 else 0
  | _, _ => 0
theorem cpl_stop : ∀ (xs ys : List Int) (j : Nat) (x y : Int), xs[j]? = some x → ys[j]? = some y → x ≠ y → xs.take j = ys.take j → cpl xs ys = j
  | x :: xs, y :: ys, 0, _, _, h1, h2, h3, _ => by simp at h1 h2; subst h1 h2; simp [cpl, h3]
  | x :: xs, y :: ys, j + 1, _, _, h1, h2, h3, h4 => by
    simp only [List.take_succ_cons, List.cons.injEq] at h4
    rw [cpl, if_pos h4.1, cpl_stop xs ys j _ _ (by simpa using h1) (by simpa using h2) h3 h4.2]
  | [], _, _, _, _, h1, _, _, _ => by simp at h1
  | _ :: _, [], _, _, _, _, h2, _, _ => by simp at h2
theorem cpl_all : ∀ (xs ys : List Int), xs.take (min xs.length ys.length) = ys.take (min xs.length ys.length) → cpl xs ys = min xs.length ys.length
  | x :: xs, y :: ys, h => by
    have e : min (x :: xs).length (y :: ys).length = min xs.length ys.length + 1 := by simp only [List.length_cons]; omega
    rw [e] at h ⊢
    simp only [List.take_succ_cons, List.cons.injEq] at h
    rw [cpl, if_pos h.1, cpl_all xs ys h.2]
  | [], ys, _ => by cases ys <;> simp [cpl]
  | _ :: _, [], _ => by simp [cpl]

theorem none_back {g h : Heap} (l : Lasts g h) {c : Addr} (q : h.get? c = none) : g.get? c = none := by
  cases e : g.get? c with
  | none => rfl
  | some o => rw [l _ _ e] at q; cases q

local macro_rules | `(tactic| walk_at "nml") => `(tactic| refine nm_local (by assumption) (by with_unfolding_all rfl) ?_ (by with_unfolding_all rfl) (by with_unfolding_all rfl) (by decide))
local macro_rules | `(tactic| walk_at "nmb") => `(tactic| refine nm_boot (by assumption) (by assumption) (by k_is) (by boot_by_name) (by decide) ?_ (by with_unfolding_all rfl) (by with_unfolding_all rfl) rfl rfl (by decide))

local macro_rules | `(tactic| walk_at "nma") => `(tactic| refine nm_local (by assumption) (by assumption) ?_ (by with_unfolding_all rfl) (by with_unfolding_all rfl) (by decide))

theorem gcpl_spec (w : World) : ∀ (A : Around) (E : Value → Shared → Prop) (s : Shared) (k : Kd) (v1 v2 : Value) (xs ys : List Int) (Q : Value → Shared → Prop),
    Wd (hd.heap_39 w.params) s.heap → A.handled = none → A.depth + 2 < recursionLimit → Row s.heap k v1 xs → Row s.heap k v2 ys → xs.length ≤ 1000 → ys.length ≤ 1000 →
    (∀ t h' tk, Lasts s.heap h' → Q (.int (cpl xs ys : Nat) t) { s with heap := h', toks := tk }) →
    wpAny (model PySem.Challenge.rw_ad6015_01.row.prog w) A (call (.ref 21) [v1, v2]) Q E s := by
  k_fill
  intro A E s k v1 v2 xs ys Q W hh hroom R1 R2 hz1 hz2 hQ
  refine wpAny_call ?_
  refine' enter (binds := [(Str.ofString "left_key", v1), (Str.ofString "right_key", v2)]) W ?ho ?hcd (by omega) ?hb ?hl ?_ ?c1 ?c2 ?c3 ?c4
  case ho => k_is
  case hcd => k_is
  case hb => exact BindsTo.of_eq rfl
  case hl => exact locs rfl
  case c1 => exact rfl
  case c2 => exact rfl
  case c3 => exact rfl
  case c4 => decide
  intro h₁ F₁
  refine wpAny_execs_cons (wpAny_For (Call_ ?_) (fun _ => rfl))
  walk_at "nmb"
  refine PyProof.Rows.callWith_type1 (spliced_more (Call_ ?_))
  walk_at "nmb"
  refine PyProof.Rows.callWith_type1 (spliced_more ?_)
  walk_at "nml"
  refine spliced_more ?_
  walk_at "nml"
  refine spliced_none ?_
  have F₁k : Lasts s.heap h₁ := F₁.keep
  refine call_zip_row (R1.mono F₁k) (R2.mono F₁k) fun h₂ z TI TO I1 I2 Z₂ l₂ fr₂ => ?_
  refine spliced_none ?_
  refine call_enum_zip Z₂.zo fun h₃ e he₃ l₃ fr₃ => ?_
  have F₃ : Fs s.heap s.heap.objs.size h₃ _ := (F₁.ext l₂).ext l₃
  replace l₂ : Lasts h₁ h₂ := l₂
  replace l₃ : Lasts h₂ h₃ := l₃
  refine wpAny_pyIter_enum he₃ ?_
  have b2 : ∀ {c : Addr}, h₁.get? c = none → s.heap.get? c = none := fun q => none_back F₁k q
  have b3 : s.heap.get? e = none := none_back (F₁k.trans l₂) fr₃
  have Z₃ : ZAt h₃ z TI TO I1 I2 k v1 v2 xs ys .none (.bool false) 0 := Z₂.ext (fun _ => False) (fun c o _ q => l₃ c o q) fun _ _ q => q.elim
  refine loop_enum_zip (k := k) (g := s.heap) (xs := xs) (ys := ys) hh (by with_unfolding_all rfl) (by with_unfolding_all rfl) (by with_unfolding_all rfl) (by with_unfolding_all rfl) (fun j => xs.take j = ys.take j)
    (fun v => ∃ t, v = .int (cpl xs ys : Nat) t) F₃ he₃ ⟨_, _, Z₃, .inl rfl⟩ b3 (b2 fr₂.1) (b2 fr₂.2.1) (b2 fr₂.2.2.1) (b2 fr₂.2.2.2) rfl ?_ ?_ ?_
  · intro j x y ti t1 t2 m₁ s₁ E' hx hy hJ F
    refine wpAny_execs_cons (wpAny_If (wpAny_isTrue_Compare1 ?_))
    walk_at "nml"
    walk_at "nml"
    refine ne_int ?_
    refine wpAny_truthy_bool ?_
    have et : xs.take (j + 1) = xs.take j ++ [x] := by simp [List.take_add_one, hx]
    have eu : ys.take (j + 1) = ys.take j ++ [y] := by simp [List.take_add_one, hy]
    split
    · rename_i hne
      have hne' : x ≠ y := by simpa using hne
      refine wpAny_execs_cons (wpAny_Return_some ?_)
      walk_at "nml"
      exact ⟨⟨_, rfl⟩, .inr ⟨_, rfl, ti, by rw [cpl_stop xs ys j x y hx hy hne' hJ]⟩⟩
    · rename_i hne
      have heq : x = y := by simpa using hne
      refine wpAny_execs_nil (wpAny_execs_nil ⟨⟨_, rfl⟩, .inl ⟨rfl, ?_⟩⟩)
      show xs.take (j + 1) = ys.take (j + 1)
      rw [et, eu, hJ, heq]
  · rintro v h' tk m' ⟨t, rfl⟩ F'
    exact hQ t h' tk F'.keep
  · intro h' tk m' hJ F' hm
    have e1 : m' (Str.ofString "left_key") = some v1 := (hm _ (by decide) (by decide) (by decide)).trans (by with_unfolding_all rfl)
    have e2 : m' (Str.ofString "right_key") = some v2 := (hm _ (by decide) (by decide) (by decide)).trans (by with_unfolding_all rfl)
    refine wpAny_execs_cons (wpAny_Return_some (Call_ ?_))
    walk_at "nmb"
    refine PyProof.Rows.callWith_builtin1 (spliced_more (Call_ ?_))
    walk_at "nmb"
    refine PyProof.Rows.callWith_builtin1 (spliced_more ?_)
    walk_at "nma"
    refine spliced_none ?_
    refine row_len (R1.mono F'.keep) hz1 fun t3 tk3 => ?_
    refine spliced_more (Call_ ?_)
    walk_at "nmb"
    refine PyProof.Rows.callWith_builtin1 (spliced_more ?_)
    walk_at "nma"
    refine spliced_none ?_
    refine row_len (R2.mono F'.keep) hz2 fun t4 tk4 => ?_
    refine spliced_none ?_
    refine min_nat hh fun t5 h'' tk5 hk => ?_
    rw [cpl_all xs ys hJ] at hQ
    exact hQ t5 h'' tk5 (F'.keep.trans hk)
end Mine
end

section
open PySem PySem.W PyProof.Rows PySem.Calls
set_option Elab.async false
set_option maxRecDepth 100000
namespace Mine

/-- room for n calls more -/
structure Amb (A : Around) (n : Nat) : Prop where
  hh : A.handled = none
  dep : A.depth + n < recursionLimit
  un : A.units + 16 * n + 100 < cLine
theorem Amb.deeper {A : Around} {n : Nat} {env : Env} (h : Amb A (n + 1)) : Amb (A.deeper env) n := ⟨h.hh, by have := h.dep; show A.depth + 1 + n < _; omega, by have := h.un; show A.units + 3 + 16 * n + 100 < _; omega⟩
theorem Amb.in1 {A : Around} {n : Nat} (h : Amb A (n + 1)) : Amb A.in1 n := ⟨h.hh, by have := h.dep; show A.depth + n < _; omega, by have := h.un; show A.units + 1 + 16 * n + 100 < _; omega⟩
theorem Amb.less {A : Around} {n m : Nat} (h : Amb A n) (l : m ≤ n) : Amb A m := ⟨h.hh, by have := h.dep; omega, by have := h.un; omega⟩

theorem Fs.grow {g h : Heap} {L : Addr} {m : Str → Option Value} (F : Fs g L h m) : Fs (h.hide L) L h m := ⟨F.ns, fun _ _ e => Heap.of_hide e, Heap.hide_self ..⟩
theorem Fs.lasts {g h : Heap} {L : Addr} {m : Str → Option Value} (F : Fs g L h m) : Lasts g (h.hide L) := fun b o e =>
  (Heap.hide_ne h (by rintro rfl; rw [F.off] at e; cases e)).trans (F.keep b o e)
theorem Row.hide {g h : Heap} {L : Addr} {m : Str → Option Value} (F : Fs g L h m) {k : Kd} {v : Value} {ns : List Int} (R : Row h k v ns) : Row (h.hide L) k v ns :=
  R.ext' (fun b => b = L) (fun b o hb e => (Heap.hide_ne h hb).trans e) fun b o hb e => ns_off F.ns (hb ▸ e)

local macro_rules | `(tactic| walk_at "nml") => `(tactic| refine nm_local (by assumption) (by with_unfolding_all rfl) ?_ (by with_unfolding_all rfl) (by with_unfolding_all rfl) (by decide))
local macro_rules | `(tactic| walk_at "nma") => `(tactic| refine nm_local (by assumption) (by assumption) ?_ (by with_unfolding_all rfl) (by with_unfolding_all rfl) (by decide))
local macro_rules | `(tactic| walk_at "nmb") => `(tactic| refine nm_boot (by assumption) (by assumption) (by k_is) (by boot_by_name) (by decide) ?_ (by with_unfolding_all rfl) (by with_unfolding_all rfl) rfl rfl (by decide))
local macro_rules | `(tactic| walk_at "nmg") => `(tactic| (refine' nm_global (by assumption) (by assumption) ?k1 ?_ ?k2 ?k3 ?k4 ?k5; (case k1 => k_is); (case k2 => with_unfolding_all rfl); (case k3 => with_unfolding_all rfl); (case k4 => exact rfl); (case k5 => decide)))
local macro_rules | `(tactic| walk_at "ent") => `(tactic| ((case ho => k_is); (case hcd => k_is); (case hb => exact BindsTo.of_eq rfl); (case hl => exact locs rfl); (case c1 => exact rfl); (case c2 => exact rfl); (case c3 => exact rfl); (case c4 => decide)))

theorem consume_spec (w : World) : ∀ (A : Around) (E : Value → Shared → Prop) (s : Shared) (k : Kd) (v1 v2 : Value) (xs ys : List Int) (Q : Value → Shared → Prop),
    Wd (hd.heap_39 w.params) s.heap → Amb A 8 → Row s.heap k v1 xs → Row s.heap k v2 ys → xs.length ≤ 1000 → ys.length ≤ 1000 →
    (∀ a p1 p2 p3 h' tk, Lasts s.heap h' → h'.IsTuple a #[p1, p2, p3] → Row h' k p1 (xs.take (cpl xs ys)) → Row h' k p2 (xs.drop (cpl xs ys)) → Row h' k p3 (ys.drop (cpl xs ys)) → Q (.ref a) { s with heap := h', toks := tk }) →
    wpAny (model PySem.Challenge.rw_ad6015_01.row.prog w) A (call (.ref 28) [v1, v2]) Q E s := by
  k_fill
  intro A E s k v1 v2 xs ys Q W hA R1 R2 hz1 hz2 hQ
  refine wpAny_call ?_
  refine' enter (binds := [(Str.ofString "left_key", v1), (Str.ofString "right_key", v2)]) W ?ho ?hcd (by have := hA.dep; omega) ?hb ?hl ?_ ?c1 ?c2 ?c3 ?c4
  walk_at "ent"
  intro h₁ F₁
  refine wpAny_execs_cons (wpAny_Assign_Name (Call_ ?_))
  walk_at "nmg"
  refine' callWith_K (K := hd.heap_39 w.params) W.K ?kk ?_
  case kk => k_is
  refine spliced_more ?_
  walk_at "nml"
  refine spliced_more ?_
  walk_at "nml"
  refine spliced_none ?_
  refine ⟨(W.mono F₁.keep).K, ?_⟩
  refine gcpl_spec w _ _ _ k v1 v2 xs ys _ (W.mono F₁.keep) hA.hh (by have := hA.dep; show A.depth + 1 + 2 < _; omega) (R1.mono F₁.keep) (R2.mono F₁.keep) hz1 hz2 fun t h₂ tk₂ l₂ => ?_
  have F₂ : Fs s.heap s.heap.objs.size h₂ _ := F₁.ext l₂
  refine' st_local F₂ (fun h₃ (F₃ : Fs s.heap s.heap.objs.size h₃ _) (x₃ : Heap.ExtBut s.heap.objs.size h₂ h₃) => ?_) ?a ?b
  case a => with_unfolding_all rfl
  case b => with_unfolding_all rfl
  -- left_key[:n]
  refine wpAny_execs_cons (wpAny_Assign_Name (Subscript_ ?_))
  walk_at "nml"
  refine wpAny_Slice (evalPart_none_step (evalPart_some_step ?_))
  walk_at "nml"
  refine evalPart_none_step ?_
  refine row_slice (R1.mono F₃.keep) hz1 .none (.int _ _) (fun p1 h₄ tk₄ (l₄ : Lasts h₃ h₄) (P₄ : Row h₄ k p1 (xs.take (cpl xs ys))) => ?_) (fun _ _ => rfl)
  have F₄ : Fs s.heap s.heap.objs.size h₄ _ := F₃.ext l₄
  refine' st_local F₄ (fun h₅ (F₅ : Fs s.heap s.heap.objs.size h₅ _) (x₅ : Heap.ExtBut s.heap.objs.size h₄ h₅) => ?_) ?a ?b
  case a => with_unfolding_all rfl
  case b => with_unfolding_all rfl
  have P₅ := P₄.store F₄.ns x₅
  -- left_key[n:]
  refine wpAny_execs_cons (wpAny_Assign_Name (Subscript_ ?_))
  walk_at "nml"
  refine wpAny_Slice (evalPart_some_step ?_)
  walk_at "nml"
  refine evalPart_none_step (evalPart_none_step ?_)
  refine row_slice (R1.mono F₅.keep) hz1 (.int _ _) .none (fun p2 h₆ tk₆ (l₆ : Lasts h₅ h₆) (P₆ : Row h₆ k p2 (xs.drop (cpl xs ys))) => ?_) (fun _ _ => rfl)
  have F₆ : Fs s.heap s.heap.objs.size h₆ _ := F₅.ext l₆
  refine' st_local F₆ (fun h₇ (F₇ : Fs s.heap s.heap.objs.size h₇ _) (x₇ : Heap.ExtBut s.heap.objs.size h₆ h₇) => ?_) ?a ?b
  case a => with_unfolding_all rfl
  case b => with_unfolding_all rfl
  have P₇ := (P₅.mono l₆).store F₆.ns x₇
  have P₇' := P₆.store F₆.ns x₇
  -- right_key[n:]
  refine wpAny_execs_cons (wpAny_Assign_Name (Subscript_ ?_))
  walk_at "nml"
  refine wpAny_Slice (evalPart_some_step ?_)
  walk_at "nml"
  refine evalPart_none_step (evalPart_none_step ?_)
  refine row_slice (R2.mono F₇.keep) hz2 (.int _ _) .none (fun p3 h₈ tk₈ (l₈ : Lasts h₇ h₈) (P₈ : Row h₈ k p3 (ys.drop (cpl xs ys))) => ?_) (fun _ _ => rfl)
  have F₈ : Fs s.heap s.heap.objs.size h₈ _ := F₇.ext l₈
  refine' st_local F₈ (fun h₉ (F₉ : Fs s.heap s.heap.objs.size h₉ _) (x₉ : Heap.ExtBut s.heap.objs.size h₈ h₉) => ?_) ?a ?b
  case a => with_unfolding_all rfl
  case b => with_unfolding_all rfl
  have Q1 := (P₇.mono l₈).store F₈.ns x₉
  have Q2 := (P₇'.mono l₈).store F₈.ns x₉
  have Q3 := P₈.store F₈.ns x₉
  -- return
  refine wpAny_execs_cons (wpAny_Return_some (wpAny_Tuple (spliced_more ?_)))
  walk_at "nml"
  refine spliced_more ?_
  walk_at "nml"
  refine spliced_more ?_
  walk_at "nml"
  refine spliced_none ⟨by show (3 : Nat) ≤ sizeLine; rw [sizeLine_eq]; omega, ?_⟩
  have lp := Lasts.push h₉ { cls := .type "tuple", data := .seq #[p1, p2, p3] }
  exact hQ _ p1 p2 p3 _ _ (F₉.keep.trans lp) ⟨_, Heap.get?_push_size _ rfl, rfl, _, rfl⟩ (Q1.mono lp) (Q2.mono lp) (Q3.mono lp)
end Mine
end

section
open PySem PySem.W PyProof.Rows PySem.Calls
set_option Elab.async false
set_option maxRecDepth 100000
namespace Mine

local macro_rules | `(tactic| walk_at "nml") => `(tactic| refine nm_local (by assumption) (by with_unfolding_all rfl) ?_ (by with_unfolding_all rfl) (by with_unfolding_all rfl) (by decide))
local macro_rules | `(tactic| walk_at "nma") => `(tactic| refine nm_local (by assumption) (by assumption) ?_ (by with_unfolding_all rfl) (by with_unfolding_all rfl) (by decide))
local macro_rules | `(tactic| walk_at "nmb") => `(tactic| refine nm_boot (by assumption) (by assumption) (by k_is) (by boot_by_name) (by decide) ?_ (by with_unfolding_all rfl) (by with_unfolding_all rfl) rfl rfl (by decide))
local macro_rules | `(tactic| walk_at "nmg") => `(tactic| (refine' nm_global (by assumption) (by assumption) ?k1 ?_ ?k2 ?k3 ?k4 ?k5; (case k1 => k_is); (case k2 => with_unfolding_all rfl); (case k3 => with_unfolding_all rfl); (case k4 => exact rfl); (case k5 => decide)))
local macro_rules | `(tactic| walk_at "ent") => `(tactic| ((case ho => k_is); (case hcd => k_is); (case hb => exact BindsTo.of_eq rfl); (case hl => exact locs rfl); (case c1 => exact rfl); (case c2 => exact rfl); (case c3 => exact rfl); (case c4 => decide)))
local macro_rules | `(tactic| walk_at "sts") => `(tactic| ((case a => with_unfolding_all rfl); (case b => with_unfolding_all rfl)))

section
variable {prog : Program} {w : World} {A : Around} {E : Value → Shared → Prop} {s : Shared} {v v1 v2 : Value} {ns xs ys : List Int}
theorem row_add {Q : Value → Shared → Prop} (R1 : Row s.heap .lst v1 xs) (R2 : Row s.heap .lst v2 ys) (hz : xs.length + ys.length ≤ 2000)
    (h : ∀ r h' tk, Lasts s.heap h' → Row h' .lst r (xs ++ ys) → Q r { s with heap := h', toks := tk }) :
    wpAny (model prog w) A (binaryOp .Add v1 v2) Q E s := by
  obtain ⟨l, vs, rfl, ⟨⟨cls, dd, data, sl⟩, ho, hc, n, hd⟩, hi⟩ := R1
  obtain ⟨b, ws, rfl, ⟨⟨cls2, dd2, data2, sl2⟩, ho2, hc2, n2, hd2⟩, hj⟩ := R2
  simp only at hc hd hc2 hd2
  subst hc hd hc2 hd2
  have e : vs.toArray ++ ws.toArray = (vs ++ ws).toArray := by simp
  have l1 := hi.length
  have l2 := hj.length
  refine concat_meets ⟨_, ho, rfl⟩ ⟨_, ho2, rfl⟩ noFill_list_add seq_list_add PySem.F.slot_list_add PySem.F.entry_list_add (PySem.F.args_list_add_2 _ _) (list_addW l b vs.toArray ws.toArray n n2 dd dd2 sl sl2 (by rw [sizeLine_eq]; simp; omega)) ⟨ho, ho2, ?_⟩
  rw [e]
  exact h _ _ s.toks (Lasts.push _ _) ⟨_, vs ++ ws, rfl, ⟨_, Heap.get?_push_size _ rfl, rfl, _, rfl⟩, hi.append hj⟩

theorem row_tuple {Q : Value → Shared → Prop} (R : Row s.heap .lst v ns) (hz : ns.length ≤ 1000) (h : ∀ r h' tk, Lasts s.heap h' → Row h' .tup r ns → Q r { s with heap := h', toks := tk }) :
    wpAny (model prog w) A (call (.type "tuple") [v]) Q E s := by
  obtain ⟨l, vs, rfl, hl, hi⟩ := R
  refine call_tuple_list hl (fun h' hk => ?_) (by rw [sizeLine_eq, List.size_toArray, hi.length]; omega)
  exact h _ _ s.toks (Lasts.trans hk (Lasts.push _ _)) ⟨_, vs, rfl, ⟨_, Heap.get?_push_size _ rfl, rfl, _, rfl⟩, hi⟩

theorem row_bytes {Q : Value → Shared → Prop} (R : Row s.heap .lst v ns) (hz : ns.length ≤ 1000) (hr : ∀ n ∈ ns, 0 ≤ n ∧ n < 256) (hh : A.handled = none) (h : ∀ r h' tk, Lasts s.heap h' → Row h' .byt r ns → Q r { s with heap := h', toks := tk }) :
    wpAny (model prog w) A (call (.type "bytes") [v]) Q E s := by
  obtain ⟨l, vs, rfl, hl, hi⟩ := R
  refine call_bytes_ints hl hi hr (by rw [sizeLine_eq, hi.length]; omega) hh fun h' t k hk => h _ _ _ hk ⟨_, _, rfl, KBa.ints_make hr⟩
end

theorem cast_spec (w : World) : ∀ (A : Around) (E : Value → Shared → Prop) (s : Shared) (v1 v2 : Value) (Q : Value → Shared → Prop),
    Wd (hd.heap_39 w.params) s.heap → Amb A 2 → 
    (∀ h' tk, Lasts s.heap h' → Q v2 { s with heap := h', toks := tk }) →
    wpAny (model PySem.Challenge.rw_ad6015_01.row.prog w) A (call (.ref 42) [v1, v2]) Q E s := by
  k_fill
  intro A E s v1 v2 Q W hA hQ
  refine wpAny_call ?_
  refine' enter (binds := [(Str.ofString "kind", v1), (Str.ofString "value", v2)]) W ?ho ?hcd (by have := hA.dep; omega) ?hb ?hl ?_ ?c1 ?c2 ?c3 ?c4
  walk_at "ent"
  intro h₁ F₁
  refine wpAny_execs_cons (wpAny_Return_some ?_)
  walk_at "nml"
  exact hQ _ _ F₁.keep

theorem chain_spec (w : World) : ∀ (A : Around) (E : Value → Shared → Prop) (s : Shared) (k : Kd) (v1 v2 : Value) (xs ys : List Int) (Q : Value → Shared → Prop),
    Wd (hd.heap_39 w.params) s.heap → Amb A 4 → Row s.heap k v1 xs → Row s.heap k v2 ys → xs.length ≤ 1000 → ys.length ≤ 1000 →
    (∀ r h' tk, Lasts s.heap h' → Row h' .lst r (xs ++ ys) → Q r { s with heap := h', toks := tk }) →
    wpAny (model PySem.Challenge.rw_ad6015_01.row.prog w) A (call (.ref 56) [v1, v2]) Q E s := by
  k_fill
  intro A E s k v1 v2 xs ys Q W hA R1 R2 hz1 hz2 hQ
  refine wpAny_call ?_
  refine' enter (binds := [(Str.ofString "first", v1), (Str.ofString "second", v2)]) W ?ho ?hcd (by have := hA.dep; omega) ?hb ?hl ?_ ?c1 ?c2 ?c3 ?c4
  walk_at "ent"
  intro h₁ F₁
  refine wpAny_execs_cons (wpAny_Return_some (wpAny_BinOp (Call_ ?_)))
  walk_at "nmb"
  refine PyProof.Rows.callWith_type1 (spliced_more ?_)
  walk_at "nml"
  refine spliced_none ?_
  refine row_list (R1.mono F₁.keep) hA.hh hz1 fun r1 h₂ tk₂ l₂ P1 => ?_
  have F₂ : Fs s.heap s.heap.objs.size h₂ _ := F₁.ext l₂
  refine Call_ ?_
  walk_at "nmb"
  refine PyProof.Rows.callWith_type1 (spliced_more ?_)
  walk_at "nml"
  refine spliced_none ?_
  refine row_list (R2.mono F₂.keep) hA.hh hz2 fun r2 h₃ tk₃ l₃ P2 => ?_
  refine row_add (P1.mono l₃) P2 (by omega) fun r h₄ tk₄ l₄ P => ?_
  exact hQ _ _ _ ((F₂.keep.trans l₃).trans l₄) P

theorem form_spec (w : World) : ∀ (A : Around) (E : Value → Shared → Prop) (s : Shared) (v1 : Value) (how : Int) (t : Tok) (ns : List Int) (Q : Value → Shared → Prop),
    Wd (hd.heap_39 w.params) s.heap → Amb A 4 → Row s.heap .lst v1 ns → ns.length ≤ 1000 → (∀ n ∈ ns, 0 ≤ n ∧ n < 256) →
    (∀ r h' tk, Lasts s.heap h' → Row h' (if how = 0 then .tup else if how = 1 then .lst else .byt) r ns → Q r { s with heap := h', toks := tk }) →
    wpAny (model PySem.Challenge.rw_ad6015_01.row.prog w) A (call (.ref 75) [v1, .int how t]) Q E s := by
  k_fill
  intro A E s v1 how t ns Q W hA R1 hz1 hr hQ
  refine wpAny_call ?_
  refine' enter (binds := [(Str.ofString "row", v1), (Str.ofString "how", .int how t)]) W ?ho ?hcd (by have := hA.dep; omega) ?hb ?hl ?_ ?c1 ?c2 ?c3 ?c4
  walk_at "ent"
  intro h₁ F₁
  refine wpAny_execs_cons (wpAny_If (wpAny_isTrue_Compare1 ?_))
  walk_at "nml"
  refine wpAny_Constant_int ?_
  refine eq_int ?_
  refine wpAny_truthy_bool ?_
  split
  · rename_i hc
    have hc' : how = 0 := by simpa using hc
    rw [if_pos hc'] at hQ
    refine wpAny_execs_cons (wpAny_Return_some (Call_ ?_))
    walk_at "nmb"
    refine PyProof.Rows.callWith_type1 (spliced_more ?_)
    walk_at "nml"
    refine spliced_none ?_
    exact row_tuple (R1.mono F₁.keep) hz1 fun r h₂ tk₂ l₂ P => hQ _ _ _ (F₁.keep.trans l₂) P
  · rename_i hc
    have hc' : ¬ how = 0 := by simpa using hc
    rw [if_neg hc'] at hQ
    refine wpAny_execs_nil (wpAny_execs_cons (wpAny_Return_some (IfExp_ (wpAny_isTrue_Compare1 ?_))))
    walk_at "nml"
    refine wpAny_Constant_int ?_
    refine eq_int ?_
    refine wpAny_truthy_bool ?_
    split
    · rename_i hc
      have hc' : how = 1 := by simpa using hc
      rw [if_pos hc'] at hQ
      refine Call_ ?_
      walk_at "nmb"
      refine PyProof.Rows.callWith_type1 (spliced_more ?_)
      walk_at "nml"
      refine spliced_none ?_
      exact row_list (R1.mono F₁.keep) hA.hh hz1 fun r h₂ tk₂ l₂ P => hQ _ _ _ (F₁.keep.trans l₂) P
    · rename_i hc
      have hc' : ¬ how = 1 := by simpa using hc
      rw [if_neg hc'] at hQ
      refine Call_ ?_
      walk_at "nmb"
      refine PyProof.Rows.callWith_type1 (spliced_more ?_)
      walk_at "nml"
      refine spliced_none ?_
      exact row_bytes (R1.mono F₁.keep) hz1 hr hA.hh fun r h₂ tk₂ l₂ P => hQ _ _ _ (F₁.keep.trans l₂) P
end Mine
end

section
open PySem PySem.W PyProof.Rows PySem.Calls
set_option Elab.async false
set_option maxRecDepth 100000
namespace Mine

local macro_rules | `(tactic| walk_at "nml") => `(tactic| refine nm_local (by assumption) (by with_unfolding_all rfl) ?_ (by with_unfolding_all rfl) (by with_unfolding_all rfl) (by decide))
local macro_rules | `(tactic| walk_at "nma") => `(tactic| refine nm_local (by assumption) (by assumption) ?_ (by with_unfolding_all rfl) (by with_unfolding_all rfl) (by decide))
local macro_rules | `(tactic| walk_at "nmb") => `(tactic| refine nm_boot (by assumption) (by assumption) (by k_is) (by boot_by_name) (by decide) ?_ (by with_unfolding_all rfl) (by with_unfolding_all rfl) rfl rfl (by decide))
local macro_rules | `(tactic| walk_at "nmg") => `(tactic| (refine' nm_global (by assumption) (by assumption) ?k1 ?_ ?k2 ?k3 ?k4 ?k5; (case k1 => k_is); (case k2 => with_unfolding_all rfl); (case k3 => with_unfolding_all rfl); (case k4 => exact rfl); (case k5 => decide)))
local macro_rules | `(tactic| walk_at "ent") => `(tactic| ((case ho => k_is); (case hcd => k_is); (case hb => exact BindsTo.of_eq rfl); (case hl => exact locs rfl); (case c1 => exact rfl); (case c2 => exact rfl); (case c3 => exact rfl); (case c4 => decide)))
local macro_rules | `(tactic| walk_at "sts") => `(tactic| ((case a => with_unfolding_all rfl); (case b => with_unfolding_all rfl)))

section
variable {prog : Program} {w : World} {A : Around} {E : Value → Shared → Prop} {s : Shared} {env : Env} {m : Str → Option Value} {g : Heap}

/-- for x in (an iterator that walks): body, over a frame of my kind -/
theorem loop_walk {R : Result → Shared → Prop} {x : Str} {px : Pos} {body : List Stmt} {I : Addr} {fp wr : List Addr} {n : Nat} {P : Nat → Value → Prop} {St : Nat → Heap → Prop}
    (W : Walks prog w A I fp wr n P St) (hx : env.kindOf x = some .local) (hsk : env.scope.kind = .function)
    (hLf : env.locals ∉ fp) (hwr : ∀ b ∈ wr, g.get? b = none) (hst : St 0 s.heap) (F : Fs g env.locals s.heap m)
    (J : Nat → (Str → Option Value) → Heap → Prop) (h0 : J 0 m s.heap)
    (turn : ∀ j v m₁ h₁ (s₁ : Shared) E', j < n → P j v → J j m₁ h₁ → Fs g env.locals h₁ m₁ → (∀ b o, b ≠ env.locals → b ∉ wr → h₁.get? b = some o → s₁.heap.get? b = some o) → St (j + 1) s₁.heap →
      Fs g env.locals s₁.heap (fun y => if y = x then some v else m₁ y) →
      wpAny (model prog w) A (execs body env) (fun f s₂ => ∃ h₂ tk₂ m₂, s₂ = { s₁ with heap := h₂, toks := tk₂ } ∧ f = .next ∧ (∀ b ∈ fp, ∀ o, s₁.heap.get? b = some o → h₂.get? b = some o) ∧ Fs g env.locals h₂ m₂ ∧ J (j + 1) m₂ h₂) E' s₁)
    (hdone : ∀ h₁ h' tk m', J n m' h₁ → Fs g env.locals h₁ m' → (∀ b o, b ∉ wr → h₁.get? b = some o → h'.get? b = some o) → Fs g env.locals h' m' → R (.ok .next) { s with heap := h', toks := tk }) :
    codeAny (model prog w) A (.forLoop (.Name x px) (.ref I) body [] env) R s := by
  have hpk : (env.scope.kind == .class || (env.scope.kind == .module && env.locals != env.globals)) = false := by rw [hsk]; rfl
  have hLw : env.locals ∉ wr := fun h => hLf (W.sub _ h)
  have keepF : ∀ {h h' m'}, Fs g env.locals h m' → (∀ b o, b ∉ wr → h.get? b = some o → h'.get? b = some o) → Fs g env.locals h' m' := fun {h h' m'} F k =>
    ⟨F.ns.at' fun o q => k _ o hLw q, fun b o e => k b o (fun hb => by rw [hwr b hb] at e; cases e) (F.keep b o e), F.off⟩
  refine codeAny_forLoop (fun q s' => ∃ j h' tk m', s' = { s with heap := h', toks := tk } ∧ q = n - j ∧ j ≤ n ∧ St j h' ∧ Fs g env.locals h' m' ∧ J j m' h') ?_ n ⟨0, s.heap, s.toks, m, rfl, rfl, Nat.zero_le _, hst, F, h0⟩
  rintro q s' ⟨j, h', tk, m', rfl, rfl, hj, hst', F', hJ⟩
  by_cases hlt : j < n
  · refine W.item j _ _ _ hlt hst' fun v h₁ tk₁ hP hst₁ k₁ => ?_
    have F₁ : Fs g env.locals h₁ m' := keepF F' k₁
    refine wpAny_assign_Name (wpAny_storeName_local hx F₁.ns (fun h₂ n₂ s₂ => ?_) hpk)
    have F₂ := F₁.set n₂ s₂.extBut
    have st₂ : St (j + 1) h₂ := W.frame _ _ _ hst₁ fun b hb o e => s₂.extBut b o (fun h => hLf (h ▸ hb)) e
    refine wpAny_mono (turn j v m' h' _ _ hlt hP hJ F' (fun b o b1 b2 e => s₂.extBut b o b1 (k₁ b o b2 e)) st₂ F₂) (fun f s₃ r => ?_) fun _ _ q => q
    obtain ⟨h₃, tk₃, m₃, rfl, rfl, k₃, F₃, hJ₃⟩ := r
    exact ⟨n - (j + 1), by omega, j + 1, h₃, tk₃, m₃, rfl, rfl, by omega, W.frame _ _ _ st₂ k₃, F₃, hJ₃⟩
  · have e : j = n := by omega
    subst e
    refine W.done _ _ _ hst' fun h₁ tk₁ k₁ => wpAny_execs_nil ?_
    exact hdone h' h₁ tk₁ m' hJ F' k₁ (keepF F' k₁)

/-- for x in range(n): body -/
theorem loop_range {R : Result → Shared → Prop} {x : Str} {px : Pos} {body : List Stmt} {n : Nat} {t : Tok} (hh : A.handled = none) (hn : n < 2 ^ 60) (hx : env.kindOf x = some .local) (hsk : env.scope.kind = .function)
    (F : Fs g env.locals s.heap m) (J : Nat → (Str → Option Value) → Heap → Prop) (h0 : J 0 m s.heap) (hJe : ∀ m h h', J 0 m h → Lasts h h' → J 0 m h')
    (turn : ∀ j tk m₁ h₁ (s₁ : Shared) E' (I : Addr), env.locals ≠ I → j < n → J j m₁ h₁ → Fs g env.locals h₁ m₁ → (∀ b o, b ≠ env.locals → b ≠ I → h₁.get? b = some o → s₁.heap.get? b = some o) → (∃ o, h₁.get? I = some o ∧ o.cls = .type "range_iterator") → (∃ o, s₁.heap.get? I = some o ∧ o.cls = .type "range_iterator") →
      Fs g env.locals s₁.heap (fun y => if y = x then some (.int (j : Nat) tk) else m₁ y) →
      wpAny (model prog w) A (execs body env) (fun f s₂ => ∃ h₂ tk₂ m₂, s₂ = { s₁ with heap := h₂, toks := tk₂ } ∧ f = .next ∧ (∀ o, s₁.heap.get? I = some o → h₂.get? I = some o) ∧ Fs g env.locals h₂ m₂ ∧ J (j + 1) m₂ h₂) E' s₁)
    (hdone : ∀ h₁ h' tk m' (I : Addr), J n m' h₁ → Fs g env.locals h₁ m' → (∀ b o, b ≠ I → h₁.get? b = some o → h'.get? b = some o) → (∃ o, h₁.get? I = some o ∧ o.cls = .type "range_iterator") → Fs g env.locals h' m' → R (.ok .next) { s with heap := h', toks := tk }) :
    wpAny (model prog w) A (call (.type "range") [.int (n : Nat) t]) (fun v s₁ => wpAny (model prog w) A (pyIter v) (fun it s₂ => codeAny (model prog w) A (.forLoop (.Name x px) it body [] env) R s₂) E s₁) E s := by
  refine call_range_1 ?_
  have l₁ : Lasts s.heap (s.heap.push { cls := .type "range", data := .fields #[.int 0 s.toks, .int n t, .int 1 (s.toks + 1)] }) := Lasts.push _ _
  refine wpAny_pyIter_range (IsRange.new ..) (small_one (by omega) (by omega) (by omega) (by omega)) ?_
  have l₂ := Lasts.push (s.heap.push { cls := .type "range", data := .fields #[.int 0 s.toks, .int n t, .int 1 (s.toks + 1)] }) { cls := .type "range_iterator", data := .fields #[rawInt 0, rawInt (Builtin.Range.rangeSize 0 n 1), rawInt 1] }
  have en : Builtin.Range.rangeSize 0 (n : Int) 1 = (n : Int) := by rw [rangeSize_one]; split <;> omega
  rw [en] at l₂ ⊢
  have F₂ := (F.ext l₁).ext l₂
  generalize hg₁ : (s.heap.push { cls := .type "range", data := .fields #[.int 0 s.toks, .int n t, .int 1 (s.toks + 1)] }) = g₁ at *
  have hit : IsRangeIter (g₁.push { cls := .type "range_iterator", data := .fields #[rawInt 0, rawInt (n : Int), rawInt 1] }) g₁.objs.size (0 + ((0 : Nat) : Int) * 1) ((n : Int) - ((0 : Nat) : Int)) 1 := by
    have := Heap.get?_push_size g₁ (o := { cls := .type "range_iterator", data := .fields #[rawInt 0, rawInt (n : Int), rawInt 1] }) rfl
    simpa using this
  have gI : g.get? g₁.objs.size = none := none_back (F.keep.trans l₁) (fresh_size _)
  generalize g₁.objs.size = I at hit gI
  have eL : env.locals ≠ I := fun q => by
    obtain ⟨o, es, ep, h1, h2, _⟩ := F₂.ns
    rw [q] at h1; cases h1.symm.trans hit; cases h2
  refine loop_walk (Walks.range hh I 0 1 n) hx hsk (by simpa using eL) (by intro b hb; simp at hb; rw [hb]; exact gI) hit F₂ (fun j m h => J j m h ∧ ∃ o, h.get? I = some o ∧ o.cls = .type "range_iterator") ⟨hJe _ _ _ h0 (l₁.trans l₂), _, hit, rfl⟩ ?_ ?_
  · rintro j v m₁ h₁ s₁ E' hj ⟨tk, rfl⟩ ⟨hJ, hI⟩ F₁ k₁ st F'
    have ej : (0 : Int) + (j : Int) * 1 = (j : Int) := by omega
    rw [ej] at F'
    refine wpAny_mono (turn j tk m₁ h₁ s₁ E' I eL hj hJ F₁ (fun b o b1 b2 e => k₁ b o b1 (by simpa using b2) e) hI ⟨_, st, rfl⟩ F') (fun f s₃ r => ?_) fun _ _ q => q
    obtain ⟨h₃, tk₃, m₃, rfl, rfl, k₃, F₃, hJ₃⟩ := r
    exact ⟨h₃, tk₃, m₃, rfl, rfl, fun b hb o e => by simp at hb; subst hb; exact k₃ o e, F₃, hJ₃, _, k₃ _ st, rfl⟩
  · rintro h₁ h' tk m' ⟨hJ, hI⟩ F₁ k₁ F'
    exact hdone h₁ h' tk m' I hJ F₁ (fun b o b1 e => k₁ b o (by simpa using b1) e) hI F'
end
end Mine
end

section
open PySem PySem.W PyProof.Rows PySem.Calls
set_option Elab.async false
set_option maxRecDepth 100000
namespace Mine

local macro_rules | `(tactic| walk_at "nml") => `(tactic| refine nm_local (by assumption) (by with_unfolding_all rfl) ?_ (by with_unfolding_all rfl) (by with_unfolding_all rfl) (by decide))
local macro_rules | `(tactic| walk_at "nma") => `(tactic| refine nm_local (by assumption) (by assumption) ?_ (by with_unfolding_all rfl) (by with_unfolding_all rfl) (by decide))
local macro_rules | `(tactic| walk_at "nmb") => `(tactic| refine nm_boot (by assumption) (by assumption) (by k_is) (by boot_by_name) (by decide) ?_ (by with_unfolding_all rfl) (by with_unfolding_all rfl) rfl rfl (by decide))
local macro_rules | `(tactic| walk_at "nmg") => `(tactic| (refine' nm_global (by assumption) (by assumption) ?k1 ?_ ?k2 ?k3 ?k4 ?k5; (case k1 => k_is); (case k2 => with_unfolding_all rfl); (case k3 => with_unfolding_all rfl); (case k4 => exact rfl); (case k5 => decide)))
local macro_rules | `(tactic| walk_at "ent") => `(tactic| ((case ho => k_is); (case hcd => k_is); (case hb => exact BindsTo.of_eq rfl); (case hl => exact locs rfl); (case c1 => exact rfl); (case c2 => exact rfl); (case c3 => exact rfl); (case c4 => decide)))
local macro_rules | `(tactic| walk_at "sts") => `(tactic| ((case a => with_unfolding_all rfl); (case b => with_unfolding_all rfl)))

theorem cpl_le : ∀ (xs ys : List Int), cpl xs ys ≤ min xs.length ys.length
  | x :: xs, y :: ys => by
    have := cpl_le xs ys
    unfold cpl; split <;> simp only [List.length_cons] <;> omega
  | [], ys => by simp [cpl]
  | _ :: _, [] => by simp [cpl]
theorem take_cpl : ∀ (xs ys : List Int) (j : Nat), j ≤ min xs.length ys.length → (xs.take j = ys.take j ↔ j ≤ cpl xs ys)
  | xs, ys, 0, _ => by simp
  | x :: xs, y :: ys, j + 1, h => by
    have := take_cpl xs ys j (by simp only [List.length_cons] at h; omega)
    simp only [List.take_succ_cons, List.cons.injEq]
    unfold cpl
    split
    · rename_i e; rw [this]; simp [e]
    · rename_i e; simp [e]
  | [], ys, j + 1, h => by simp at h
  | _ :: _, [], j + 1, h => by simp at h

theorem longest_spec (w : World) : ∀ (A : Around) (E : Value → Shared → Prop) (s : Shared) (k : Kd) (v1 v2 : Value) (xs ys : List Int) (Q : Value → Shared → Prop),
    Wd (hd.heap_39 w.params) s.heap → Amb A 8 → Row s.heap k v1 xs → Row s.heap k v2 ys → xs.length ≤ 1000 → ys.length ≤ 1000 →
    (∀ t h' tk, Lasts s.heap h' → Q (.int (cpl xs ys : Nat) t) { s with heap := h', toks := tk }) →
    wpAny (model PySem.Challenge.rw_ad6015_01.row.prog w) A (call (.ref 82) [v1, v2]) Q E s := by
  k_fill
  intro A E s k v1 v2 xs ys Q W hA R1 R2 hz1 hz2 hQ
  refine wpAny_call ?_
  refine' enter (binds := [(Str.ofString "first", v1), (Str.ofString "second", v2)]) W ?ho ?hcd (by have := hA.dep; omega) ?hb ?hl ?_ ?c1 ?c2 ?c3 ?c4
  walk_at "ent"
  intro h₁ F₁
  refine wpAny_execs_cons (wpAny_Assign_Name (wpAny_Constant_int ?_))
  refine' st_local F₁ (fun h₂ (F₂ : Fs s.heap s.heap.objs.size h₂ _) _ => ?_) ?a ?b
  walk_at "sts"
  refine wpAny_execs_cons (wpAny_For (Call_ ?_) (fun _ => rfl))
  walk_at "nmb"
  refine PyProof.Rows.callWith_type1 (spliced_more (wpAny_BinOp (Call_ ?_)))
  walk_at "nmb"
  refine PyProof.Rows.callWith_builtin1 (spliced_more (Call_ ?_))
  walk_at "nmb"
  refine PyProof.Rows.callWith_builtin1 (spliced_more ?_)
  walk_at "nml"
  refine spliced_none ?_
  refine row_len (R1.mono F₂.keep) hz1 fun t3 tk3 => ?_
  refine spliced_more (Call_ ?_)
  walk_at "nmb"
  refine PyProof.Rows.callWith_builtin1 (spliced_more ?_)
  walk_at "nml"
  refine spliced_none ?_
  refine row_len (R2.mono F₂.keep) hz2 fun t4 tk4 => ?_
  refine spliced_none ?_
  refine min_nat hA.hh fun t5 h₃ tk5 l₃ => ?_
  have F₃ : Fs s.heap s.heap.objs.size h₃ _ := F₂.ext l₃
  refine wpAny_Constant_int ?_
  refine add_int ?_
  refine spliced_none ?_
  refine loop_range (n := min xs.length ys.length + 1) hA.hh (by omega) (by with_unfolding_all rfl) (by with_unfolding_all rfl) F₃ (fun j m _ => m (Str.ofString "first") = some v1 ∧ m (Str.ofString "second") = some v2 ∧ ∃ t, m (Str.ofString "best") = some (.int ((min (j - 1) (cpl xs ys) : Nat) : Int) t))
    ⟨by with_unfolding_all rfl, by with_unfolding_all rfl, _, by simp only [Nat.zero_sub, Nat.zero_min]; with_unfolding_all rfl⟩ (fun _ _ _ a _ => a) ?_ ?_
  · intro j tk m₁ h₁ s₁ E' I eL hj hJ F k₁ hI hI' F'
    obtain ⟨e1, e2, t, e3⟩ := hJ
    obtain ⟨m₂, F₂', q1, q2, q3, q4⟩ : ∃ m₂, Fs s.heap s.heap.objs.size s₁.heap m₂ ∧ m₂ (Str.ofString "first") = some v1 ∧ m₂ (Str.ofString "second") = some v2 ∧ m₂ (Str.ofString "best") = some (.int ((min (j - 1) (cpl xs ys) : Nat) : Int) t) ∧ m₂ (Str.ofString "size") = some (.int (j : Nat) tk) :=
      ⟨_, F', by with_unfolding_all exact e1, by with_unfolding_all exact e2, by with_unfolding_all exact e3, by with_unfolding_all rfl⟩
    clear F'
    refine wpAny_execs_cons (wpAny_If (wpAny_isTrue_Compare1 (Call_ ?_)))
    walk_at "nmb"
    refine PyProof.Rows.callWith_type1 (spliced_more (Subscript_ ?_))
    walk_at "nma"
    refine wpAny_Slice (evalPart_none_step (evalPart_some_step ?_))
    walk_at "nma"
    refine evalPart_none_step ?_
    refine row_slice (R1.mono F₂'.keep) hz1 .none (.int j tk) (fun p1 h₄ tk₄ (l₄ : Lasts s₁.heap h₄) (P₄ : Row h₄ k p1 (xs.take j)) => ?_) (fun _ _ => rfl)
    refine spliced_none ?_
    refine row_list P₄ hA.hh (by rw [List.length_take]; omega) fun r1 h₅ tk₅ l₅ P1 => ?_
    have F₅ : Fs s.heap s.heap.objs.size h₅ _ := (F₂'.ext l₄).ext l₅
    refine Call_ ?_
    walk_at "nmb"
    refine PyProof.Rows.callWith_type1 (spliced_more (Subscript_ ?_))
    walk_at "nma"
    refine wpAny_Slice (evalPart_none_step (evalPart_some_step ?_))
    walk_at "nma"
    refine evalPart_none_step ?_
    refine row_slice (R2.mono F₅.keep) hz2 .none (.int j tk) (fun p2 h₆ tk₆ (l₆ : Lasts h₅ h₆) (P₆ : Row h₆ k p2 (ys.take j)) => ?_) (fun _ _ => rfl)
    refine spliced_none ?_
    refine row_list P₆ hA.hh (by rw [List.length_take]; omega) fun r2 h₇ tk₇ l₇ P2 => ?_
    have F₇ : Fs s.heap s.heap.objs.size h₇ _ := (F₅.ext l₆).ext l₇
    have l17 : Lasts s₁.heap h₇ := ((l₄.trans l₅).trans l₆).trans l₇
    refine row_eq ((P1.mono l₆).mono l₇) P2 (by have := hA.un; show A.units + 3 + 64 < cLine; omega) ?_
    refine wpAny_truthy_bool ?_
    have hjm : j ≤ min xs.length ys.length := by omega
    split
    · rename_i hc
      have hle : j ≤ cpl xs ys := (take_cpl xs ys j hjm).1 (by simpa using hc)
      refine wpAny_execs_cons (wpAny_Assign_Name ?_)
      walk_at "nma"
      refine' st_local F₇ (fun h₈ (F₈ : Fs s.heap s.heap.objs.size h₈ _) x₈ => ?_) ?a ?b
      walk_at "sts"
      refine wpAny_execs_nil (wpAny_execs_nil ⟨_, _, _, rfl, rfl, fun o e => ?_, F₈, by with_unfolding_all exact q1, by with_unfolding_all exact q2, tk, ?_⟩)
      · exact x₈ _ _ (Ne.symm eL) (l17 _ _ e)
      · have : min (j + 1 - 1) (cpl xs ys) = j := by omega
        rw [this]; with_unfolding_all rfl
    · rename_i hc
      have hle : ¬ j ≤ cpl xs ys := fun h => hc (by simpa using (take_cpl xs ys j hjm).2 h)
      refine wpAny_execs_nil (wpAny_execs_nil ⟨_, _, _, rfl, rfl, fun o e => l17 _ _ e, F₇, q1, q2, t, ?_⟩)
      have : min (j + 1 - 1) (cpl xs ys) = min (j - 1) (cpl xs ys) := by omega
      rw [this]; exact q3
  · rintro h₁ h' tk m' I ⟨e1, e2, t, e3⟩ F k₁ hI F'
    have : min (min xs.length ys.length + 1 - 1) (cpl xs ys) = cpl xs ys := by have := cpl_le xs ys; omega
    rw [this] at e3
    refine wpAny_execs_cons (wpAny_Return_some ?_)
    walk_at "nma"
    exact hQ _ _ _ F'.keep
end Mine
end

section
open PySem PySem.W PyProof.Rows PySem.Calls
set_option Elab.async false
set_option maxRecDepth 100000
namespace Mine

local macro_rules | `(tactic| walk_at "nml") => `(tactic| refine nm_local (by assumption) (by with_unfolding_all rfl) ?_ (by with_unfolding_all rfl) (by with_unfolding_all rfl) (by decide))
local macro_rules | `(tactic| walk_at "nma") => `(tactic| refine nm_local (by assumption) (by assumption) ?_ (by with_unfolding_all rfl) (by with_unfolding_all rfl) (by decide))
local macro_rules | `(tactic| walk_at "nmb") => `(tactic| refine nm_boot (by assumption) (by assumption) (by k_is) (by boot_by_name) (by decide) ?_ (by with_unfolding_all rfl) (by with_unfolding_all rfl) rfl rfl (by decide))
local macro_rules | `(tactic| walk_at "nmg") => `(tactic| (refine' nm_global (by assumption) (by assumption) ?k1 ?_ ?k2 ?k3 ?k4 ?k5; (case k1 => k_is); (case k2 => with_unfolding_all rfl); (case k3 => with_unfolding_all rfl); (case k4 => exact rfl); (case k5 => decide)))
local macro_rules | `(tactic| walk_at "ent") => `(tactic| ((case ho => k_is); (case hcd => k_is); (case hb => exact BindsTo.of_eq rfl); (case hl => exact locs rfl); (case c1 => exact rfl); (case c2 => exact rfl); (case c3 => exact rfl); (case c4 => decide)))
local macro_rules | `(tactic| walk_at "sts") => `(tactic| ((case a => with_unfolding_all rfl); (case b => with_unfolding_all rfl)))

section
variable {prog : Program} {w : World} {A : Around} {E : Value → Shared → Prop} {s : Shared} {env : Env} {m : Str → Option Value} {g : Heap} {L : Addr} {x : Str} {pos : Pos} {v : Value} {M : Model} {K : Frag}

theorem nm_cell {Q : Value → Shared → Prop} {c : Addr} (F : Fs g L s.heap m) (hc : env.cells.lookup x = some c) (hv : g.IsCell c (some v)) (h : Q v s) (hk : env.scope.kind = .function) (hl : env.kindOf x = some .cell)
    (hd : (x == ("__debug__" : Str)) = false) : wpAny M A (eval (.Name x pos) env) Q E s :=
  wpAny_Name (wpAny_loadName_cell hk hl hc (hv.keeps F.keep) h) hd
theorem nm_free {Q : Value → Shared → Prop} {c : Addr} (F : Fs g L s.heap m) (hc : env.cells.lookup x = some c) (hv : g.IsCell c (some v)) (h : Q v s) (hk : env.scope.kind = .function) (hl : env.kindOf x = some .free)
    (hn : (x == ("__classdict__" : Str)) = false) (hd : (x == ("__debug__" : Str)) = false) : wpAny M A (eval (.Name x pos) env) Q E s :=
  wpAny_Name (wpAny_loadName_free hk hl hc (hv.keeps F.keep) h hn) hd

theorem paired_self {α : Type} {l₁ l₂ : List α} (h : Paired (fun v y => y = v) l₁ l₂) : l₂ = l₁ := by
  induction h with
  | nil => rfl
  | cons e _ ih => rw [e, ih]
theorem ints_of {l : List Value} (h : ∀ v ∈ l, ∃ i t, v = .int i t) : ∃ ns, IntsAre l ns := by
  induction l with
  | nil => exact ⟨[], .nil⟩
  | cons v r ih =>
    obtain ⟨ns, hn⟩ := ih fun u hu => h u (List.mem_cons_of_mem _ hu)
    obtain ⟨i, t, rfl⟩ := h v List.mem_cons_self
    exact ⟨i :: ns, .cons i t hn⟩

/-- a def of the text with cells is entered -/
theorem enterC {R : Result → Shared → Prop} {name qual : Str} {params : Arguments} {body : List Stmt} {scope : Scope} {dV kV doc pm cdv ct oc : Value} {an od : Option Addr} {osl : Array (Option Value)} {f : Addr} {vals : List Value} {binds : List (Str × Value)}
    (W : Wd K s.heap) (ho : K.lookup f = some ⟨oc, od, .func (fnOf name qual params body scope dV kV doc pm an cdv ct), osl⟩) (hcd : codeIn K cdv qual = true) (hroom : A.depth < recursionLimit)
    (hbind : bindArgs (fnOf name qual params body scope dV kV doc pm an cdv ct) ⟨vals, []⟩ = pure binds)
    (hkind : ∀ x ∈ binds, scope.names.lookup x.1 = some .local ∨ (scope.names.lookup x.1 = some .cell ∧ ((cellsFrom (s.heap.objs.size + 1) scope.names []).lookup x.1).isSome = true))
    (h : ∀ g h₁ tk, Lasts s.heap g → Fs g s.heap.objs.size h₁ (bindL (envOfC qual scope s.heap.objs.size f cdv).kindOf binds fun _ => none) →
      (∀ n c, (cellsFrom (s.heap.objs.size + 1) scope.names []).lookup n = some c → g.IsCell c (bindC (envOfC qual scope s.heap.objs.size f cdv).kindOf binds (fun _ => none) n)) →
      wpAny (model prog w) (A.deeper (envOfC qual scope s.heap.objs.size f cdv)) (execs body (envOfC qual scope s.heap.objs.size f cdv))
        (fun fl s' => R (.ok (.ret (match fl with | .ret v => v | _ => .none))) s')
        (fun e s' => wpAny (model prog w) (A.deeper (envOfC qual scope s.heap.objs.size f cdv)) (leaving (envOfC qual scope s.heap.objs.size f cdv) e) (fun _ s'' => R (.error e) s'') (fun e' s'' => R (.error e') s'') s')
        { s with heap := h₁, toks := tk })
    (hco : scope.isCoroutine = false) (hgen : scope.isGenerator = false) (hk : scope.kind = .function) : codeAny (model prog w) A (.call (.ref f) ⟨vals, []⟩) R s := by
  refine codeAny_call_cells (fd := fnOf name qual params body scope dV kV doc pm an cdv ct) (body := body) (binds := binds) hroom (W.K _ _ ho) rfl W.lim (codeRec_of W.K hcd) rfl hbind rfl hkind (fun s₁ x => ?_) hco hgen hk
  obtain ⟨⟨⟨h₁, tk, rfl⟩, n, k, fr⟩, cl, ap, ab⟩ := x
  have F₁ : Fs s.heap s.heap.objs.size h₁ _ := ⟨n, k, fresh_size _⟩
  exact h (h₁.hide s.heap.objs.size) h₁ tk F₁.lasts F₁.grow fun n c e => by
    obtain ⟨o, ho, hd⟩ := cl n c e
    exact ⟨o, (Heap.hide_ne h₁ (Nat.ne_of_gt (ab n c (mem_of_lookup e)))).trans ho, hd⟩
end
theorem walks_lt {prog : Program} {w : World} {A : Around} {I : Addr} {fp wr : List Addr} {n : Nat} {P : Nat → Value → Prop} {St : Nat → Heap → Prop} (W : Walks prog w A I fp wr n P St) : Walks prog w A I fp wr n (fun i v => i < n ∧ P i v) St :=
  ⟨W.sub, W.frame, fun i s Q E hi hs h => W.item i s Q E hi hs fun v h' tk p a b => h v h' tk ⟨hi, p⟩ a b, W.done, W.self⟩

local macro_rules | `(tactic| walk_at "nmc") => `(tactic| refine nm_cell (by assumption) (by with_unfolding_all rfl) (by assumption) ?_ (by with_unfolding_all rfl) (by with_unfolding_all rfl) (by decide))

theorem begins_spec (w : World) : ∀ (A : Around) (E : Value → Shared → Prop) (s : Shared) (k : Kd) (v1 v2 : Value) (xs ys : List Int) (Q : Value → Shared → Prop),
    Wd (hd.heap_39 w.params) s.heap → Amb A 8 → Row s.heap k v1 xs → Row s.heap k v2 ys → xs.length ≤ 1000 → ys.length ≤ 1000 →
    (∀ h' tk, Lasts s.heap h' → Q (.bool (decide (xs.take ys.length = ys))) { s with heap := h', toks := tk }) →
    wpAny (model PySem.Challenge.rw_ad6015_01.row.prog w) A (call (.ref 87) [v1, v2]) Q E s := by
  k_fill
  intro A E s k v1 v2 xs ys Q W hA R1 R2 hz1 hz2 hQ
  refine wpAny_call ?_
  refine' enterC (binds := [(Str.ofString "full", v1), (Str.ofString "part", v2)]) W ?ho ?hcd (by have := hA.dep; omega) ?hb ?hl ?_ ?c1 ?c2 ?c3
  case ho => k_is
  case hcd => k_is
  case hl => 
    intro x hx
    simp only [List.mem_cons, List.not_mem_nil, or_false] at hx
    rcases hx with rfl | rfl <;> first | exact .inl rfl | exact .inr ⟨rfl, rfl⟩
  case hb => exact rfl
  case c1 => exact rfl
  case c2 => exact rfl
  case c3 => exact rfl
  intro g h₁ tk l₁ F₁ C
  have C1 : g.IsCell _ (some v1) := C (Str.ofString "full") _ (by with_unfolding_all rfl)
  have C2 : g.IsCell _ (some v2) := C (Str.ofString "part") _ (by with_unfolding_all rfl)
  replace W := W.mono l₁
  replace R1 := R1.mono l₁
  replace R2 := R2.mono l₁
  refine wpAny_execs_cons (wpAny_If (wpAny_isTrue_Compare1 (Call_ ?_)))
  walk_at "nmb"
  refine PyProof.Rows.callWith_builtin1 (spliced_more ?_)
  walk_at "nmc"
  refine spliced_none ?_
  refine row_len (R2.mono F₁.keep) hz2 fun t1 tk1 => ?_
  refine Call_ ?_
  walk_at "nmb"
  refine PyProof.Rows.callWith_builtin1 (spliced_more ?_)
  walk_at "nmc"
  refine spliced_none ?_
  refine row_len (R1.mono F₁.keep) hz1 fun t2 tk2 => ?_
  refine PyProof.Rows.gt_int ?_
  refine wpAny_truthy_bool ?_
  split
  · rename_i hc
    have hlt : xs.length < ys.length := by simpa using hc
    have e : decide (xs.take ys.length = ys) = false := decide_eq_false fun q => by have := congrArg List.length q; rw [List.length_take] at this; omega
    rw [e] at hQ
    refine wpAny_execs_cons (wpAny_Return_some (fun _ _ _ => ?_))
    exact hQ _ _ (l₁.trans F₁.keep)
  rename_i hc
  have hle : ys.length ≤ xs.length := by simpa using hc
  refine wpAny_execs_nil (wpAny_execs_cons (wpAny_Return_some (wpAny_Compare1 ?_)))
  refine wpAny_ListComp_free (fun v => match v with | .int i _ => decide (xs[i.toNat]? ≠ ys[i.toNat]?) | _ => false) (fun v y => y = v) (by with_unfolding_all rfl) (by decide) rfl (by decide) rfl ?_ (fun _ => rfl)
  refine Call_ ?_
  walk_at "nmb"
  refine PyProof.Rows.callWith_type1 (spliced_more (Call_ ?_))
  walk_at "nmb"
  refine PyProof.Rows.callWith_builtin1 (spliced_more ?_)
  walk_at "nmc"
  refine spliced_none ?_
  refine row_len (R2.mono F₁.keep) hz2 fun t3 tk3 => ?_
  refine spliced_none ?_
  refine call_range_1 ?_
  refine wpAny_pyIter_range (IsRange.new ..) (small_one (by omega) (by omega) (by omega) (by omega)) ?_
  have en : Builtin.Range.rangeSize 0 (ys.length : Int) 1 = (ys.length : Int) := by rw [rangeSize_one]; split <;> omega
  rw [en]
  generalize hg₁ : (h₁.push { cls := .type "range", data := .fields #[.int 0 tk3, .int (ys.length : Nat) t3, .int 1 (tk3 + 1)] }) = g₁ at *
  have l₂ : Lasts h₁ g₁ := hg₁ ▸ Lasts.push _ _
  have gI : g.get? g₁.objs.size = none := none_back (F₁.keep.trans l₂) (fresh_size _)
  have hit : IsRangeIter (g₁.push { cls := .type "range_iterator", data := .fields #[rawInt 0, rawInt (ys.length : Int), rawInt 1] }) g₁.objs.size (0 + ((0 : Nat) : Int) * 1) ((ys.length : Int) - ((0 : Nat) : Int)) 1 := by
    have := Heap.get?_push_size g₁ (o := { cls := .type "range_iterator", data := .fields #[rawInt 0, rawInt (ys.length : Int), rawInt 1] }) rfl
    simpa using this
  have l₃ : Lasts g₁ (g₁.push { cls := .type "range_iterator", data := .fields #[rawInt 0, rawInt (ys.length : Int), rawInt 1] }) := Lasts.push _ _
  refine ⟨g₁.objs.size, [g₁.objs.size], [g₁.objs.size], ys.length, fun i v => i < ys.length ∧ ∃ t, v = .int (0 + i * 1) t, fun i h => IsRangeIter h g₁.objs.size (0 + (i : Nat) * 1) ((ys.length : Int) - (i : Nat)) 1, rfl, walks_lt (Walks.range (by exact hA.hh) _ 0 1 ys.length), by rw [sizeLine_eq]; omega, by exact hit, ?_, ⟨?_, ?_⟩, ?_⟩
  · intro b hb; simp at hb; rw [hb]; show _ < (g₁.push _).objs.size; rw [Heap.size_push]; omega
  · rintro c i v s₃ m₃ E' hc ⟨hi, ti, rfl⟩ hn hm hk htk
    rw [show (0 + (i : Int) * 1) = ((i : Nat) : Int) by omega] at hm ⊢
    rw [List.forIn_cons]
    refine wpAny_bind (if_so rfl (wpAny_bind (wpAny_isTrue_Compare1 (Subscript_ ?_))))
    have F₃ : Fs g c s₃.heap m₃ := ⟨hn, fun b o e => hk b o (by intro hb; simp at hb; rw [hb, gI] at e; cases e) (l₃ _ _ (l₂ _ _ (F₁.keep _ _ e))), by
      cases e : g.get? c with
      | none => rfl
      | some o => have h1 := Heap.lt_size (l₃ _ _ (l₂ _ _ (F₁.keep _ _ e))); exact absurd hc (Nat.not_le.mpr h1)⟩
    have ex : xs[i]? = some xs[i] := List.getElem?_eq_getElem (by omega)
    have ey : ys[i]? = some ys[i] := List.getElem?_eq_getElem (by omega)
    walk_at "nmc"
    refine wpAny_Name (wpAny_loadName_local (by with_unfolding_all rfl) (by with_unfolding_all rfl) hn hm ?_) (by decide)
    refine row_item (R1.mono F₃.keep) hz1 ex (fun t4 tk4 => ?_) (fun _ _ => rfl)
    refine Subscript_ ?_
    walk_at "nmc"
    refine wpAny_Name (wpAny_loadName_local (by with_unfolding_all rfl) (by with_unfolding_all rfl) hn hm ?_) (by decide)
    refine row_item (R2.mono F₃.keep) hz2 ey (fun t5 tk5 => ?_) (fun _ _ => rfl)
    refine ne_int ?_
    refine wpAny_truthy_bool ?_
    refine wpAny_pure ?_
    refine wpAny_pure ⟨?_, s₃.heap, _, rfl, Lasts.refl _⟩
    show (xs[i] != ys[i]) = decide (xs[((i : Nat) : Int).toNat]? ≠ ys[((i : Nat) : Int).toNat]?)
    rw [Int.toNat_natCast, ex, ey]
    by_cases h : xs[i] = ys[i] <;> simp [h]
  · rintro c i v s₃ m₃ E' hc ⟨hi, ti, rfl⟩ hpv hn hm hk htk
    refine wpAny_Name (wpAny_loadName_local (by with_unfolding_all rfl) (by with_unfolding_all rfl) hn hm ?_) (by decide)
    exact ⟨rfl, s₃.heap, s₃.toks, rfl, Lasts.refl _⟩
  · intro D h' tk' zs vs hD hl hpl hlen hP hF hk
    have ez := paired_self hF
    obtain ⟨ns, hi⟩ := ints_of (l := zs.toList) (by
      intro v hv; rw [ez] at hv
      obtain ⟨j, hj⟩ := List.getElem?_of_mem (List.mem_filter.mp hv).1
      obtain ⟨_, t, e⟩ := hP j v hj
      exact ⟨_, t, e⟩)
    have RD : Row h' .lst (.ref D) ns := ⟨D, zs.toList, rfl, by simpa using hl, hi⟩
    refine wpAny_List (spliced_none ⟨by simp, ?_⟩)
    refine row_eq (k := .lst) (ys := []) (RD.mono (Lasts.push _ _)) ⟨_, [], rfl, ⟨_, Heap.get?_push_size _ rfl, rfl, 0, rfl⟩, .nil⟩ (by have := hA.un; show A.units + 3 + 64 < cLine; omega) ?_
    have key : decide (ns = []) = decide (xs.take ys.length = ys) := by
      refine decide_eq_decide.mpr ?_
      have h1 : ns = [] ↔ zs.toList = [] := by rw [← List.length_eq_zero_iff, ← hi.length, List.length_eq_zero_iff]
      rw [h1, ez, List.filter_eq_nil_iff]
      constructor
      · intro hall
        apply List.ext_getElem?
        intro i
        rw [List.getElem?_take]
        split
        · rename_i hi
          obtain ⟨_, t, e⟩ := hP i vs[i] (List.getElem?_eq_getElem (by omega))
          have := hall vs[i] (List.getElem_mem _)
          rw [e] at this
          have e2 : ((0 : Int) + (i : Int) * 1).toNat = i := by omega
          simpa [e2] using this
        · exact (List.getElem?_eq_none (by omega)).symm
      · intro hx v hv
        obtain ⟨j, hj⟩ := List.getElem?_of_mem hv
        obtain ⟨hj', t, rfl⟩ := hP j v hj
        have e2 : ((0 : Int) + (j : Int) * 1).toNat = j := by omega
        have : (xs.take ys.length)[j]? = ys[j]? := by rw [hx]
        rw [List.getElem?_take, if_pos hj'] at this
        simp [this]
    rw [key]
    refine hQ _ _ (Lasts.trans (Lasts.trans (l₁.trans F₁.keep) ?_) (Lasts.push _ _))
    intro b o e
    have e2 := l₂ _ _ e
    exact hk b o (by intro hb; simp at hb; rw [hb] at e2; cases (fresh_size g₁).symm.trans e2) (l₃ _ _ e2)
end Mine
end

section
open PySem PySem.W PyProof.Rows PySem.Calls
set_option Elab.async false
set_option maxRecDepth 100000
namespace Mine

/-- the code object c, its table P with the entries ps -/
structure Tab (h : Heap) (c P : Addr) (ps : Array Value) : Prop where
  code : h.IsCode c P ps
  obj : h.get? P = some { cls := .none, data := .fields ps }
theorem Tab.mono {g h : Heap} {c P : Addr} {ps : Array Value} (T : Tab g c P ps) (l : Lasts g h) : Tab h c P ps := ⟨T.code.keeps l, l _ _ T.obj⟩
theorem Tab.store {h h' : Heap} {c P L : Addr} {ps : Array Value} {m : Str → Option Value} (T : Tab h c P ps) (n : h.Ns L m) (x : Heap.ExtBut L h h') : Tab h' c P ps := by
  obtain ⟨o, es, ep, h1, h2, _⟩ := n
  have hP : P ≠ L := by rintro rfl; have := T.obj; rw [h1] at this; cases this; cases h2
  have hc : c ≠ L := by
    rintro rfl
    obtain ⟨o', vs, _, _, _, _, _, _, _, _, e, hd, _⟩ := T.code
    rw [h1] at e; cases e; rw [h2] at hd; cases hd
  exact ⟨T.code.extBut x hc hP, x _ _ hP T.obj⟩

section
variable {M : Model} {prog : Program} {w : World} {A : Around} {E : Value → Shared → Prop} {s : Shared} {k : Kd} {v v1 v2 : Value} {ns xs ys : List Int}
theorem genexpr_code {env : Env} {c P : Addr} {ps : Array Value} {pos : Pos} {qualname : Str} {scope : Scope} {Q : Value → Shared → Prop} (hc : env.code = .ref c) (T : Tab s.heap c P ps)
    (hQ : ∀ code h' tk more, Heap.ExtBut P s.heap h' → Tab h' c P (ps ++ more) → Q code { s with heap := h', toks := tk }) :
    wpAny M A (genexprCode env pos qualname scope) Q E s := by
  obtain ⟨hok, hobj⟩ := T
  obtain ⟨o, vs, file, tf, flags, tg, inF, text, tt, op, ho, hd, h11, h2, h7, h9, h10, hop, hpd, htr, hne⟩ := id hok
  have eop : op = { cls := .none, data := .fields ps } := by rw [hobj] at hop; cases hop; rfl
  unfold genexprCode codeAt
  rw [hc, if_neg (show ¬ ((Value.ref c == Value.none) = true) from Bool.false_ne_true)]
  refine wpAny_bind (wpAny_fieldsOf ho hd ?_)
  rw [h11]
  refine wpAny_bind (wpAny_fieldsOf hop hpd ?_)
  cases hnf : codeAmong pos ps.toList with
  | some cv => exact wpAny_pure (hQ cv s.heap s.toks #[] (Heap.ExtBut.refl _ _) (by simpa using ⟨hok, hobj⟩))
  | none =>
    rw [h2, h7, h9, h10]
    refine wpAny_bind (wpAny_newCode fun c' P' h' tk hk hc' hP' hcode' hrec' => ?_)
    have hop' := hk _ _ hop
    refine wpAny_bind (wpAny_updateFieldsOfTheText hop' hpd ?_)
    have hnew : (Obj.mapFields (fun vs => if (codeAmong pos vs.toList).isSome = true then vs else vs ++ #[rawInt pos.line, rawInt pos.col, .ref c']) op) =
        { cls := .none, data := .fields (ps ++ #[rawInt pos.line, rawInt pos.col, .ref c']) } := by
      rw [eop]; simp [Obj.mapFields, hnf]
    have hget := Heap.get?_update_self (h := h') (fun o => Obj.mapFields (fun vs => if (codeAmong pos vs.toList).isSome = true then vs else
      vs ++ #[rawInt pos.line, rawInt pos.col, .ref c']) o) hop' (by rw [hnew]; rfl)
    rw [hnew] at hget
    refine wpAny_bind (wpAny_fieldsOf hget rfl ?_)
    have hl : (ps ++ #[rawInt pos.line, rawInt pos.col, Value.ref c']).toList = ps.toList ++ [rawInt pos.line, rawInt pos.col, .ref c'] := by simp
    rw [hl, codeAmong_snoc _ htr hnf]
    refine wpAny_pure (hQ _ _ _ #[rawInt pos.line, rawInt pos.col, .ref c'] (fun b o' hb e => ((Heap.SameBut.update ..).extBut b o' hb (hk b o' e))) ⟨?_, hget⟩)
    exact ⟨o, vs, file, tf, flags, tg, inF, text, tt, _, (Heap.SameBut.update ..).extBut _ _ hne (hk _ _ ho), hd, h11, h2, h7, h9, h10, hget, rfl,
      by rw [hl]; exact TriplesOk_snoc _ _ _ _ htr, hne⟩

def refs : Value → List Addr
  | .ref a => [a]
  | _ => []
theorem Row.at {g h : Heap} (R : Row g k v ns) (l : ∀ a ∈ refs v, ∀ o, g.get? a = some o → h.get? a = some o) : Row h k v ns := by
  cases k with
  | tup => obtain ⟨a, vs, rfl, ⟨o, ho, r⟩, hi⟩ := R; exact ⟨a, vs, rfl, ⟨o, l _ (by simp [refs]) _ ho, r⟩, hi⟩
  | lst => obtain ⟨a, vs, rfl, ⟨o, ho, r⟩, hi⟩ := R; exact ⟨a, vs, rfl, ⟨o, l _ (by simp [refs]) _ ho, r⟩, hi⟩
  | byt => exact R
theorem Row.lt {h : Heap} (R : Row h k v ns) : ∀ a ∈ refs v, a < h.objs.size := by
  cases k with
  | tup => obtain ⟨a, vs, rfl, ⟨o, ho, r⟩, hi⟩ := R; intro b hb; simp [refs] at hb; rw [hb]; exact Heap.lt_size ho
  | lst => obtain ⟨a, vs, rfl, ⟨o, ho, r⟩, hi⟩ := R; intro b hb; simp [refs] at hb; rw [hb]; exact Heap.lt_size ho
  | byt => obtain ⟨b, t, rfl, hi⟩ := R; intro b hb; simp [refs] at hb

variable {z TI TO I1 I2 : Addr}
theorem ZAt.but {g h : Heap} {f0 f1 g0 g1 : Value} {j : Nat} (Z : ZAt g z TI TO I1 I2 k v1 v2 xs ys f0 f1 j) (e : h.get? z = some (zipObj g0 g1 TI TO)) (l : Heap.ExtBut z g h) : ZAt h z TI TO I1 I2 k v1 v2 xs ys g0 g1 j := by
  obtain ⟨hz, hTI, ⟨a, b, hTO⟩, h1, h2, R1, R2, n1, n2, D⟩ := Z
  have zc : (zipObj f0 f1 TI TO).cls ≠ .type "list" ∧ (zipObj f0 f1 TI TO).cls ≠ .type "tuple" := ⟨by simp, by simp⟩
  exact ⟨e, l _ _ D.a1 hTI, ⟨a, b, l _ _ D.a2 hTO⟩, h1.at fun o q => l _ _ D.a3 q, h2.at fun o q => l _ _ D.a4 q, R1.but hz zc l, R2.but hz zc l, n1, n2, D⟩

theorem zip_walks (hh : A.handled = none) : WalksU prog w A z (z :: TI :: TO :: I1 :: I2 :: (refs v1 ++ refs v2)) [z, TO, I1, I2] (min xs.length ys.length)
      (fun i vals => ∃ x y t1 t2, xs[i]? = some x ∧ ys[i]? = some y ∧ vals = #[.int x t1, .int y t2])
      (fun i h => ZAt h z TI TO I1 I2 k v1 v2 xs ys .none (.bool false) i)
      (fun i T h => ZAt h z TI TO I1 I2 k v1 v2 xs ys (rawInt T) (.bool false) (i + 1) ∧ T ≠ z ∧ T ≠ TO ∧ T ≠ I1 ∧ T ≠ I2) where
  sub := fun c hc => by simp at hc ⊢; rcases hc with rfl | rfl | rfl | rfl <;> simp
  frame := fun i h h' Z hk => by
    obtain ⟨hz, hTI, ⟨a, b, hTO⟩, h1, h2, R1, R2, n1, n2, D⟩ := Z
    exact ⟨hk z (by simp) _ hz, hk TI (by simp) _ hTI, ⟨a, b, hk TO (by simp) _ hTO⟩, h1.at fun o e => hk I1 (by simp) o e, h2.at fun o e => hk I2 (by simp) o e,
      R1.at fun a ha o e => hk a (by simp [ha]) o e, R2.at fun a ha o e => hk a (by simp [ha]) o e, n1, n2, D⟩
  item := fun i s Q E hi Z hQ => by
    have hx : xs[i]? = some xs[i] := List.getElem?_eq_getElem (by omega)
    have hy : ys[i]? = some ys[i] := List.getElem?_eq_getElem (by omega)
    have hT : s.TypeIs (.ref z) "zip" := ⟨_, Z.zo, rfl⟩
    have lt : ∀ {c o}, s.heap.get? c = some o → s.heap.objs.size ≠ c := fun e => Nat.ne_of_gt (Heap.lt_size e)
    obtain ⟨oI1, hoI1, _⟩ := Z.r1.has
    obtain ⟨oI2, hoI2, _⟩ := Z.r2.has
    obtain ⟨ta, tb, hTO⟩ := Z.to
    unfold pyNext
    refine wpAny_bind (wpAny_attempt (wpAny_callSpecial?_slot (name := Str.ofString "__next__") hT F.slot_zip_next
      (wpAny_call_entry F.slot_zip_next hT F.entry_zip_next (zip_next_free Z hx hy fun t1 t2 h' tk Z' P' k' => ?_) (F.args_zip_next_1 _))))
    exact wpAny_pure (hQ s.heap.objs.size #[.int xs[i] t1, .int ys[i] t2] h' tk ⟨_, _, t1, t2, hx, hy, rfl⟩ ⟨_, P', rfl, _, rfl⟩ ⟨Z', lt Z.zo, lt hTO, lt hoI1, lt hoI2⟩
      fun c o hc e => k' c o (fun x => hc (by simp [x])) (fun x => hc (by simp [x])) (fun x => hc (by simp [x])) (fun x => hc (by simp [x])) e)
  go := fun elts kk pos i T s Q E hm hQ => by
    obtain ⟨Z, _⟩ := hm
    refine wpAny_letOwnedTupleGo_zip Z.zo fun h' hz' hs' => hQ h' (Z.but hz' hs'.extBut) fun c o hc e => hs'.extBut _ _ (fun x => hc (by simp [x])) e
  apart := fun i T h hm hT => by
    obtain ⟨_, t1, t2, t3, t4⟩ := hm
    simp at hT
    rcases hT with rfl | rfl | rfl | rfl
    · exact t1 rfl
    · exact t2 rfl
    · exact t3 rfl
    · exact t4 rfl
  done := fun s Q E Z hQ => by
    have hend : xs[min xs.length ys.length]? = none ∨ ys[min xs.length ys.length]? = none := by
      rcases Nat.le_total xs.length ys.length with h | h
      · exact .inl (List.getElem?_eq_none (by omega))
      · exact .inr (List.getElem?_eq_none (by omega))
    have hT : s.TypeIs (.ref z) "zip" := ⟨_, Z.zo, rfl⟩
    unfold pyNext
    refine wpAny_bind (wpAny_attempt (wpAny_callSpecial?_slot (name := Str.ofString "__next__") hT F.slot_zip_next
      (wpAny_call_entry F.slot_zip_next hT F.entry_zip_next (zip_next_end hh Z (.inl rfl) hend fun h' e tk k' hx' => ?_) (F.args_zip_next_1 _))))
    obtain ⟨o, ho, hc⟩ := hx'
    refine wpAny_bind (wpAny_isInstance (T := "StopIteration") (b := true) ⟨o, ho, hc⟩ isSubtype_stop ?_)
    exact wpAny_pure (hQ h' tk fun c o hc e => k' c o (fun x => hc (by simp [x])) (fun x => hc (by simp [x])) (fun x => hc (by simp [x])) (fun x => hc (by simp [x])) e)
  self := fun i s Q E Z hQ => wpAny_pyIter_zip Z.zo hQ
end
end Mine
end

section
open PySem PySem.W PyProof.Rows PySem.Calls
set_option Elab.async false
set_option maxRecDepth 100000
namespace Mine

local macro_rules | `(tactic| walk_at "nml") => `(tactic| refine nm_local (by assumption) (by with_unfolding_all rfl) ?_ (by with_unfolding_all rfl) (by with_unfolding_all rfl) (by decide))
local macro_rules | `(tactic| walk_at "nma") => `(tactic| refine nm_local (by assumption) (by assumption) ?_ (by with_unfolding_all rfl) (by with_unfolding_all rfl) (by decide))
local macro_rules | `(tactic| walk_at "nmb") => `(tactic| refine nm_boot (by assumption) (by assumption) (by k_is) (by boot_by_name) (by decide) ?_ (by with_unfolding_all rfl) (by with_unfolding_all rfl) rfl rfl (by decide))
local macro_rules | `(tactic| walk_at "nmg") => `(tactic| (refine' nm_global (by assumption) (by assumption) ?k1 ?_ ?k2 ?k3 ?k4 ?k5; (case k1 => k_is); (case k2 => with_unfolding_all rfl); (case k3 => with_unfolding_all rfl); (case k4 => exact rfl); (case k5 => decide)))
local macro_rules | `(tactic| walk_at "ent") => `(tactic| ((case ho => k_is); (case hcd => k_is); (case hb => exact BindsTo.of_eq rfl); (case hl => exact locs rfl); (case c1 => exact rfl); (case c2 => exact rfl); (case c3 => exact rfl); (case c4 => decide)))
local macro_rules | `(tactic| walk_at "sts") => `(tactic| ((case a => with_unfolding_all rfl); (case b => with_unfolding_all rfl)))

theorem ext_none {g h : Heap} (l : Lasts g h) {P : Addr} : Heap.ExtBut P g h := fun b o _ e => l b o e
theorem Wd.but {K : Frag} {g h : Heap} {P : Addr} (W : Wd K g) (x : Heap.ExtBut P g h) (hK : K.lookup P = none) (h1 : mainGlobals ≠ P) (h2 : builtinsNs ≠ P) (h3 : cStatics ≠ P) : Wd K h := by
  obtain ⟨KI, ⟨mg, mb, a, b, c⟩, ⟨mc, n1, n2⟩⟩ := W
  refine ⟨fun q o e => x _ _ (fun hq => ?_) (KI q o e), ⟨mg, mb, a.extBut x h1, b.extBut x h2, c⟩, ⟨mc, n1.extBut x h3, n2⟩⟩
  rw [hq, hK] at e; cases e

theorem pass_all (n : Nat) : passing (fun _ => true) n 0 = List.range n := by
  unfold passing; rw [List.drop_zero]; exact List.filter_eq_self.mpr fun _ _ => rfl
theorem range_at {n i j : Nat} (h : (List.range n)[j]? = some i) : i = j ∧ j < n := by
  obtain ⟨a, b⟩ := List.getElem?_eq_some_iff.mp h
  simp at a b
  exact ⟨b.symm, a⟩
theorem ZAt.ext2 {g h : Heap} {z TI TO I1 I2 P : Addr} {k : Kd} {v1 v2 : Value} {xs ys : List Int} {f0 f1 : Value} {j : Nat} {oP : Obj} (Z : ZAt g z TI TO I1 I2 k v1 v2 xs ys f0 f1 j) (x : Heap.ExtBut P g h) (eP : g.get? P = some oP) (cP : oP.cls = .none) :
    ZAt h z TI TO I1 I2 k v1 v2 xs ys f0 f1 j := by
  obtain ⟨hz, hTI, ⟨a, b, hTO⟩, h1, h2, R1, R2, n1, n2, D⟩ := Z
  have ne : ∀ {b o}, g.get? b = some o → o.cls ≠ .none → b ≠ P := fun e hc q => by rw [q, eP] at e; cases e; exact hc cP
  have row : ∀ {v ns}, Row g k v ns → Row h k v ns := fun R => R.but eP ⟨by rw [cP]; simp, by rw [cP]; simp⟩ x
  have it : ∀ {I v}, RowIt g I k v j → RowIt h I k v j := fun {I v} R => R.at fun o e => by
    refine x _ _ (ne e ?_) e
    cases k with
    | tup => obtain ⟨_, _, o', ho, hc, _⟩ := R; rw [ho] at e; cases e; rw [hc]; simp
    | lst => obtain ⟨_, _, o', ho, hc, _⟩ := R; rw [ho] at e; cases e; rw [hc]; simp
    | byt => obtain ⟨_, _, _, o', ho, hc, _⟩ := R; rw [ho] at e; cases e; rw [hc]; simp
  exact ⟨x _ _ (ne hz (by simp)) hz, x _ _ (ne hTI (by simp)) hTI, ⟨a, b, x _ _ (ne hTO (by simp)) hTO⟩, it h1, it h2, row R1, row R2, n1, n2, D⟩

theorem starts_spec (w : World) : ∀ (A : Around) (E : Value → Shared → Prop) (s : Shared) (k : Kd) (v1 v2 : Value) (xs ys : List Int) (ps : Array Value) (mg : Str → Option Value) (bm : Addr) (ob : Obj) (Q : Value → Shared → Prop),
    Wd (hd.heap_39 w.params) s.heap → Amb A 10 → Tab s.heap 34 30 ps → BMod s.heap mainGlobals mg bm ob → AllBare s.gens → Row s.heap k v1 xs → Row s.heap k v2 ys → xs.length ≤ 1000 → ys.length ≤ 1000 →
    (∀ (s' : Shared) more, s'.drawn = s.drawn → s'.os = s.os → AllBare s'.gens → Heap.ExtBut 30 s.heap s'.heap → Tab s'.heap 34 30 (ps ++ more) → Q (.bool (decide (xs.take ys.length = ys))) s') →
    wpAny (model PySem.Challenge.rw_ad6015_01.row.prog w) A (call (.ref 35) [v1, v2]) Q E s := by
  k_fill
  intro A E s k v1 v2 xs ys ps mg bm ob Q W hA T BM hG R1 R2 hz1 hz2 hQ
  refine wpAny_call ?_
  refine' enter (binds := [(Str.ofString "full_key", v1), (Str.ofString "partial_key", v2)]) W ?ho ?hcd (by have := hA.dep; omega) ?hb ?hl ?_ ?c1 ?c2 ?c3 ?c4
  walk_at "ent"
  intro h₁ F₁
  refine wpAny_execs_cons (wpAny_If (wpAny_isTrue_Compare1 (Call_ ?_)))
  walk_at "nmb"
  refine PyProof.Rows.callWith_builtin1 (spliced_more ?_)
  walk_at "nml"
  refine spliced_none ?_
  refine row_len (R1.mono F₁.keep) hz1 fun t1 tk1 => ?_
  refine Call_ ?_
  walk_at "nmb"
  refine PyProof.Rows.callWith_builtin1 (spliced_more ?_)
  walk_at "nml"
  refine spliced_none ?_
  refine row_len (R2.mono F₁.keep) hz2 fun t2 tk2 => ?_
  refine PyProof.Rows.lt_int ?_
  refine wpAny_truthy_bool ?_
  split
  · rename_i hc
    have hlt : xs.length < ys.length := by simpa using hc
    have e : decide (xs.take ys.length = ys) = false := decide_eq_false fun q => by have := congrArg List.length q; rw [List.length_take] at this; omega
    rw [e] at hQ
    refine wpAny_execs_cons (wpAny_Return_some (fun _ _ _ => ?_))
    exact hQ _ #[] rfl rfl hG (ext_none F₁.keep) (by simpa using T.mono F₁.keep)
  rename_i hc
  have hle : ys.length ≤ xs.length := by simpa using hc
  refine wpAny_execs_cons (wpAny_Return_some (Call_ ?_))
  walk_at "nmb"
  refine PyProof.Rows.callWith_builtin1 (spliced_more ?_)
  refine wpAny_GeneratorExp_walksQT (cl := []) hA.hh rfl (by with_unfolding_all rfl) (by decide) (by decide) (by decide) (by decide) (by decide) rfl (by have := hA.dep; show A.depth + 1 < _; omega) ?_ (fun _ => rfl)
  refine Call_ ?_
  walk_at "nmb"
  refine PyProof.Rows.callWith_type1 (spliced_more ?_)
  walk_at "nml"
  refine spliced_more ?_
  walk_at "nml"
  refine spliced_none ?_
  refine call_zip_row (R1.mono F₁.keep) (R2.mono F₁.keep) fun h₂ z TI TO I1 I2 Z₂ l₂ fr₂ => ?_
  refine wpAny_pyIter_zip Z₂.zo ?_
  have F₂ : Fs s.heap s.heap.objs.size h₂ _ := F₁.ext l₂
  refine ⟨W.lim.keeps F₂.keep, ?_⟩
  refine genexpr_code (c := 34) (P := 30) (ps := ps) rfl (T.mono F₂.keep) fun code h₃ tk₃ more x₃ T₃ => ?_
  replace x₃ : Heap.ExtBut 30 h₂ h₃ := x₃
  have W₃ : Wd (hd.heap_39 w.params) h₃ := (W.mono F₂.keep).but x₃ (by with_unfolding_all rfl) (by decide) (by decide) (by decide)
  have BM₂ := BM.keeps F₂.keep
  have b30 : bm ≠ 30 := fun q => by
    have h1 := BM₂.obj; have h2 := (T.mono F₂.keep).obj
    rw [q, h2] at h1; cases h1; have := BM₂.cls; cases this
  refine wpAny_builtinsFor (s := { s with heap := h₃, toks := tk₃ }) (BM₂.ns.extBut x₃ (by decide)) BM₂.name BM₂.ne (x₃ _ _ b30 BM₂.obj) BM₂.cls BM₂.dict BM₂.data ?_
  obtain ⟨ta, tb, hTO⟩ := Z₂.to
  obtain ⟨oI1, hoI1, cI1⟩ := Z₂.r1.has
  obtain ⟨oI2, hoI2, cI2⟩ := Z₂.r2.has
  have h30 := (T.mono F₂.keep).obj
  have Z₃ : ZAt h₃ z TI TO I1 I2 k v1 v2 xs ys .none (.bool false) 0 := by
    refine Z₂.ext2 x₃ h30 rfl
  refine ⟨z, _, _, _, _, _, _, fun _ => true, fun i y => y = .bool (decide (xs[i]? = ys[i]?)), rfl, fun A' hA' => zip_walks (TI := TI) (TO := TO) (I1 := I1) (I2 := I2) (k := k) (v1 := v1) (v2 := v2) (xs := xs) (ys := ys) hA', ?_, Z₃, ?_, W₃.lim, ?_, ?_, ?_⟩
  · rintro i vals ⟨x, y, t1, t2, _, _, e⟩; exact ⟨_, _, e⟩
  · intro b hb
    obtain ⟨hz, hTI, ⟨_, _, hTO'⟩, h1, h2, R1', R2', _⟩ := Z₃
    obtain ⟨o1, ho1, _⟩ := h1.has
    obtain ⟨o2, ho2, _⟩ := h2.has
    simp only [List.mem_cons, List.mem_append] at hb
    rcases hb with rfl | rfl | rfl | rfl | rfl | hb | hb
    · exact Heap.lt_size hz
    · exact Heap.lt_size hTI
    · exact Heap.lt_size hTO'
    · exact Heap.lt_size ho1
    · exact Heap.lt_size ho2
    · exact R1'.lt b hb
    · exact R2'.lt b hb
  · obtain ⟨mc, ⟨o, _, _, e, _⟩, _⟩ := W.lim.keeps F₁.keep
    intro hb
    simp only [List.mem_cons, List.not_mem_nil, or_false] at hb
    obtain ⟨q1, q2, q3, q4⟩ := fr₂
    rcases hb with hb | hb | hb | hb
    · rw [hb] at e; cases q1.symm.trans e
    · rw [hb] at e; cases q2.symm.trans e
    · rw [hb] at e; cases q3.symm.trans e
    · rw [hb] at e; cases q4.symm.trans e
  · intro href hh₃
    refine ⟨?_, ?_⟩
    · intro A' E' i va vb u m₂ hA' hP hn hma hmb hk
      exact wpAny_pure ⟨rfl, u.heap, u.toks, rfl, Lasts.refl _⟩
    · rintro A' E' i va vb u m₂ hA' ⟨x, y, ta, tb, hx, hy, e⟩ hpz hn hma hmb hk
      have e1 : va = .int x ta ∧ vb = .int y tb := by simpa using congrArg Array.toList e
      obtain ⟨rfl, rfl⟩ := e1
      refine wpAny_Compare1 ?_
      refine wpAny_Name (wpAny_loadName_local (by with_unfolding_all rfl) (by with_unfolding_all rfl) hn hma ?_) (by decide)
      refine wpAny_Name (wpAny_loadName_local (by with_unfolding_all rfl) (by with_unfolding_all rfl) hn hmb ?_) (by decide)
      refine eq_int ⟨?_, u.heap, u.toks, rfl, Lasts.refl _⟩
      rw [hx, hy]
      by_cases h : x = y <;> simp [h]
  · intro a h₅ tk₅ gs hgs ha hsz k₅ WS GA
    refine spliced_none ?_
    have WS1 := WS.of_in1.of_in1.of_in1
    refine call_all_walkS (WS1.self 0 _ _ _ GA ⟨a, _, _, _, _, _, _, fun j => decide (xs[j]? = ys[j]?), rfl, WS1, GA, ?_, fun s' hm => ?_⟩)
    · rintro i v u Q' E' ⟨i', hi', rfl⟩ hq
      have : i' = i := by
        rw [pass_all] at hi'
        exact (range_at hi').1
      subst this
      exact wpAny_truthy_bool hq
    · have en : (passing (fun _ => true) (min xs.length ys.length) 0).length = ys.length := by rw [pass_all, List.length_range]; omega
      rw [en]
      have key : (List.range ys.length).all (fun j => decide (xs[j]? = ys[j]?)) = decide (xs.take ys.length = ys) := by
        rw [Bool.eq_iff_iff]
        simp only [List.all_eq_true, List.mem_range, decide_eq_true_eq]
        constructor
        · intro h
          apply List.ext_getElem?
          intro i
          rw [List.getElem?_take]
          split
          · rename_i hi; exact h i hi
          · exact (List.getElem?_eq_none (by omega)).symm
        · intro h i hi
          have : (xs.take ys.length)[i]? = ys[i]? := by rw [h]
          rwa [List.getElem?_take, if_pos hi] at this
      rw [key]
      have up : ∀ b o, b ∉ (h₃.objs.size :: [z, TO, I1, I2]) → h₃.get? b = some o → s'.heap.get? b = some o := fun b o hb e => hm.heap b o hb (k₅ b o e)
      have frz : ∀ {b o}, h₁.get? b = some o → b ∉ [z, TO, I1, I2] := fun {b o} e hb => by
        simp only [List.mem_cons, List.not_mem_nil, or_false] at hb
        obtain ⟨q1, q2, q3, q4⟩ := fr₂
        rcases hb with rfl | rfl | rfl | rfl
        · cases q1.symm.trans e
        · cases q2.symm.trans e
        · cases q3.symm.trans e
        · cases q4.symm.trans e
      have fin : ∀ b o o', h₁.get? b = some o → h₃.get? b = some o' → s'.heap.get? b = some o' := fun b o o' e e' => up b o' (by
        intro hb
        rcases List.mem_cons.mp hb with q | q
        · rw [q] at e'; exact absurd (Heap.lt_size e') (Nat.lt_irrefl _)
        · exact frz e q) e'
      refine hQ s' more hm.drawn hm.os ((hG.push hgs).movedS hm) (fun b o hb e => ?_) ⟨?_, ?_⟩
      · have e1 := F₁.keep _ _ e
        exact fin b o o e1 (x₃ b o hb (l₂ _ _ e1))
      · have c34 : ∃ o, s.heap.get? 34 = some o := by
          obtain ⟨o, _, _, _, _, _, _, _, _, _, e, _⟩ := T.code; exact ⟨o, e⟩
        obtain ⟨o, vs, file, tf, flags, tg, inF, text, tt, op, a1, r1, r2, r3, r4, r5, r6, b1, r⟩ := T₃.code
        obtain ⟨o34, e34⟩ := c34
        exact ⟨o, vs, file, tf, flags, tg, inF, text, tt, op, fin _ _ _ (F₁.keep _ _ e34) a1, r1, r2, r3, r4, r5, r6, fin _ _ _ (F₁.keep _ _ T.obj) b1, r⟩
      · exact fin _ _ _ (F₁.keep _ _ T.obj) T₃.obj
end Mine
end

section
open PySem PySem.W PyProof.Rows PySem.Calls
set_option Elab.async false
set_option maxRecDepth 100000
namespace Mine

local macro_rules | `(tactic| walk_at "nml") => `(tactic| refine nm_local (by assumption) (by with_unfolding_all rfl) ?_ (by with_unfolding_all rfl) (by with_unfolding_all rfl) (by decide))
local macro_rules | `(tactic| walk_at "nma") => `(tactic| refine nm_local (by assumption) (by assumption) ?_ (by with_unfolding_all rfl) (by with_unfolding_all rfl) (by decide))
local macro_rules | `(tactic| walk_at "nmb") => `(tactic| refine nm_boot (by assumption) (by assumption) (by k_is) (by boot_by_name) (by decide) ?_ (by with_unfolding_all rfl) (by with_unfolding_all rfl) rfl rfl (by decide))
local macro_rules | `(tactic| walk_at "nmg") => `(tactic| (refine' nm_global (by assumption) (by assumption) ?k1 ?_ ?k2 ?k3 ?k4 ?k5; (case k1 => k_is); (case k2 => with_unfolding_all rfl); (case k3 => with_unfolding_all rfl); (case k4 => exact rfl); (case k5 => decide)))
local macro_rules | `(tactic| walk_at "ent") => `(tactic| ((case ho => k_is); (case hcd => k_is); (case hb => exact BindsTo.of_eq rfl); (case hl => exact locs rfl); (case c1 => exact rfl); (case c2 => exact rfl); (case c3 => exact rfl); (case c4 => decide)))
local macro_rules | `(tactic| walk_at "sts") => `(tactic| ((case a => with_unfolding_all rfl); (case b => with_unfolding_all rfl)))

/-- none, or an int -/
def Pl (v : Value) (o : Option Int) : Prop := match o with | none => v = .none | some i => ∃ t, v = .int i t
def atOr (xs : List Int) (fd : Option Int) (i : Nat) : Option Int := match xs[i]? with | some x => some x | none => fd

/-- the first n places of the list at D are pairs -/
structure Prs (h : Heap) (D : Addr) (n : Nat) (f g : Nat → Option Int) : Prop where
  pr : ∃ items, PlainL h D items ∧ items.size = n ∧ ∀ i, i < n → ∃ T p q, items[i]? = some (.ref T) ∧ h.IsTuple T #[p, q] ∧ Pl p (f i) ∧ Pl q (g i)

theorem Prs.ext {g h : Heap} {D : Addr} {n : Nat} {f1 f2 : Nat → Option Int} (R : Prs g D n f1 f2) (P : Addr → Prop) (l : ∀ b o, ¬ P b → g.get? b = some o → h.get? b = some o)
    (hP : ∀ b o, P b → g.get? b = some o → (∃ es ep, o.data = .dict es ep) ∨ (o.cls ≠ .type "list" ∧ o.cls ≠ .type "tuple")) : Prs h D n f1 f2 := by
  obtain ⟨items, ⟨o, k, ho, hc, hd, hq⟩, hz, hi⟩ := R
  refine ⟨items, ⟨o, k, l _ _ (fun q => ?_) ho, hc, hd, hq⟩, hz, fun i hlt => ?_⟩
  · rcases hP _ _ q ho with ⟨es, ep, e⟩ | e
    · rw [hq] at e; cases e
    · exact e.1 hc
  · obtain ⟨T, p, q, e, ⟨o', ho', hc', n', hd'⟩, r⟩ := hi i hlt
    refine ⟨T, p, q, e, ⟨o', l _ _ (fun q => ?_) ho', hc', n', hd'⟩, r⟩
    rcases hP _ _ q ho' with ⟨es, ep, e⟩ | e
    · rw [hd'] at e; cases e
    · exact e.2 hc'
theorem Prs.mono {g h : Heap} {D : Addr} {n : Nat} {f1 f2 : Nat → Option Int} (R : Prs g D n f1 f2) (l : Lasts g h) : Prs h D n f1 f2 := R.ext (fun _ => False) (fun b o _ e => l b o e) fun _ _ q => q.elim
theorem Prs.store {h h' : Heap} {D L : Addr} {n : Nat} {f1 f2 : Nat → Option Int} {m : Str → Option Value} (R : Prs h D n f1 f2) (N : h.Ns L m) (x : Heap.ExtBut L h h') : Prs h' D n f1 f2 :=
  R.ext (fun b => b = L) (fun b o hb e => x b o hb e) fun b o hb e => by
    obtain ⟨o', es, ep, h1, h2, _⟩ := N
    rw [hb, h1] at e; cases e; exact .inl ⟨es, ep, h2⟩
theorem Prs.snoc {h h' : Heap} {D T : Addr} {n : Nat} {f1 f2 : Nat → Option Int} {p q : Value} (R : Prs h D n f1 f2) (hT : h.IsTuple T #[p, q]) (hp : Pl p (f1 n)) (hq : Pl q (f2 n)) (x : Heap.SameBut D h h')
    (e : ∀ items, PlainL h D items → PlainL h' D (items.push (.ref T))) : Prs h' D (n + 1) f1 f2 := by
  obtain ⟨items, hl, hz, hi⟩ := R
  have tup : ∀ {T p q}, h.IsTuple T #[p, q] → h'.IsTuple T #[p, q] := fun {T p q} ⟨o', ho', hc', n', hd'⟩ =>
    ⟨o', x.extBut _ _ (fun q => by obtain ⟨o, k, ho, hc, _⟩ := hl; rw [q, ho] at ho'; cases ho'; rw [hc] at hc'; simp at hc') ho', hc', n', hd'⟩
  refine ⟨items.push (.ref T), e items hl, by simp [hz], fun i hlt => ?_⟩
  by_cases c : i < n
  · obtain ⟨T', p', q', e', t', r⟩ := hi i c
    exact ⟨T', p', q', by rw [Array.getElem?_push, if_neg (by omega)]; exact e', tup t', r⟩
  · have : i = n := by omega
    subst this
    exact ⟨T, p, q, by rw [← hz]; simp, tup hT, hp, hq⟩

theorem Fs.at {g h h' : Heap} {L D : Addr} {m : Str → Option Value} (F : Fs g L h m) (x : Heap.ExtBut D h h') (hL : L ≠ D) (hg : g.get? D = none) : Fs g L h' m :=
  ⟨F.ns.extBut x hL, fun b o e => x _ _ (by rintro rfl; rw [hg] at e; cases e) (F.keep _ _ e), F.off⟩

theorem zip_longest_spec (w : World) : ∀ (A : Around) (E : Value → Shared → Prop) (s : Shared) (k : Kd) (v1 v2 v3 : Value) (xs ys : List Int) (fd : Option Int) (Q : Value → Shared → Prop),
    Wd (hd.heap_39 w.params) s.heap → Amb A 8 → Row s.heap k v1 xs → Row s.heap k v2 ys → xs.length ≤ 1000 → ys.length ≤ 1000 → Pl v3 fd →
    (∀ D h' tk, Lasts s.heap h' → Prs h' D (max xs.length ys.length) (atOr xs fd) (atOr ys fd) → Q (.ref D) { s with heap := h', toks := tk }) →
    wpAny (model PySem.Challenge.rw_ad6015_01.row.prog w) A (call (.ref 63) [v1, v2, v3]) Q E s := by
  k_fill
  intro A E s k v1 v2 v3 xs ys fd Q W hA R1 R2 hz1 hz2 hfd hQ
  refine wpAny_call ?_
  refine' enter (binds := [(Str.ofString "first", v1), (Str.ofString "second", v2), (Str.ofString "fillvalue", v3)]) W ?ho ?hcd (by have := hA.dep; omega) ?hb ?hl ?_ ?c1 ?c2 ?c3 ?c4
  walk_at "ent"
  intro h₁ F₁
  refine wpAny_execs_cons (wpAny_Assign_Name (wpAny_List (spliced_none ⟨by simp, ?_⟩)))
  have l₂ : Lasts h₁ (h₁.push { cls := .type "list", data := .seq ([] : List Value).toArray }) := Lasts.push _ _
  have F₂ : Fs s.heap s.heap.objs.size (h₁.push { cls := .type "list", data := .seq ([] : List Value).toArray }) _ := F₁.ext l₂
  have P₂ : Prs (h₁.push { cls := .type "list", data := .seq ([] : List Value).toArray }) h₁.objs.size 0 (atOr xs fd) (atOr ys fd) := ⟨#[], ⟨_, 0, Heap.get?_push_size _ rfl, rfl, rfl, rfl⟩, rfl, fun i hi => absurd hi (Nat.not_lt_zero _)⟩
  have gD : s.heap.get? h₁.objs.size = none := none_back F₁.keep (fresh_size _)
  have LD : s.heap.objs.size ≠ h₁.objs.size := fun q => by
    obtain ⟨o, es, ep, e, _⟩ := F₁.ns
    rw [q] at e; exact absurd (Heap.lt_size e) (Nat.lt_irrefl _)
  generalize h₁.objs.size = D at P₂ gD LD ⊢
  refine' st_local F₂ (fun h₃ (F₃ : Fs s.heap s.heap.objs.size h₃ _) x₃ => ?_) ?a ?b
  walk_at "sts"
  have P₃ := P₂.store F₂.ns x₃
  refine wpAny_execs_cons (wpAny_For (Call_ ?_) (fun _ => rfl))
  walk_at "nmb"
  refine PyProof.Rows.callWith_type1 (spliced_more (Call_ ?_))
  walk_at "nmb"
  refine PyProof.Rows.callWith_builtin1 (spliced_more (Call_ ?_))
  walk_at "nmb"
  refine PyProof.Rows.callWith_builtin1 (spliced_more ?_)
  walk_at "nml"
  refine spliced_none ?_
  refine row_len (R1.mono F₃.keep) hz1 fun t3 tk3 => ?_
  refine spliced_more (Call_ ?_)
  walk_at "nmb"
  refine PyProof.Rows.callWith_builtin1 (spliced_more ?_)
  walk_at "nml"
  refine spliced_none ?_
  refine row_len (R2.mono F₃.keep) hz2 fun t4 tk4 => ?_
  refine spliced_none ?_
  refine max_nat hA.hh fun t5 h₄ tk5 l₄ => ?_
  have F₄ : Fs s.heap s.heap.objs.size h₄ _ := F₃.ext l₄
  refine spliced_none ?_
  refine loop_range (n := max xs.length ys.length) hA.hh (by omega) (by with_unfolding_all rfl) (by with_unfolding_all rfl) F₄ (fun j m h => (m (Str.ofString "first") = some v1 ∧ m (Str.ofString "second") = some v2 ∧ m (Str.ofString "fillvalue") = some v3 ∧ m (Str.ofString "rows") = some (.ref D)) ∧ Prs h D j (atOr xs fd) (atOr ys fd))
    ⟨⟨by with_unfolding_all rfl, by with_unfolding_all rfl, by with_unfolding_all rfl, by with_unfolding_all rfl⟩, P₃.mono l₄⟩ (fun _ _ _ a b => ⟨a.1, a.2.mono b⟩) ?_ ?_
  · intro j tk m₁ h₁ s₁ E' I eL hj hJ F k₁ hI hI' F'
    obtain ⟨⟨e1, e2, e3, e4⟩, P⟩ := hJ
    have P₁ : Prs s₁.heap D j (atOr xs fd) (atOr ys fd) := P.ext (fun b => b = s.heap.objs.size ∨ b = I) (fun b o hb e => k₁ b o (fun q => hb (.inl q)) (fun q => hb (.inr q)) e) fun b o hb e => by
      rcases hb with rfl | rfl
      · obtain ⟨o', es, ep, h1, h2, _⟩ := F.ns
        cases h1.symm.trans e; exact .inl ⟨es, ep, h2⟩
      · obtain ⟨oI, eI, cI⟩ := hI
        rw [eI] at e; cases e; exact .inr ⟨by rw [cI]; simp, by rw [cI]; simp⟩
    obtain ⟨m₂, F₂', q1, q2, q3, q4, q5⟩ : ∃ m₂, Fs s.heap s.heap.objs.size s₁.heap m₂ ∧ m₂ (Str.ofString "first") = some v1 ∧ m₂ (Str.ofString "second") = some v2 ∧ m₂ (Str.ofString "fillvalue") = some v3 ∧ m₂ (Str.ofString "rows") = some (.ref D) ∧ m₂ (Str.ofString "k") = some (.int (j : Nat) tk) :=
      ⟨_, F', by with_unfolding_all exact e1, by with_unfolding_all exact e2, by with_unfolding_all exact e3, by with_unfolding_all exact e4, by with_unfolding_all rfl⟩
    clear F'
    refine wpAny_execs_cons (wpAny_Assign_Name (wpAny_mono (Q := fun v s' => (∃ tk', s' = { s₁ with toks := tk' }) ∧ Pl v (atOr xs fd j)) ?_ (fun one s' hv => ?_) (fun _ _ e => e)))
    · refine IfExp_ (wpAny_isTrue_Compare1 ?_)
      walk_at "nma"
      refine Call_ ?_
      walk_at "nmb"
      refine PyProof.Rows.callWith_builtin1 (spliced_more ?_)
      walk_at "nma"
      refine spliced_none ?_
      refine row_len (R1.mono F₂'.keep) hz1 fun t6 tk6 => ?_
      refine PyProof.Rows.lt_int ?_
      refine wpAny_truthy_bool ?_
      split
      · rename_i hc
        have hlt : j < xs.length := by simpa using hc
        have ex : xs[j]? = some xs[j] := List.getElem?_eq_getElem hlt
        refine Subscript_ ?_
        walk_at "nma"
        walk_at "nma"
        refine row_item (R1.mono F₂'.keep) hz1 ex (fun t7 tk7 => ⟨⟨_, rfl⟩, ?_⟩) (fun _ _ => rfl)
        unfold atOr; rw [ex]; exact ⟨_, rfl⟩
      · rename_i hc
        have hge : ¬ j < xs.length := by simpa using hc
        walk_at "nma"
        refine ⟨⟨_, rfl⟩, ?_⟩
        unfold atOr; rw [List.getElem?_eq_none (by omega)]; exact hfd
    obtain ⟨⟨tk₁, rfl⟩, p1⟩ := hv
    refine' st_local F₂' (fun h₅ (F₅ : Fs s.heap s.heap.objs.size h₅ _) x₅ => ?_) ?a ?b
    walk_at "sts"
    have P₅ := P₁.store F₂'.ns x₅
    replace x₅ : Heap.ExtBut s.heap.objs.size s₁.heap h₅ := x₅
    obtain ⟨m₃, F₅', q1, q2, q3, q4, q5, q6⟩ : ∃ m₃, Fs s.heap s.heap.objs.size h₅ m₃ ∧ m₃ (Str.ofString "first") = some v1 ∧ m₃ (Str.ofString "second") = some v2 ∧ m₃ (Str.ofString "fillvalue") = some v3 ∧ m₃ (Str.ofString "rows") = some (.ref D) ∧ m₃ (Str.ofString "k") = some (.int (j : Nat) tk) ∧ m₃ (Str.ofString "one") = some one :=
      ⟨_, F₅, by with_unfolding_all exact q1, by with_unfolding_all exact q2, by with_unfolding_all exact q3, by with_unfolding_all exact q4, by with_unfolding_all exact q5, by with_unfolding_all rfl⟩
    clear F₅ F₂'
    refine wpAny_execs_cons (wpAny_Assign_Name (wpAny_mono (Q := fun v s' => (∃ tk', s' = { s₁ with heap := h₅, toks := tk' }) ∧ Pl v (atOr ys fd j)) ?_ (fun two s' hv => ?_) (fun _ _ e => e)))
    · refine IfExp_ (wpAny_isTrue_Compare1 ?_)
      walk_at "nma"
      refine Call_ ?_
      walk_at "nmb"
      refine PyProof.Rows.callWith_builtin1 (spliced_more ?_)
      walk_at "nma"
      refine spliced_none ?_
      refine row_len (R2.mono F₅'.keep) hz2 fun t6 tk6 => ?_
      refine PyProof.Rows.lt_int ?_
      refine wpAny_truthy_bool ?_
      split
      · rename_i hc
        have hlt : j < ys.length := by simpa using hc
        have ex : ys[j]? = some ys[j] := List.getElem?_eq_getElem hlt
        refine Subscript_ ?_
        walk_at "nma"
        walk_at "nma"
        refine row_item (R2.mono F₅'.keep) hz2 ex (fun t7 tk7 => ⟨⟨_, rfl⟩, ?_⟩) (fun _ _ => rfl)
        unfold atOr; rw [ex]; exact ⟨_, rfl⟩
      · rename_i hc
        have hge : ¬ j < ys.length := by simpa using hc
        walk_at "nma"
        refine ⟨⟨_, rfl⟩, ?_⟩
        unfold atOr; rw [List.getElem?_eq_none (by omega)]; exact hfd
    obtain ⟨⟨tk₂, rfl⟩, p2⟩ := hv
    refine' st_local F₅' (fun h₆ (F₆ : Fs s.heap s.heap.objs.size h₆ _) x₆ => ?_) ?a ?b
    walk_at "sts"
    have P₆ := P₅.store F₅'.ns x₆
    replace x₆ : Heap.ExtBut s.heap.objs.size h₅ h₆ := x₆
    obtain ⟨m₄, F₆', q1, q2, q3, q4, q5, q6, q7⟩ : ∃ m₄, Fs s.heap s.heap.objs.size h₆ m₄ ∧ m₄ (Str.ofString "first") = some v1 ∧ m₄ (Str.ofString "second") = some v2 ∧ m₄ (Str.ofString "fillvalue") = some v3 ∧ m₄ (Str.ofString "rows") = some (.ref D) ∧ m₄ (Str.ofString "k") = some (.int (j : Nat) tk) ∧ m₄ (Str.ofString "one") = some one ∧ m₄ (Str.ofString "two") = some two :=
      ⟨_, F₆, by with_unfolding_all exact q1, by with_unfolding_all exact q2, by with_unfolding_all exact q3, by with_unfolding_all exact q4, by with_unfolding_all exact q5, by with_unfolding_all exact q6, by with_unfolding_all rfl⟩
    clear F₆ F₅'
    obtain ⟨items, hl, hz, hi⟩ := P₆.pr
    refine wpAny_execs_cons (wpAny_Expr (wpAny_Call_append rfl rfl rfl rfl ?_) rfl rfl)
    walk_at "nma"
    refine ⟨D, items, rfl, hl, ?_⟩
    refine wpAny_Tuple (spliced_more ?_)
    walk_at "nma"
    refine spliced_more ?_
    walk_at "nma"
    refine spliced_none ⟨by show (2 : Nat) ≤ sizeLine; rw [sizeLine_eq]; omega, ?_⟩
    have l₇ := Lasts.push h₆ { cls := .type "tuple", data := .seq #[one, two] }
    have T₇ : (h₆.push { cls := .type "tuple", data := .seq #[one, two] }).IsTuple h₆.objs.size #[one, two] := ⟨_, Heap.get?_push_size _ rfl, rfl, _, rfl⟩
    refine list_append_plainL (hl.keeps l₇) (fun h₈ hl₈ x₈ => ?_) (by rw [sizeLine_eq]; omega)
    have P₈ : Prs h₈ D (j + 1) (atOr xs fd) (atOr ys fd) := (P₆.mono l₇).snoc T₇ p1 p2 x₈ fun its hits => by
      obtain ⟨o, n, a, _, _, d⟩ := hits
      obtain ⟨o', n', a', _, _, d'⟩ := hl.keeps l₇
      rw [a] at a'; cases a'; rw [d] at d'; cases d'
      exact hl₈
    have F₈ : Fs s.heap s.heap.objs.size h₈ m₄ := (F₆'.ext l₇).at x₈.extBut LD gD
    refine wpAny_execs_nil ⟨h₈, _, m₄, rfl, rfl, fun o e => ?_, F₈, ⟨q1, q2, q3, q4⟩, P₈⟩
    have e6 := l₇ _ _ (x₆ _ _ (Ne.symm eL) (x₅ _ _ (Ne.symm eL) e))
    refine x₈.extBut _ _ (fun q => ?_) e6
    obtain ⟨o', n', a', c', _⟩ := hl.keeps l₇
    obtain ⟨oI, eI, cI⟩ := hI'
    rw [q] at e6; rw [a'] at e6; cases e6
    rw [eI] at e; cases e
    rw [c'] at cI; simp at cI
  · rintro h₁ h' tk m' I ⟨⟨e1, e2, e3, e4⟩, P⟩ F k₁ hI F'
    refine wpAny_execs_cons (wpAny_Return_some ?_)
    walk_at "nma"
    refine hQ _ _ _ F'.keep (P.ext (fun b => b = I) (fun b o hb e => k₁ b o hb e) fun b o hb e => ?_)
    obtain ⟨oI, eI, cI⟩ := hI
    rw [hb, eI] at e; cases e; exact .inr ⟨by rw [cI]; simp, by rw [cI]; simp⟩
end Mine
end

section
open PySem PySem.W PyProof.Rows PySem.Calls
set_option Elab.async false
set_option maxRecDepth 100000
namespace Mine

local macro_rules | `(tactic| walk_at "nml") => `(tactic| refine nm_local (by assumption) (by with_unfolding_all rfl) ?_ (by with_unfolding_all rfl) (by with_unfolding_all rfl) (by decide))
local macro_rules | `(tactic| walk_at "nma") => `(tactic| refine nm_local (by assumption) (by assumption) ?_ (by with_unfolding_all rfl) (by with_unfolding_all rfl) (by decide))
local macro_rules | `(tactic| walk_at "nmb") => `(tactic| refine nm_boot (by assumption) (by assumption) (by k_is) (by boot_by_name) (by decide) ?_ (by with_unfolding_all rfl) (by with_unfolding_all rfl) rfl rfl (by decide))
local macro_rules | `(tactic| walk_at "nmg") => `(tactic| (refine' nm_global (by assumption) (by assumption) ?k1 ?_ ?k2 ?k3 ?k4 ?k5; (case k1 => k_is); (case k2 => with_unfolding_all rfl); (case k3 => with_unfolding_all rfl); (case k4 => exact rfl); (case k5 => decide)))
local macro_rules | `(tactic| walk_at "ent") => `(tactic| ((case ho => k_is); (case hcd => k_is); (case hb => exact BindsTo.of_eq rfl); (case hl => exact locs rfl); (case c1 => exact rfl); (case c2 => exact rfl); (case c3 => exact rfl); (case c4 => decide)))
local macro_rules | `(tactic| walk_at "sts") => `(tactic| ((case a => with_unfolding_all rfl); (case b => with_unfolding_all rfl)))

theorem paired_spec (w : World) : ∀ (A : Around) (E : Value → Shared → Prop) (s : Shared) (k : Kd) (v1 v2 v3 : Value) (xs ys : List Int) (fd : Option Int) (Q : Value → Shared → Prop),
    Wd (hd.heap_39 w.params) s.heap → Amb A 8 → Row s.heap k v1 xs → Row s.heap k v2 ys → xs.length ≤ 1000 → ys.length ≤ 1000 → Pl v3 fd →
    (∀ D h' tk, Lasts s.heap h' → Prs h' D (max xs.length ys.length) (atOr xs fd) (atOr ys fd) → Q (.ref D) { s with heap := h', toks := tk }) →
    wpAny (model PySem.Challenge.rw_ad6015_01.row.prog w) A (call (.ref 94) [v1, v2, v3]) Q E s := by
  k_fill
  intro A E s k v1 v2 v3 xs ys fd Q W hA R1 R2 hz1 hz2 hfd hQ
  refine wpAny_call ?_
  refine' enter (binds := [(Str.ofString "first", v1), (Str.ofString "second", v2), (Str.ofString "fill", v3)]) W ?ho ?hcd (by have := hA.dep; omega) ?hb ?hl ?_ ?c1 ?c2 ?c3 ?c4
  walk_at "ent"
  intro h₁ F₁
  refine wpAny_execs_cons (wpAny_Assign_Name (wpAny_List (spliced_none ⟨by simp, ?_⟩)))
  have l₂ : Lasts h₁ (h₁.push { cls := .type "list", data := .seq ([] : List Value).toArray }) := Lasts.push _ _
  have F₂ : Fs s.heap s.heap.objs.size (h₁.push { cls := .type "list", data := .seq ([] : List Value).toArray }) _ := F₁.ext l₂
  have P₂ : Prs (h₁.push { cls := .type "list", data := .seq ([] : List Value).toArray }) h₁.objs.size 0 (atOr xs fd) (atOr ys fd) := ⟨#[], ⟨_, 0, Heap.get?_push_size _ rfl, rfl, rfl, rfl⟩, rfl, fun i hi => absurd hi (Nat.not_lt_zero _)⟩
  have gD : s.heap.get? h₁.objs.size = none := none_back F₁.keep (fresh_size _)
  have LD : s.heap.objs.size ≠ h₁.objs.size := fun q => by
    obtain ⟨o, es, ep, e, _⟩ := F₁.ns
    rw [q] at e; exact absurd (Heap.lt_size e) (Nat.lt_irrefl _)
  generalize h₁.objs.size = D at P₂ gD LD ⊢
  refine' st_local F₂ (fun h₃ (F₃ : Fs s.heap s.heap.objs.size h₃ _) x₃ => ?_) ?a ?b
  walk_at "sts"
  have P₃ := P₂.store F₂.ns x₃
  refine wpAny_execs_cons (wpAny_For (Call_ ?_) (fun _ => rfl))
  walk_at "nmb"
  refine PyProof.Rows.callWith_type1 (spliced_more (Call_ ?_))
  walk_at "nmb"
  refine PyProof.Rows.callWith_builtin1 (spliced_more (Call_ ?_))
  walk_at "nmb"
  refine PyProof.Rows.callWith_builtin1 (spliced_more ?_)
  walk_at "nml"
  refine spliced_none ?_
  refine row_len (R1.mono F₃.keep) hz1 fun t3 tk3 => ?_
  refine spliced_more (Call_ ?_)
  walk_at "nmb"
  refine PyProof.Rows.callWith_builtin1 (spliced_more ?_)
  walk_at "nml"
  refine spliced_none ?_
  refine row_len (R2.mono F₃.keep) hz2 fun t4 tk4 => ?_
  refine spliced_none ?_
  refine max_nat hA.hh fun t5 h₄ tk5 l₄ => ?_
  have F₄ : Fs s.heap s.heap.objs.size h₄ _ := F₃.ext l₄
  refine spliced_none ?_
  refine loop_range (n := max xs.length ys.length) hA.hh (by omega) (by with_unfolding_all rfl) (by with_unfolding_all rfl) F₄ (fun j m h => (m (Str.ofString "first") = some v1 ∧ m (Str.ofString "second") = some v2 ∧ m (Str.ofString "fill") = some v3 ∧ m (Str.ofString "rows") = some (.ref D)) ∧ Prs h D j (atOr xs fd) (atOr ys fd))
    ⟨⟨by with_unfolding_all rfl, by with_unfolding_all rfl, by with_unfolding_all rfl, by with_unfolding_all rfl⟩, P₃.mono l₄⟩ (fun _ _ _ a b => ⟨a.1, a.2.mono b⟩) ?_ ?_
  · intro j tk m₁ h₁ s₁ E' I eL hj hJ F k₁ hI hI' F'
    obtain ⟨⟨e1, e2, e3, e4⟩, P⟩ := hJ
    have P₁ : Prs s₁.heap D j (atOr xs fd) (atOr ys fd) := P.ext (fun b => b = s.heap.objs.size ∨ b = I) (fun b o hb e => k₁ b o (fun q => hb (.inl q)) (fun q => hb (.inr q)) e) fun b o hb e => by
      rcases hb with rfl | rfl
      · obtain ⟨o', es, ep, h1, h2, _⟩ := F.ns
        cases h1.symm.trans e; exact .inl ⟨es, ep, h2⟩
      · obtain ⟨oI, eI, cI⟩ := hI
        rw [eI] at e; cases e; exact .inr ⟨by rw [cI]; simp, by rw [cI]; simp⟩
    obtain ⟨m₂, F₂', q1, q2, q3, q4, q5⟩ : ∃ m₂, Fs s.heap s.heap.objs.size s₁.heap m₂ ∧ m₂ (Str.ofString "first") = some v1 ∧ m₂ (Str.ofString "second") = some v2 ∧ m₂ (Str.ofString "fill") = some v3 ∧ m₂ (Str.ofString "rows") = some (.ref D) ∧ m₂ (Str.ofString "k") = some (.int (j : Nat) tk) :=
      ⟨_, F', by with_unfolding_all exact e1, by with_unfolding_all exact e2, by with_unfolding_all exact e3, by with_unfolding_all exact e4, by with_unfolding_all rfl⟩
    clear F'
    obtain ⟨items, hl, hz, hi⟩ := P₁.pr
    refine wpAny_execs_cons (wpAny_Expr (wpAny_Call_append rfl rfl rfl rfl ?_) rfl rfl)
    walk_at "nma"
    refine ⟨D, items, rfl, hl, ?_⟩
    refine wpAny_Tuple (spliced_more (wpAny_mono (Q := fun v s' => (∃ tk', s' = { s₁ with toks := tk' }) ∧ Pl v (atOr xs fd j)) ?_ (fun one s' hv => ?_) (fun _ _ e => e)))
    · refine IfExp_ (wpAny_isTrue_Compare1 ?_)
      walk_at "nma"
      refine Call_ ?_
      walk_at "nmb"
      refine PyProof.Rows.callWith_builtin1 (spliced_more ?_)
      walk_at "nma"
      refine spliced_none ?_
      refine row_len (R1.mono F₂'.keep) hz1 fun t6 tk6 => ?_
      refine PyProof.Rows.lt_int ?_
      refine wpAny_truthy_bool ?_
      split
      · rename_i hc
        have hlt : j < xs.length := by simpa using hc
        have ex : xs[j]? = some xs[j] := List.getElem?_eq_getElem hlt
        refine Subscript_ ?_
        walk_at "nma"
        walk_at "nma"
        refine row_item (R1.mono F₂'.keep) hz1 ex (fun t7 tk7 => ⟨⟨_, rfl⟩, ?_⟩) (fun _ _ => rfl)
        unfold atOr; rw [ex]; exact ⟨_, rfl⟩
      · rename_i hc
        have hge : ¬ j < xs.length := by simpa using hc
        walk_at "nma"
        refine ⟨⟨_, rfl⟩, ?_⟩
        unfold atOr; rw [List.getElem?_eq_none (by omega)]; exact hfd
    obtain ⟨⟨tk₁, rfl⟩, p1⟩ := hv
    refine spliced_more (wpAny_mono (Q := fun v s' => (∃ tk', s' = { s₁ with toks := tk' }) ∧ Pl v (atOr ys fd j)) ?_ (fun two s' hv => ?_) (fun _ _ e => e))
    · refine IfExp_ (wpAny_isTrue_Compare1 ?_)
      walk_at "nma"
      refine Call_ ?_
      walk_at "nmb"
      refine PyProof.Rows.callWith_builtin1 (spliced_more ?_)
      walk_at "nma"
      refine spliced_none ?_
      refine row_len (R2.mono F₂'.keep) hz2 fun t6 tk6 => ?_
      refine PyProof.Rows.lt_int ?_
      refine wpAny_truthy_bool ?_
      split
      · rename_i hc
        have hlt : j < ys.length := by simpa using hc
        have ex : ys[j]? = some ys[j] := List.getElem?_eq_getElem hlt
        refine Subscript_ ?_
        walk_at "nma"
        walk_at "nma"
        refine row_item (R2.mono F₂'.keep) hz2 ex (fun t7 tk7 => ⟨⟨_, rfl⟩, ?_⟩) (fun _ _ => rfl)
        unfold atOr; rw [ex]; exact ⟨_, rfl⟩
      · rename_i hc
        have hge : ¬ j < ys.length := by simpa using hc
        walk_at "nma"
        refine ⟨⟨_, rfl⟩, ?_⟩
        unfold atOr; rw [List.getElem?_eq_none (by omega)]; exact hfd
    obtain ⟨⟨tk₂, rfl⟩, p2⟩ := hv
    refine spliced_none ⟨by show (2 : Nat) ≤ sizeLine; rw [sizeLine_eq]; omega, ?_⟩
    have l₇ := Lasts.push s₁.heap { cls := .type "tuple", data := .seq #[one, two] }
    have T₇ : (s₁.heap.push { cls := .type "tuple", data := .seq #[one, two] }).IsTuple s₁.heap.objs.size #[one, two] := ⟨_, Heap.get?_push_size _ rfl, rfl, _, rfl⟩
    refine list_append_plainL (hl.keeps l₇) (fun h₈ hl₈ x₈ => ?_) (by rw [sizeLine_eq]; omega)
    have P₈ : Prs h₈ D (j + 1) (atOr xs fd) (atOr ys fd) := (P₁.mono l₇).snoc T₇ p1 p2 x₈ fun its hits => by
      obtain ⟨o, n, a, _, _, d⟩ := hits
      obtain ⟨o', n', a', _, _, d'⟩ := hl.keeps l₇
      rw [a] at a'; cases a'; rw [d] at d'; cases d'
      exact hl₈
    have F₈ : Fs s.heap s.heap.objs.size h₈ m₂ := (F₂'.ext l₇).at x₈.extBut LD gD
    refine wpAny_execs_nil ⟨h₈, _, m₂, rfl, rfl, fun o e => ?_, F₈, ⟨q1, q2, q3, q4⟩, P₈⟩
    have e6 := l₇ _ _ e
    refine x₈.extBut _ _ (fun q => ?_) e6
    obtain ⟨o', n', a', c', _⟩ := hl.keeps l₇
    obtain ⟨oI, eI, cI⟩ := hI'
    rw [q] at e6; rw [a'] at e6; cases e6
    rw [eI] at e; cases e
    rw [c'] at cI; simp at cI
  · rintro h₁ h' tk m' I ⟨⟨e1, e2, e3, e4⟩, P⟩ F k₁ hI F'
    refine wpAny_execs_cons (wpAny_Return_some ?_)
    walk_at "nma"
    refine hQ _ _ _ F'.keep (P.ext (fun b => b = I) (fun b o hb e => k₁ b o hb e) fun b o hb e => ?_)
    obtain ⟨oI, eI, cI⟩ := hI
    rw [hb, eI] at e; cases e; exact .inr ⟨by rw [cI]; simp, by rw [cI]; simp⟩
end Mine
end

section
open PySem PySem.W PyProof.Rows PySem.Calls
set_option Elab.async false
set_option maxRecDepth 100000
namespace Mine


section
variable {prog : Program} {w : World} {A : Around} {E : Value → Shared → Prop} {s : Shared}
def plD (o : Option Int) : PyData := match o with | none => .none | some i => .int i
theorem Pl.reads {h : Heap} {v : Value} {o : Option Int} (p : Pl v o) : Reads h v (plD o) [] := by
  cases o with
  | none => cases p; exact .none
  | some i => obtain ⟨t, rfl⟩ := p; exact .int ..
theorem pl_eqAt {v u : Value} {o : Option Int} (h1 : Pl v o) (h2 : Pl u o) (hu : A.units + 64 < cLine) : SeqAt.EqAt A s v u true := by
  cases o with
  | none =>
    cases h1; cases h2
    have := SeqAt.eqAt_reads _ _ A s .none .none [] [] .none .none rfl rfl (by show A.units + 8 * 0 < _; omega)
    simpa [PyData.eqv] using this
  | some i =>
    obtain ⟨t1, rfl⟩ := h1
    obtain ⟨t2, rfl⟩ := h2
    have := SeqAt.eqAt_reads _ _ A s (.int i t1) (.int i t2) [] [] (.int ..) (.int ..) rfl rfl (by show A.units + 8 * 0 < _; omega)
    simpa [PyData.eqv] using this
theorem prs_ne {Q : Value → Shared → Prop} {D1 D2 : Addr} {n : Nat} {f g : Nat → Option Int} (P1 : Prs s.heap D1 n f g) (P2 : Prs s.heap D2 n f g) (hu : A.units + 100 < cLine) (h : Q (.bool false) s) :
    wpAny (model prog w) A (compareOp .NotEq (.ref D1) (.ref D2)) Q E s := by
  obtain ⟨i1, l1, z1, a1⟩ := P1.pr
  obtain ⟨i2, l2, z2, a2⟩ := P2.pr
  have he : ∀ j (h1 : j < i1.size) (h2 : j < i2.size), SeqAt.EqAt A.in1 s i1[j] i2[j] ((fun _ => true) j) := by
    intro j h1 h2
    obtain ⟨T1, p1, q1, e1, t1, pp1, qq1⟩ := a1 j (by omega)
    obtain ⟨T2, p2, q2, e2, t2, pp2, qq2⟩ := a2 j (by omega)
    have g1 : i1[j] = .ref T1 := by rw [Array.getElem?_eq_getElem h1] at e1; exact Option.some.inj e1
    have g2 : i2[j] = .ref T2 := by rw [Array.getElem?_eq_getElem h2] at e2; exact Option.some.inj e2
    rw [g1, g2]
    obtain ⟨as1, r1⟩ : ∃ as, Reads s.heap (.ref T1) (.tuple [plD (f j), plD (g j)]) as := by
      obtain ⟨o, ho, hc, n, hd⟩ := t1
      exact ⟨_, reads_tuple_at ho hc hd (by simpa using ReadsAll.cons pp1.reads (ReadsAll.cons qq1.reads .nil))⟩
    obtain ⟨as2, r2⟩ : ∃ as, Reads s.heap (.ref T2) (.tuple [plD (f j), plD (g j)]) as := by
      obtain ⟨o, ho, hc, n, hd⟩ := t2
      exact ⟨_, reads_tuple_at ho hc hd (by simpa using ReadsAll.cons pp2.reads (ReadsAll.cons qq2.reads .nil))⟩
    have lay : (PyData.tuple [plD (f j), plD (g j)]).canLay0 = true ∧ (PyData.tuple [plD (f j), plD (g j)]).depth ≤ 1 ∧ PyData.eqv (.tuple [plD (f j), plD (g j)]) (.tuple [plD (f j), plD (g j)]) = true := by
      cases f j <;> cases g j <;> simp [plD, PyData.canLay0, PyData.canLayAll0, PyData.depth, PyData.depthAll, PyData.eqv, PyData.eqvAll]
    have := SeqAt.eqAt_reads _ _ A.in1 s (.ref T1) (.ref T2) _ _ r1 r2 lay.1 lay.1 (by have := lay.2.1; show A.units + 1 + _ < _; omega)
    rw [lay.2.2] at this
    exact this
  refine SeqAt.RcNeAt.lists l1.isList l2.isList (by omega) (by omega) he prog w E Q ?_
  have e : (!(List.range i1.size).all (fun _ => true)) = false := by simp
  rw [e]; exact h
end
end Mine
end

section
open PySem PySem.W PyProof.Rows PySem.Calls
set_option Elab.async false
set_option maxRecDepth 100000
namespace Mine

local macro_rules | `(tactic| walk_at "nml") => `(tactic| refine nm_local (by assumption) (by with_unfolding_all rfl) ?_ (by with_unfolding_all rfl) (by with_unfolding_all rfl) (by decide))
local macro_rules | `(tactic| walk_at "nma") => `(tactic| refine nm_local (by assumption) (by assumption) ?_ (by with_unfolding_all rfl) (by with_unfolding_all rfl) (by decide))
local macro_rules | `(tactic| walk_at "nmb") => `(tactic| refine nm_boot (by assumption) (by assumption) (by k_is) (by boot_by_name) (by decide) ?_ (by with_unfolding_all rfl) (by with_unfolding_all rfl) rfl rfl (by decide))
local macro_rules | `(tactic| walk_at "nmg") => `(tactic| (refine' nm_global (by assumption) (by assumption) ?k1 ?_ ?k2 ?k3 ?k4 ?k5; (case k1 => k_is); (case k2 => with_unfolding_all rfl); (case k3 => with_unfolding_all rfl); (case k4 => exact rfl); (case k5 => decide)))
local macro_rules | `(tactic| walk_at "ent") => `(tactic| ((case ho => k_is); (case hcd => k_is); (case hb => exact BindsTo.of_eq rfl); (case hl => exact locs rfl); (case c1 => exact rfl); (case c2 => exact rfl); (case c3 => exact rfl); (case c4 => decide)))
local macro_rules | `(tactic| walk_at "sts") => `(tactic| ((case a => with_unfolding_all rfl); (case b => with_unfolding_all rfl)))

section
variable {prog : Program} {w : World} {A : Around} {E : Value → Shared → Prop} {env : Env}

/-- a comprehension that builds fresh rows -/
theorem comp_rows {s : Shared} {elt iter : Expr} {x : Str} {px : Pos} {scope : Scope} {cl : List (Str × Addr)} {pos : Pos} {Q : Value → Shared → Prop}
    (hclos : closureFor scope env = pure cl) (hcell : ∀ y ∈ scope.names, y.2 ≠ .cell) (hkind : scope.kind = .function)
    (hnames : ∀ y ∈ scope.names, y.2 = .local → scope.names.lookup y.1 = some .local) (hx : scope.names.lookup x = some .local)
    (h : wpAny (model prog w) A (eval iter env) (fun xv s₁ => wpAny (model prog w) A (pyIter xv) (fun it s₂ => ∃ I fp wr n P St, it = .ref I ∧ Walks prog w A I fp wr n P St ∧ n ≤ sizeLine ∧ St 0 s₂.heap ∧ (∀ b ∈ fp, b < s₂.heap.objs.size) ∧
      ∃ piece : Nat → List Int,
      (∀ C i v (s₃ : Shared) m₃ E', s₂.heap.objs.size ≤ C → i < n → P i v → St (i + 1) s₃.heap → s₃.heap.Ns C m₃ → m₃ x = some v → (∀ b o, b ∉ wr → s₂.heap.get? b = some o → s₃.heap.get? b = some o) →
        wpAny (model prog w) A (eval elt (compEnvC scope cl C env)) (fun y s₄ => (∃ h₄ tk₄, s₄ = { s₃ with heap := h₄, toks := tk₄ } ∧ Lasts s₃.heap h₄ ∧ Row h₄ .lst y (piece i)) ∧ ∀ a ∈ refs y, s₃.heap.get? a = none ∧ a ∉ wr) E' s₃) ∧
      (∀ D h' tk ys, s₂.heap.get? D = none → h'.PlainList D ys → ys.size = n → (∀ i y, ys[i]? = some y → Row h' .lst y (piece i)) →
        (∀ b o, b ∉ wr → s₂.heap.get? b = some o → h'.get? b = some o) → Q (.ref D) { s₂ with heap := h', toks := tk })) E s₁) E s)
    (hs : ∀ x, foldedSetIterable iter env x = pure x) :
    wpAny (model prog w) A (eval (.ListComp elt [⟨.Name x px, iter, [], 0⟩] scope pos) env) Q E s := by
  rw [eval_ListComp]
  refine wpAny_comprehension_free (use := none) rfl hs hclos hkind hnames (wpAny_mono h (fun xv s₁ h₁ => wpAny_mono h₁ (fun it s₂ h₂ => ?_) fun _ _ e => e) fun _ _ e => e)
  obtain ⟨I, fp, wr, n, P, St, rfl, W, hsz, hst, hfp, piece, helt, hQ⟩ := h₂
  refine wpAny_newObj_type (wpAny_newFunctionEnv hcell (by intro y hy; simp at hy) (fun h₁ hns₁ hsb₁ => ?_) hkind)
  dsimp only at hns₁ hsb₁ ⊢
  generalize hH2 : s₂.heap.push { cls := .type "list", dict := none, data := .seq ([] : List Value).toArray } = H2 at hns₁ hsb₁ ⊢
  have hC : H2.objs.size = s₂.heap.objs.size + 1 := by rw [← hH2, Heap.size_push]
  have hDC : s₂.heap.objs.size ≠ H2.objs.size := by rw [hC]; exact Nat.ne_of_lt (Nat.lt_succ_self _)
  have hCle : s₂.heap.objs.size ≤ H2.objs.size := by rw [hC]; exact Nat.le_succ _
  have below : ∀ b, b < s₂.heap.objs.size → b ≠ H2.objs.size ∧ b ≠ s₂.heap.objs.size := fun b hb => ⟨by rw [hC]; exact Nat.ne_of_lt (Nat.lt_succ_of_lt hb), Nat.ne_of_lt hb⟩
  have hDf : s₂.heap.objs.size ∉ fp := fun hm => Nat.lt_irrefl _ (hfp _ hm)
  have hCf : H2.objs.size ∉ fp := fun hm => by have := hfp _ hm; rw [hC] at this; exact Nat.lt_irrefl _ (Nat.lt_of_succ_lt this)
  have old : ∀ b o, s₂.heap.get? b = some o → h₁.get? b = some o := fun b o e => hsb₁.extBut b o (below b (Heap.lt_size e)).1 (Heap.get?_push_of_some _ (hH2 ▸ Heap.get?_push_of_some _ e))
  have hacc : h₁.PlainList s₂.heap.objs.size #[] := ⟨_, hsb₁.extBut _ _ hDC (Heap.get?_push_of_some _ (hH2 ▸ Heap.get?_push_size _ rfl))⟩
  have hst₁ : St 0 h₁ := W.frame _ _ _ hst fun b _ o e => old b o e
  have hCw : H2.objs.size ∉ wr := fun h => hCf (W.sub _ h)
  have hDw : s₂.heap.objs.size ∉ wr := fun h => hDf (W.sub _ h)
  have fD : s₂.heap.get? s₂.heap.objs.size = none := fresh_size _
  have fC : s₂.heap.get? H2.objs.size = none := by
    cases e : s₂.heap.get? H2.objs.size with
    | none => rfl
    | some o => exact absurd (Heap.lt_size e) (Nat.not_lt.mpr hCle)
  have hpk : ((compEnvC scope cl H2.objs.size env).scope.kind == .class || ((compEnvC scope cl H2.objs.size env).scope.kind == .module && (compEnvC scope cl H2.objs.size env).locals != (compEnvC scope cl H2.objs.size env).globals)) = false := by simp [compEnvC, relabel, hkind]
  have loop : ∀ s₃ : Shared, s₃ = { s₂ with heap := h₁, toks := s₂.toks + ([] : List (Str × Value)).length } →
      codeAny (model prog w) A (.compLoop (.ListComp elt [⟨.Name x px, iter, [], 0⟩] scope pos) 0 (.ref I) (.ref s₂.heap.objs.size) (compEnvC scope cl H2.objs.size env))
        (compPost (model prog w) A E none Q (.ref s₂.heap.objs.size) H2.objs.size) s₃ := by
    rintro s₃ rfl
    refine codeAny_compLoop_list (fun q s' => ∃ j h' tk m' ys, s' = { s₂ with heap := h', toks := tk } ∧ q = n - j ∧ j ≤ n ∧ St j h' ∧ h'.PlainList s₂.heap.objs.size ys ∧ ys.size = j ∧ h'.Ns H2.objs.size m' ∧
      (∀ i y, ys[i]? = some y → Row h' .lst y (piece i) ∧ ∀ a ∈ refs y, a ≠ s₂.heap.objs.size ∧ a ≠ H2.objs.size ∧ a ∉ wr) ∧ (∀ b o, b ∉ wr → s₂.heap.get? b = some o → h'.get? b = some o)) ?_ n
      ⟨0, h₁, _, _, #[], rfl, rfl, Nat.zero_le _, hst₁, hacc, rfl, hns₁, fun i y e => by simp at e, fun b o _ e => old b o e⟩ (fun _ => rfl)
    rintro q s' ⟨j, h', tk, m', ys, rfl, rfl, hj, hst', hD', hys, hC', hR, hk⟩
    by_cases hlt : j < n
    · refine W.item j _ _ _ hlt hst' fun v h₂ tk₂ hP hst₂ k₂ => ?_
      replace k₂ : ∀ b o, b ∉ wr → h'.get? b = some o → h₂.get? b = some o := k₂
      have n₂ : h₂.Ns H2.objs.size m' := hC'.at' fun o e => k₂ _ o hCw e
      refine wpAny_assign_Name (wpAny_storeName_local (lookup_relabel_local hx) n₂ (fun h₃ n₃ x₃ => ?_) hpk)
      replace x₃ : Heap.SameBut H2.objs.size h₂ h₃ := x₃
      have st₃ : St (j + 1) h₃ := W.frame _ _ _ hst₂ fun b hb o e => x₃.extBut b o (fun h => hCf (h ▸ hb)) e
      have k₃ : ∀ b o, b ∉ wr → s₂.heap.get? b = some o → h₃.get? b = some o := fun b o hb e => x₃.extBut _ _ (fun q => by rw [q, fC] at e; cases e) (k₂ _ _ hb (hk _ _ hb e))
      refine wpAny_mono (helt H2.objs.size j v _ _ _ hCle hlt hP st₃ n₃ (if_pos rfl) k₃) (fun y s₄ r => ?_) fun _ _ e => e
      obtain ⟨⟨h₄, tk₄, rfl, l₄, R₄⟩, fr⟩ := r
      replace l₄ : Lasts h₃ h₄ := l₄
      have D₃ : h₃.PlainList s₂.heap.objs.size ys := hD'.at fun o e => x₃.extBut _ _ hDC (k₂ _ _ hDw e)
      refine wpAny_list_append_plain (hsz := by omega) (D₃.at fun o e => l₄ _ _ e) fun h₅ hl₅ hs₅ => ?_
      replace hs₅ : Heap.SameBut s₂.heap.objs.size h₄ h₅ := hs₅
      refine ⟨n - (j + 1), by omega, j + 1, h₅, tk₄, _, ys.push y, rfl, rfl, by omega, ?_, hl₅, by simp [hys], (n₃.keeps l₄).sameBut hs₅ (Ne.symm hDC), ?_, ?_⟩
      · exact W.frame _ _ _ st₃ fun b hb o e => hs₅.extBut b o (fun h => hDf (h ▸ hb)) (l₄ b o e)
      · intro i y' e
        rw [Array.getElem?_push] at e
        split at e
        · rename_i hi
          cases e
          have ei : i = j := by omega
          subst ei
          have frD : ∀ a ∈ refs y, a ≠ s₂.heap.objs.size ∧ a ≠ H2.objs.size ∧ a ∉ wr := fun a ha => by
            have f := (fr a ha).1
            refine ⟨?_, ?_, (fr a ha).2⟩
            · rintro rfl; obtain ⟨n', e⟩ := D₃; exact absurd (f.symm.trans e) (by simp)
            · rintro rfl; obtain ⟨o, _, _, e, _⟩ := n₃; exact absurd (f.symm.trans e) (by simp)
          exact ⟨R₄.at fun a ha o e => hs₅.extBut _ _ (frD a ha).1 e, frD⟩
        · obtain ⟨R, ap⟩ := hR i y' e
          exact ⟨R.at fun a ha o e => hs₅.extBut _ _ (ap a ha).1 (l₄ _ _ (x₃.extBut _ _ (ap a ha).2.1 (k₂ _ _ (ap a ha).2.2 e))), ap⟩
      · exact fun b o hb e => hs₅.extBut _ _ (fun q => by rw [q, fD] at e; cases e) (l₄ _ _ (k₃ b o hb e))
    · have ej : j = n := by omega
      subst ej
      refine W.done _ _ _ hst' fun h₂ tk₂ k₂ => ?_
      replace k₂ : ∀ b o, b ∉ wr → h'.get? b = some o → h₂.get? b = some o := k₂
      refine ⟨m', hC'.at' fun o e => k₂ _ o hCw e, fun h₃ x₃ => ?_⟩
      replace x₃ : Heap.SameBut H2.objs.size h₂ h₃ := x₃
      refine hQ _ h₃ tk₂ ys fD (hD'.at fun o e => x₃.extBut _ _ hDC (k₂ _ _ hDw e)) hys (fun i y e => ?_) fun b o hb e => x₃.extBut _ _ (fun q => by rw [q, fC] at e; cases e) (k₂ _ _ hb (hk _ _ hb e))
      obtain ⟨R, ap⟩ := hR i y e
      exact R.at fun a ha o e => x₃.extBut _ _ (ap a ha).2.1 (k₂ _ _ (ap a ha).2.2 e)
  exact codeAny_compStart_list (loop _ rfl) (W.self 0 _ _ _ hst₁ (loop _ rfl))
end
end Mine
end

section
open PySem PySem.W PyProof.Rows PySem.Calls
set_option Elab.async false
set_option maxRecDepth 100000
namespace Mine

local macro_rules | `(tactic| walk_at "nml") => `(tactic| refine nm_local (by assumption) (by with_unfolding_all rfl) ?_ (by with_unfolding_all rfl) (by with_unfolding_all rfl) (by decide))
local macro_rules | `(tactic| walk_at "nma") => `(tactic| refine nm_local (by assumption) (by assumption) ?_ (by with_unfolding_all rfl) (by with_unfolding_all rfl) (by decide))
local macro_rules | `(tactic| walk_at "nmb") => `(tactic| refine nm_boot (by assumption) (by assumption) (by k_is) (by boot_by_name) (by decide) ?_ (by with_unfolding_all rfl) (by with_unfolding_all rfl) rfl rfl (by decide))
local macro_rules | `(tactic| walk_at "nmg") => `(tactic| (refine' nm_global (by assumption) (by assumption) ?k1 ?_ ?k2 ?k3 ?k4 ?k5; (case k1 => k_is); (case k2 => with_unfolding_all rfl); (case k3 => with_unfolding_all rfl); (case k4 => exact rfl); (case k5 => decide)))
local macro_rules | `(tactic| walk_at "ent") => `(tactic| ((case ho => k_is); (case hcd => k_is); (case hb => exact BindsTo.of_eq rfl); (case hl => exact locs rfl); (case c1 => exact rfl); (case c2 => exact rfl); (case c3 => exact rfl); (case c4 => decide)))
local macro_rules | `(tactic| walk_at "sts") => `(tactic| ((case a => with_unfolding_all rfl); (case b => with_unfolding_all rfl)))
local macro_rules | `(tactic| walk_at "nmc") => `(tactic| refine nm_cell (by assumption) (by with_unfolding_all rfl) (by assumption) ?_ (by with_unfolding_all rfl) (by with_unfolding_all rfl) (by decide))

theorem small_step {n c : Nat} (hn : n ≤ 1000) (hc : 1 ≤ c) (hc' : c ≤ 1000) : Builtin.Range.small 0 n c = true := by
  have e := rangeSize_pos (len := (n : Int)) (c := (c : Int)) (by omega) (by omega)
  have h1 : 0 ≤ ((n : Int) + c - 1) / c := Int.ediv_nonneg (by omega) (by omega)
  have h2 : ((n : Int) + c - 1) / c ≤ (n : Int) + c - 1 := Int.ediv_le_self _ (by omega)
  unfold Builtin.Range.small
  rw [e]
  simp only [Builtin.Range.rangeFitsLong, Bool.and_eq_true, Bool.or_eq_true, decide_eq_true_eq, beq_iff_eq, show ((c : Int) > 0) = True from by simp; omega, if_true]
  omega
/-- how many parts -/
def nparts (n c : Nat) : Nat := (n + c - 1) / c
theorem size_parts {n c : Nat} (hc : 1 ≤ c) : Builtin.Range.rangeSize 0 n c = (nparts n c : Nat) := by
  rw [rangeSize_pos (by omega) (by omega)]
  unfold nparts
  have : ((n : Int) + c - 1) = ((n + c - 1 : Nat) : Int) := by omega
  rw [this]; norm_cast
def piece (xs : List Int) (c i : Nat) : List Int := (xs.take (i * c + c)).drop (i * c)

theorem partition_spec (w : World) : ∀ (A : Around) (E : Value → Shared → Prop) (s : Shared) (k : Kd) (c : Nat) (t : Tok) (v1 : Value) (xs : List Int) (Q : Value → Shared → Prop),
    Wd (hd.heap_39 w.params) s.heap → Amb A 8 → Row s.heap k v1 xs → xs.length ≤ 1000 → 1 ≤ c → c ≤ 1000 →
    (∀ D h' tk ys, Lasts s.heap h' → h'.IsList D ys → ys.size = nparts xs.length c → (∀ i y, ys[i]? = some y → Row h' .lst y (piece xs c i)) → Q (.ref D) { s with heap := h', toks := tk }) →
    wpAny (model PySem.Challenge.rw_ad6015_01.row.prog w) A (call (.ref 68) [.int c t, v1]) Q E s := by
  k_fill
  intro A E s k c t v1 xs Q W hA R1 hz1 hc1 hc2 hQ
  refine wpAny_call ?_
  refine' enterC (binds := [(Str.ofString "size", .int c t), (Str.ofString "items", v1)]) W ?ho ?hcd (by have := hA.dep; omega) ?hb ?hl ?_ ?c1 ?c2 ?c3
  case ho => k_is
  case hcd => k_is
  case hl => 
    intro x hx
    simp only [List.mem_cons, List.not_mem_nil, or_false] at hx
    rcases hx with rfl | rfl <;> first | exact .inl rfl | exact .inr ⟨rfl, rfl⟩
  case hb => exact rfl
  case c1 => exact rfl
  case c2 => exact rfl
  case c3 => exact rfl
  intro g h₁ tk l₁ F₁ C
  have C1 : g.IsCell _ (some (.int c t)) := C (Str.ofString "size") _ (by with_unfolding_all rfl)
  have C2 : g.IsCell _ (some v1) := C (Str.ofString "items") _ (by with_unfolding_all rfl)
  replace W := W.mono l₁
  replace R1 := R1.mono l₁
  refine wpAny_execs_cons (wpAny_Return_some ?_)
  refine comp_rows (by with_unfolding_all rfl) (by decide) rfl (by decide) rfl ?_ (fun _ => rfl)
  refine Call_ ?_
  walk_at "nmb"
  refine PyProof.Rows.callWith_type1 (spliced_more (wpAny_Constant_int ?_))
  refine spliced_more (Call_ ?_)
  walk_at "nmb"
  refine PyProof.Rows.callWith_builtin1 (spliced_more ?_)
  walk_at "nmc"
  refine spliced_none ?_
  refine row_len (R1.mono F₁.keep) hz1 fun t3 tk3 => ?_
  refine spliced_more ?_
  walk_at "nmc"
  refine spliced_none ?_
  refine call_range_3 (by omega) ?_ (.inl (PyProof.noPylong_small (by omega)))
  refine wpAny_pyIter_range (IsRange.new ..) (small_step hz1 hc1 hc2) ?_
  rw [size_parts hc1]
  generalize hn : nparts xs.length c = n
  have hnle : n ≤ 2000 := by
    rw [← hn]; unfold nparts
    have := Nat.div_le_self (xs.length + c - 1) c
    omega
  generalize hg₁ : (h₁.push { cls := .type "range", data := .fields #[.int 0 tk, .int (xs.length : Nat) t3, .int c t] }) = g₁ at *
  have l₂ : Lasts h₁ g₁ := hg₁ ▸ Lasts.push _ _
  have gI : g.get? g₁.objs.size = none := none_back (F₁.keep.trans l₂) (fresh_size _)
  have hit : IsRangeIter (g₁.push { cls := .type "range_iterator", data := .fields #[rawInt 0, rawInt (n : Int), rawInt c] }) g₁.objs.size (0 + ((0 : Nat) : Int) * c) ((n : Int) - ((0 : Nat) : Int)) c := by
    have := Heap.get?_push_size g₁ (o := { cls := .type "range_iterator", data := .fields #[rawInt 0, rawInt (n : Int), rawInt c] }) rfl
    simpa using this
  have l₃ : Lasts g₁ (g₁.push { cls := .type "range_iterator", data := .fields #[rawInt 0, rawInt (n : Int), rawInt c] }) := Lasts.push _ _
  refine ⟨g₁.objs.size, [g₁.objs.size], [g₁.objs.size], n, fun i v => ∃ t, v = .int (0 + i * c) t, fun i h => IsRangeIter h g₁.objs.size (0 + (i : Nat) * c) ((n : Int) - (i : Nat)) c, rfl, Walks.range (by exact hA.hh) _ 0 c n, by rw [sizeLine_eq]; omega, by exact hit, ?_, fun i => piece xs c i, ?_, ?_⟩
  · intro b hb; simp at hb; rw [hb]; show _ < (g₁.push _).objs.size; rw [Heap.size_push]; omega
  · rintro L i v s₃ m₃ E' hL hi ⟨ti, rfl⟩ st hn' hm hk
    rw [show (0 + (i : Int) * c) = ((i * c : Nat) : Int) by push_cast; omega] at hm
    have F₃ : Fs g L s₃.heap m₃ := ⟨hn', fun b o e => hk b o (by intro hb; simp at hb; rw [hb, gI] at e; cases e) (l₃ _ _ (l₂ _ _ (F₁.keep _ _ e))), by
      cases e : g.get? L with
      | none => rfl
      | some o => have h1 := Heap.lt_size (l₃ _ _ (l₂ _ _ (F₁.keep _ _ e))); exact absurd hL (Nat.not_le.mpr h1)⟩
    refine Call_ ?_
    walk_at "nmb"
    refine PyProof.Rows.callWith_type1 (spliced_more (Subscript_ ?_))
    walk_at "nmc"
    refine wpAny_Slice (evalPart_some_step ?_)
    refine wpAny_Name (wpAny_loadName_local (by with_unfolding_all rfl) (by with_unfolding_all rfl) hn' hm ?_) (by decide)
    refine evalPart_some_step (wpAny_BinOp ?_)
    refine wpAny_Name (wpAny_loadName_local (by with_unfolding_all rfl) (by with_unfolding_all rfl) hn' hm ?_) (by decide)
    walk_at "nmc"
    refine add_int ?_
    refine evalPart_none_step ?_
    refine row_slice (lo := some (i * c)) (hi := some (i * c + c)) (R1.mono F₃.keep) hz1 (.int _ _) (by exact End.int (i * c + c) _) (fun p1 h₄ tk₄ (l₄ : Lasts s₃.heap h₄) (P₄ : Row h₄ k p1 (piece xs c i)) => ?_) (fun _ _ => rfl)
    refine spliced_none ?_
    refine row_listF P₄ hA.hh (by unfold piece; rw [List.length_drop, List.length_take]; omega) fun h₅ tk₅ l₅ P₅ => ?_
    replace l₅ : Lasts h₄ h₅ := l₅
    refine ⟨⟨h₅, tk₅, rfl, l₄.trans l₅, P₅⟩, fun a ha => ?_⟩
    simp only [refs, List.mem_singleton] at ha
    subst ha
    have f : s₃.heap.get? h₄.objs.size = none := none_back l₄ (fresh_size _)
    refine ⟨f, fun hb => ?_⟩
    simp at hb
    have st' : s₃.heap.get? g₁.objs.size = _ := st
    cases (hb ▸ f).symm.trans st'
  · intro D h' tk' ys hD hl hz hR hk
    refine hQ D h' tk' ys (fun b o e => ?_) hl.isList (hn ▸ hz) hR
    have e2 := l₂ _ _ (F₁.keep _ _ (l₁ _ _ e))
    exact hk b o (by intro hb; simp at hb; rw [hb] at e2; cases (fresh_size g₁).symm.trans e2) (l₃ _ _ e2)
end Mine
end

section
open PySem PySem.W PyProof.Rows PySem.Calls
set_option Elab.async false
set_option maxRecDepth 100000
set_option maxHeartbeats 4000000
namespace Mine

local macro_rules | `(tactic| walk_at "nml") => `(tactic| refine nm_local (by assumption) (by with_unfolding_all rfl) ?_ (by with_unfolding_all rfl) (by with_unfolding_all rfl) (by decide))
local macro_rules | `(tactic| walk_at "nma") => `(tactic| refine nm_local (by assumption) (by assumption) ?_ (by with_unfolding_all rfl) (by with_unfolding_all rfl) (by decide))
local macro_rules | `(tactic| walk_at "nmb") => `(tactic| refine nm_boot (by assumption) (by assumption) (by k_is) (by boot_by_name) (by decide) ?_ (by with_unfolding_all rfl) (by with_unfolding_all rfl) rfl rfl (by decide))
local macro_rules | `(tactic| walk_at "nmg") => `(tactic| (refine' nm_global (by assumption) (by assumption) ?k1 ?_ ?k2 ?k3 ?k4 ?k5; (case k1 => k_is); (case k2 => with_unfolding_all rfl); (case k3 => with_unfolding_all rfl); (case k4 => exact rfl); (case k5 => decide)))
local macro_rules | `(tactic| walk_at "ent") => `(tactic| ((case ho => k_is); (case hcd => k_is); (case hb => exact BindsTo.of_eq rfl); (case hl => exact locs rfl); (case c1 => exact rfl); (case c2 => exact rfl); (case c3 => exact rfl); (case c4 => decide)))
local macro_rules | `(tactic| walk_at "sts") => `(tactic| ((case a => with_unfolding_all rfl); (case b => with_unfolding_all rfl)))
local macro_rules | `(tactic| walk_at "nmc") => `(tactic| refine nm_cell (by assumption) (by with_unfolding_all rfl) (by assumption) ?_ (by with_unfolding_all rfl) (by with_unfolding_all rfl) (by decide))

/-! plain facts of the parts -/
theorem piece_len (xs : List Int) (c i : Nat) : (piece xs c i).length = min (i * c + c) xs.length - i * c := by
  unfold piece; rw [List.length_drop, List.length_take]
theorem part_in {n c i : Nat} (hc : 1 ≤ c) (h : i < nparts n c) : i * c < n := by
  unfold nparts at h
  have h1 : (i + 1) * c ≤ n + c - 1 := (Nat.le_div_iff_mul_le (by omega)).mp h
  rw [Nat.add_mul, Nat.one_mul] at h1
  omega
theorem part_full {n c i : Nat} (hc : 1 ≤ c) (h : i + 1 < nparts n c) : i * c + c < n := by
  have := part_in hc h
  rw [Nat.add_mul, Nat.one_mul] at this
  exact this
theorem parts_all {n c : Nat} (hc : 1 ≤ c) : n ≤ nparts n c * c := by
  unfold nparts
  have h1 : n + c - 1 < ((n + c - 1) / c + 1) * c := by
    have := Nat.lt_mul_div_succ (n + c - 1) (show 0 < c by omega)
    rw [Nat.mul_comm] at this
    exact this
  rw [Nat.add_mul, Nat.one_mul] at h1
  omega
theorem piece_snoc (xs : List Int) (c i : Nat) : xs.take (i * c) ++ piece xs c i = xs.take ((i + 1) * c) := by
  unfold piece
  have e : (i + 1) * c = i * c + c := by rw [Nat.add_mul, Nat.one_mul]
  rw [e]
  have := List.take_append_drop (i * c) (xs.take (i * c + c))
  rw [List.take_take, Nat.min_eq_left (by omega)] at this
  exact this

theorem all_but_last (ys : Array Value) : slicePick ys none (some (-1)) none = (ys.toList.take (ys.size - 1)).toArray := by
  rw [slicePick_plain]
  have : clipAt ys.size (-1) = ys.size - 1 := by unfold clipAt; simp only [show ((-1 : Int) < 0) = True from by simp, if_true]; omega
  simp [this]
theorem paired_none {α : Type} {F : α → α → Prop} {l l₂ : List α} (h : Paired F (l.filter fun _ => false) l₂) : l₂ = [] := by
  have e : l.filter (fun _ => false) = [] := List.filter_eq_nil_iff.mpr fun _ _ q => by cases q
  rw [e] at h
  cases h; rfl
theorem Row.ext3 {g h : Heap} {k : Kd} {v : Value} {ns : List Int} (R : Row g k v ns) (P : Addr → Prop) (l : ∀ b o, ¬ P b → g.get? b = some o → h.get? b = some o)
    (hP : ∀ b o, P b → g.get? b = some o → (∃ es ep, o.data = .dict es ep) ∨ (o.cls ≠ .type "list" ∧ o.cls ≠ .type "tuple")) : Row h k v ns := by
  cases k with
  | tup =>
    obtain ⟨a, vs, e, ⟨o, ho, hc, n, hd⟩, hi⟩ := R
    refine ⟨a, vs, e, ⟨o, l _ _ (fun q => ?_) ho, hc, n, hd⟩, hi⟩
    rcases hP _ _ q ho with ⟨es, ep, h'⟩ | h'
    · rw [hd] at h'; cases h'
    · exact h'.2 hc
  | lst =>
    obtain ⟨a, vs, e, ⟨o, ho, hc, n, hd⟩, hi⟩ := R
    refine ⟨a, vs, e, ⟨o, l _ _ (fun q => ?_) ho, hc, n, hd⟩, hi⟩
    rcases hP _ _ q ho with ⟨es, ep, h'⟩ | h'
    · rw [hd] at h'; cases h'
    · exact h'.1 hc
  | byt => exact R
theorem row_ref {h : Heap} {v : Value} {ns : List Int} (R : Row h .lst v ns) : ∃ a o, v = .ref a ∧ h.get? a = some o ∧ o.cls = .type "list" := by
  obtain ⟨a, vs, rfl, ⟨o, ho, hc, _⟩, _⟩ := R
  exact ⟨a, o, rfl, ho, hc⟩

section
variable {prog : Program} {w : World} {A : Around} {E : Value → Shared → Prop} {s : Shared}
/-- l[:-1] of a list -/
theorem list_init {Q : Value → Shared → Prop} {x : Str} {p : Pos} {slice : PySem.Expr} {D : Addr} {ys : Array Value} {t : Tok} (hD : s.heap.IsList D ys) (hz : ys.size ≤ 2000)
    (h : ∀ B h', Lasts s.heap h' → h'.IsList B (ys.toList.take (ys.size - 1)).toArray → Q (.ref B) { s with heap := h' })
    (hs : ∀ o i, subscripted slice false o i = operate [i, o] (getItem o i)) :
    wpAny (model prog w) A (subscriptTail (.Name x p) slice (.ref D) (.ref s.heap.objs.size)) Q E { s with heap := s.heap.push { cls := .type "slice", data := .fields #[.none, .int (-1) t, .none] } } := by
  have hl' := hD.push { cls := .type "slice", data := .fields #[.none, .int (-1) t, .none] }
  refine tail_of_ItemOn ⟨"list", _, list_getitem_lookup, Heap.IsList.typeIs (s := { s with heap := s.heap.push { cls := .type "slice", data := .fields #[.none, .int (-1) t, .none] } }) hl',
    wpAny_getItem_list_slice hl' (Heap.IsSliceOf.new ..) .none (.int (-1) _) .none (by simp) ?_ (by rw [sizeLine_eq]; omega)⟩ (hs _ _) (fun _ => rfl)
  refine h _ _ (Lasts.trans (Lasts.push _ _) (Lasts.push _ _)) ⟨_, Heap.get?_push_size _ rfl, rfl, 0, ?_⟩
  show Data.seq (slicePick ys none (some (-1)) none) 0 = _
  rw [all_but_last]
end

section
variable {prog : Program} {w : World} {A : Around} {E : Value → Shared → Prop} {s : Shared} {env : Env} {m : Str → Option Value} {g : Heap}
theorem row_eq_self {k : Kd} {v1 v2 : Value} {xs : List Int} {Q : Value → Shared → Prop} (R1 : Row s.heap k v1 xs) (R2 : Row s.heap k v2 xs) (hu : A.units + 64 < cLine) (h : Q (.bool true) s) : wpAny (model prog w) A (compareOp .Eq v1 v2) Q E s :=
  row_eq R1 R2 hu (by rw [decide_eq_true (rfl : xs = xs)]; exact h)
theorem row_ne_self {v1 v2 : Value} {xs : List Int} {Q : Value → Shared → Prop} (R1 : Row s.heap .lst v1 xs) (R2 : Row s.heap .lst v2 xs) (hu : A.units + 64 < cLine) (h : Q (.bool false) s) : wpAny (model prog w) A (compareOp .NotEq v1 v2) Q E s :=
  row_ne R1 R2 hu (by rw [decide_eq_true (rfl : xs = xs)]; exact h)
/-- for x in (a list): body -/
theorem loop_list {R : Result → Shared → Prop} {x : Str} {px : Pos} {body : List Stmt} {D : Addr} {ys : Array Value} (hh : A.handled = none) (hD : s.heap.IsList D ys) (hx : env.kindOf x = some .local) (hsk : env.scope.kind = .function)
    (F : Fs g env.locals s.heap m) (J : Nat → (Str → Option Value) → Heap → Prop) (h0 : J 0 m s.heap) (hJe : ∀ m h h', J 0 m h → Lasts h h' → J 0 m h')
    (turn : ∀ j v m₁ h₁ (s₁ : Shared) E' (I : Addr), env.locals ≠ I → env.locals ≠ D → ys[j]? = some v → J j m₁ h₁ → Fs g env.locals h₁ m₁ → (∀ b o, b ≠ env.locals → b ≠ I → h₁.get? b = some o → s₁.heap.get? b = some o) → (∃ o, h₁.get? I = some o ∧ o.cls = .type "list_iterator") →
      Fs g env.locals s₁.heap (fun y => if y = x then some v else m₁ y) →
      wpAny (model prog w) A (execs body env) (fun f s₂ => ∃ h₂ tk₂ m₂, s₂ = { s₁ with heap := h₂, toks := tk₂ } ∧ f = .next ∧ (∀ b o, b ≠ env.locals → s₁.heap.get? b = some o → h₂.get? b = some o) ∧ Fs g env.locals h₂ m₂ ∧ J (j + 1) m₂ h₂) E' s₁)
    (hdone : ∀ h₁ h' tk m' (I : Addr), J ys.size m' h₁ → Fs g env.locals h₁ m' → (∀ b o, b ≠ I → h₁.get? b = some o → h'.get? b = some o) → (∃ o, h₁.get? I = some o ∧ o.cls = .type "list_iterator") → Fs g env.locals h' m' → R (.ok .next) { s with heap := h', toks := tk }) :
    wpAny (model prog w) A (pyIter (.ref D)) (fun it s₂ => codeAny (model prog w) A (.forLoop (.Name x px) it body [] env) R s₂) E s := by
  refine wpAny_pyIter_list hD ?_
  have l₈ := Lasts.push s.heap { cls := .type "list_iterator", data := .fields #[.ref D, .int 0 0] }
  have nD : D ≠ s.heap.objs.size := by rintro rfl; obtain ⟨o, e, _⟩ := hD; exact absurd (Heap.lt_size e) (Nat.lt_irrefl _)
  have gI : g.get? s.heap.objs.size = none := none_back F.keep (fresh_size _)
  have hit : (s.heap.push { cls := .type "list_iterator", data := .fields #[.ref D, .int 0 0] }).IsListIter s.heap.objs.size D 0 := ⟨_, Heap.get?_push_size _ rfl, rfl, rfl⟩
  have D₈ : (s.heap.push { cls := .type "list_iterator", data := .fields #[.ref D, .int 0 0] }).IsList D ys := let ⟨o, a, b⟩ := hD; ⟨o, l₈ _ _ a, b⟩
  have F₈ := F.ext l₈
  have LI : env.locals ≠ s.heap.objs.size := fun q => by
    obtain ⟨o, es, ep, e1, e2, _⟩ := F₈.ns
    obtain ⟨o', e3, _, e4⟩ := hit
    rw [q] at e1; cases e1.symm.trans e3; rw [e4] at e2; cases e2
  have LD : env.locals ≠ D := fun q => by
    obtain ⟨o, es, ep, e1, e2, _⟩ := F₈.ns
    obtain ⟨o', e3, _, n', e4⟩ := D₈
    rw [q] at e1; cases e1.symm.trans e3; rw [e4] at e2; cases e2
  refine loop_walk (walks_lt (Walks.list hh s.heap.objs.size D nD ys)) hx hsk (by simp only [List.mem_cons, List.not_mem_nil, or_false, not_or]; exact ⟨LI, LD⟩) (by intro b hb; simp at hb; rw [hb]; exact gI) ⟨hit, D₈⟩ F₈
    (fun j m h => J j m h ∧ ∃ o, h.get? s.heap.objs.size = some o ∧ o.cls = .type "list_iterator") ⟨hJe _ _ _ h0 l₈, let ⟨o, e, cc, _⟩ := hit; ⟨o, e, cc⟩⟩ ?_ ?_
  · rintro j v m₁ h₁ s₁ E' hj ⟨_, hv⟩ ⟨hJ, hI⟩ F₁ k₁ st F'
    refine wpAny_mono (turn j v m₁ h₁ s₁ E' _ LI LD hv hJ F₁ (fun b o b1 b2 e => k₁ b o b1 (by simpa using b2) e) hI F') (fun f s₃ r => ?_) fun _ _ q => q
    obtain ⟨h₃, tk₃, m₃, rfl, rfl, k₃, F₃, hJ₃⟩ := r
    obtain ⟨⟨o', e', c', _⟩, _⟩ := st
    refine ⟨h₃, tk₃, m₃, rfl, rfl, fun b hb o e => k₃ b o (fun q => ?_) e, F₃, hJ₃, o', k₃ _ _ (Ne.symm LI) e', c'⟩
    simp only [List.mem_cons, List.not_mem_nil, or_false] at hb
    rcases hb with hb | hb
    · exact LI (q.symm.trans hb)
    · exact LD (q.symm.trans hb)
  · rintro h₁ h' tk m' ⟨hJ, hI⟩ F₁ k₁ F'
    exact hdone h₁ h' tk m' _ hJ F₁ (fun b o b1 e => k₁ b o (by simpa using b1) e) hI F'
end

theorem cuts_spec (w : World) : ∀ (A : Around) (E : Value → Shared → Prop) (s : Shared) (k : Kd) (c : Nat) (t : Tok) (D : Addr) (ys : Array Value) (v1 : Value) (xs : List Int) (Q : Value → Shared → Prop),
    Wd (hd.heap_39 w.params) s.heap → Amb A 8 → Row s.heap k v1 xs → xs.length ≤ 1000 → 1 ≤ c → c ≤ 1000 →
    s.heap.IsList D ys → ys.size = nparts xs.length c → (∀ i y, ys[i]? = some y → Row s.heap .lst y (piece xs c i)) →
    (∀ h' tk, Lasts s.heap h' → Q (.bool true) { s with heap := h', toks := tk }) →
    wpAny (model PySem.Challenge.rw_ad6015_01.row.prog w) A (call (.ref 99) [v1, .int c t, .ref D]) Q E s := by
  k_fill
  intro A E s k c t D ys v1 xs Q W hA R1 hz1 hc1 hc2 hD hys hP hQ
  refine wpAny_call ?_
  refine' enterC (binds := [(Str.ofString "row", v1), (Str.ofString "size", .int c t), (Str.ofString "told", .ref D)]) W ?ho ?hcd (by have := hA.dep; omega) ?hb ?hl ?_ ?c1 ?c2 ?c3
  case ho => k_is
  case hcd => k_is
  case hl => 
    intro x hx
    simp only [List.mem_cons, List.not_mem_nil, or_false] at hx
    rcases hx with rfl | rfl | rfl <;> first | exact .inl rfl | exact .inr ⟨rfl, rfl⟩
  case hb => exact rfl
  case c1 => exact rfl
  case c2 => exact rfl
  case c3 => exact rfl
  intro g h₁ tk l₁ F₁ C
  have C1 : g.IsCell _ (some (.int c t)) := C (Str.ofString "size") _ (by with_unfolding_all rfl)
  replace W := W.mono l₁
  replace R1 := R1.mono l₁
  replace hD : g.IsList D ys := let ⟨o, a, b⟩ := hD; ⟨o, l₁ _ _ a, b⟩
  replace hP : ∀ i y, ys[i]? = some y → Row g .lst y (piece xs c i) := fun i y e => (hP i y e).mono l₁
  have hn : nparts xs.length c ≤ 2000 := by
    unfold nparts
    have := Nat.div_le_self (xs.length + c - 1) c
    omega
  have pl : ∀ i, (piece xs c i).length ≤ 1000 := fun i => by rw [piece_len]; omega
  -- the first comprehension
  refine wpAny_execs_cons (wpAny_If (wpAny_isTrue_Compare1 ?_))
  refine wpAny_ListComp_free (fun _ => false) (fun v y => y = v) (by with_unfolding_all rfl) (by decide) rfl (by decide) rfl ?_ (fun _ => rfl)
  walk_at "nml"
  have D₁ : h₁.IsList D ys := let ⟨o, a, b⟩ := hD; ⟨o, F₁.keep _ _ a, b⟩
  refine wpAny_pyIter_list D₁ ?_
  have l₂ := Lasts.push h₁ { cls := .type "list_iterator", data := .fields #[.ref D, .int 0 0] }
  have nD : D ≠ h₁.objs.size := by rintro rfl; obtain ⟨o, e, _⟩ := D₁; exact absurd (Heap.lt_size e) (Nat.lt_irrefl _)
  have gI : g.get? h₁.objs.size = none := none_back F₁.keep (fresh_size _)
  refine ⟨h₁.objs.size, [h₁.objs.size, D], [h₁.objs.size], ys.size, fun i v => i < ys.size ∧ ys[i]? = some v, fun i h => h.IsListIter h₁.objs.size D i ∧ h.IsList D ys, rfl, walks_lt (Walks.list (by exact hA.hh) _ D nD ys), by rw [sizeLine_eq]; omega,
    ⟨⟨_, Heap.get?_push_size _ rfl, rfl, rfl⟩, let ⟨o, a, b⟩ := D₁; ⟨o, l₂ _ _ a, b⟩⟩, ?_, ⟨?_, ?_⟩, ?_⟩
  · intro b hb
    simp only [List.mem_cons, List.not_mem_nil, or_false] at hb
    show b < (h₁.push _).objs.size
    rw [Heap.size_push]
    rcases hb with hb | hb
    · rw [hb]; exact Nat.lt_succ_self _
    · rw [hb]; obtain ⟨o, e, _⟩ := D₁; exact Nat.lt_succ_of_lt (Heap.lt_size e)
  · rintro L i v s₃ m₃ E' hL ⟨hi, hv⟩ hn' hm hk htk
    have F₃ : Fs g L s₃.heap m₃ := ⟨hn', fun b o e => hk b o (by intro hb; simp at hb; rw [hb, gI] at e; cases e) (l₂ _ _ (F₁.keep _ _ e)), by
      cases e : g.get? L with
      | none => rfl
      | some o => have h1 := Heap.lt_size (l₂ _ _ (F₁.keep _ _ e)); exact absurd hL (Nat.not_le.mpr h1)⟩
    have Rv : Row s₃.heap .lst v (piece xs c i) := (hP i v hv).mono F₃.keep
    obtain ⟨a, o, rfl, ho, hc⟩ := row_ref Rv
    have hin := part_in hc1 (hys ▸ hi)
    rw [List.forIn_cons]
    refine wpAny_bind (if_so rfl (wpAny_bind (isTrue_or (isTrue_not (isTrue_plain (Call_ ?_))))))
    walk_at "nmb"
    refine PyProof.Rows.callWith_builtin1 (spliced_more ?_)
    refine wpAny_Name (wpAny_loadName_local (by with_unfolding_all rfl) (by with_unfolding_all rfl) hn' hm ?_) (by decide)
    refine spliced_more ?_
    walk_at "nmb"
    refine spliced_none ?_
    refine PySem.IsiPair.list_list ho hc ?_
    refine wpAny_truthy_bool ?_
    refine isTrue_or (wpAny_isTrue_Compare1 ?_)
    refine wpAny_Name (wpAny_loadName_local (by with_unfolding_all rfl) (by with_unfolding_all rfl) hn' hm ?_) (by decide)
    refine wpAny_List (spliced_none ⟨by simp, ?_⟩)
    have l₄ := Lasts.push s₃.heap { cls := .type "list", data := .seq ([] : List Value).toArray }
    have F₄ := F₃.ext l₄
    refine row_eq (k := .lst) (ys := []) (Rv.mono l₄) ⟨_, [], rfl, ⟨_, Heap.get?_push_size _ rfl, rfl, 0, rfl⟩, .nil⟩ (by have := hA.un; show A.units + 3 + 64 < cLine; omega) ?_
    refine wpAny_truthy_bool ?_
    have e1 : decide (piece xs c i = []) = false := decide_eq_false fun q => by have := congrArg List.length q; rw [piece_len] at this; simp at this; omega
    rw [e1]
    refine isTrue_or (wpAny_isTrue_Compare1 (Call_ ?_))
    walk_at "nmb"
    refine PyProof.Rows.callWith_builtin1 (spliced_more ?_)
    refine wpAny_Name (wpAny_loadName_local (by with_unfolding_all rfl) (by with_unfolding_all rfl) (hn'.keeps l₄) hm ?_) (by decide)
    refine spliced_none ?_
    refine row_len (Rv.mono l₄) (pl i) fun t5 tk5 => ?_
    walk_at "nmc"
    refine PyProof.Rows.gt_int ?_
    refine wpAny_truthy_bool ?_
    have e2 : decide ((c : Int) < ((piece xs c i).length : Nat)) = false := decide_eq_false (by rw [piece_len]; omega)
    rw [e2]
    refine isTrue_or_nil ?_
    refine wpAny_pure ?_
    exact wpAny_pure ⟨rfl, _, _, rfl, l₄⟩
  · rintro L i v s₃ m₃ E' hL hv hpv hn' hm hk htk
    cases hpv
  · intro D' h' tk' zs vs hD' hl hpl hlen hPv hF hk
    have ez := paired_none hF
    have l₃ : Lasts h₁ h' := fun b o e => hk b o (by intro hb; simp at hb; rw [hb] at e; cases (fresh_size h₁).symm.trans e) (l₂ _ _ e)
    clear hk l₂ hPv hF
    have RD : Row h' .lst (.ref D') [] := ⟨D', zs.toList, rfl, by simpa using hl, by rw [ez]; exact .nil⟩
    refine wpAny_List (spliced_none ⟨by simp, ?_⟩)
    have l₄ := Lasts.push h' { cls := .type "list", data := .seq ([] : List Value).toArray }
    refine row_ne (ys := []) (RD.mono l₄) ⟨_, [], rfl, ⟨_, Heap.get?_push_size _ rfl, rfl, 0, rfl⟩, .nil⟩ (by have := hA.un; show A.units + 3 + 64 < cLine; omega) ?_
    refine wpAny_truthy_bool ?_
    have eb : (!decide (([] : List Int) = [])) = false := by simp
    rw [eb]
    refine wpAny_execs_nil ?_
    have F₂ := (F₁.ext l₃).ext l₄
    clear RD hl hpl hD' gI nD D₁ F₁ l₃ hlen
    generalize h'.push { cls := .type "list", data := .seq ([] : List Value).toArray } = h₂ at F₂ ⊢
    clear l₄ ez
    -- the second comprehension
    refine wpAny_execs_cons (wpAny_If (wpAny_isTrue_Compare1 ?_))
    refine wpAny_ListComp_free (fun _ => false) (fun v y => y = v) (by with_unfolding_all rfl) (by decide) rfl (by decide) rfl ?_ (fun _ => rfl)
    refine Subscript_ ?_
    walk_at "nml"
    refine wpAny_Slice (evalPart_none_step (evalPart_some_step (wpAny_UnaryOp (wpAny_Constant_int ?_))))
    refine neg_int ?_
    refine evalPart_none_step ?_
    have D₂ : h₂.IsList D ys := let ⟨o, a, b⟩ := hD; ⟨o, F₂.keep _ _ a, b⟩
    refine list_init D₂ (by omega) (fun B h₃ (l₃ : Lasts h₂ h₃) (D₃ : h₃.IsList B (ys.toList.take (ys.size - 1)).toArray) => ?_) (fun _ _ => rfl)
    have F₃ := F₂.ext l₃
    clear F₂ l₃ D₂
    have hz3 : (ys.toList.take (ys.size - 1)).toArray.size = ys.size - 1 := by simp
    have hg3 : ∀ i v, (ys.toList.take (ys.size - 1)).toArray[i]? = some v → i < ys.size - 1 ∧ ys[i]? = some v := fun i v e => by
      rw [List.getElem?_toArray, List.getElem?_take] at e
      split at e
      · rename_i hi; exact ⟨hi, by simpa using e⟩
      · cases e
    generalize (ys.toList.take (ys.size - 1)).toArray = zs3 at D₃ hz3 hg3
    refine wpAny_pyIter_list D₃ ?_
    have l₂ := Lasts.push h₃ { cls := .type "list_iterator", data := .fields #[.ref B, .int 0 0] }
    have nD : B ≠ h₃.objs.size := by rintro rfl; obtain ⟨o, e, _⟩ := D₃; exact absurd (Heap.lt_size e) (Nat.lt_irrefl _)
    have gI : g.get? h₃.objs.size = none := none_back F₃.keep (fresh_size _)
    refine ⟨h₃.objs.size, [h₃.objs.size, B], [h₃.objs.size], zs3.size, fun i v => i < zs3.size ∧ zs3[i]? = some v, fun i h => h.IsListIter h₃.objs.size B i ∧ h.IsList B zs3, rfl, walks_lt (Walks.list (by exact hA.hh) _ B nD zs3), by rw [sizeLine_eq]; omega,
      ⟨⟨_, Heap.get?_push_size _ rfl, rfl, rfl⟩, let ⟨o, a, b⟩ := D₃; ⟨o, l₂ _ _ a, b⟩⟩, ?_, ⟨?_, ?_⟩, ?_⟩
    · intro b hb
      simp only [List.mem_cons, List.not_mem_nil, or_false] at hb
      show b < (h₃.push _).objs.size
      rw [Heap.size_push]
      rcases hb with hb | hb
      · rw [hb]; exact Nat.lt_succ_self _
      · rw [hb]; obtain ⟨o, e, _⟩ := D₃; exact Nat.lt_succ_of_lt (Heap.lt_size e)
    · rintro L i v s₃ m₃ E' hL ⟨_, hv'⟩ hn' hm hk htk
      obtain ⟨hi, hv⟩ := hg3 i v hv'
      have F₄ : Fs g L s₃.heap m₃ := ⟨hn', fun b o e => hk b o (by intro hb; simp at hb; rw [hb, gI] at e; cases e) (l₂ _ _ (F₃.keep _ _ e)), by
        cases e : g.get? L with
        | none => rfl
        | some o => have h1 := Heap.lt_size (l₂ _ _ (F₃.keep _ _ e)); exact absurd hL (Nat.not_le.mpr h1)⟩
      have Rv : Row s₃.heap .lst v (piece xs c i) := (hP i v hv).mono F₄.keep
      have hin := part_full (c := c) (i := i) (n := xs.length) hc1 (by omega)
      rw [List.forIn_cons]
      refine wpAny_bind (if_so rfl (wpAny_bind (wpAny_isTrue_Compare1 (Call_ ?_))))
      walk_at "nmb"
      refine PyProof.Rows.callWith_builtin1 (spliced_more ?_)
      refine wpAny_Name (wpAny_loadName_local (by with_unfolding_all rfl) (by with_unfolding_all rfl) hn' hm ?_) (by decide)
      refine spliced_none ?_
      refine row_len Rv (pl i) fun t5 tk5 => ?_
      walk_at "nmc"
      refine ne_int ?_
      refine wpAny_truthy_bool ?_
      have e2 : (piece xs c i).length = c := by rw [piece_len]; omega
      rw [e2]
      refine wpAny_pure ?_
      exact wpAny_pure ⟨by simp, _, _, rfl, Lasts.refl _⟩
    · rintro L i v s₃ m₃ E' hL hv hpv hn' hm hk htk
      cases hpv
    intro D' h' tk' zs vs hD' hl hpl hlen hPv hF hk
    have ez := paired_none hF
    have l₃ : Lasts h₃ h' := fun b o e => hk b o (by intro hb; simp at hb; rw [hb] at e; cases (fresh_size h₃).symm.trans e) (l₂ _ _ e)
    clear hk l₂ hPv hF
    have RD : Row h' .lst (.ref D') [] := ⟨D', zs.toList, rfl, by simpa using hl, by rw [ez]; exact .nil⟩
    refine wpAny_List (spliced_none ⟨by simp, ?_⟩)
    have l₄ := Lasts.push h' { cls := .type "list", data := .seq ([] : List Value).toArray }
    refine row_ne (ys := []) (RD.mono l₄) ⟨_, [], rfl, ⟨_, Heap.get?_push_size _ rfl, rfl, 0, rfl⟩, .nil⟩ (by have := hA.un; show A.units + 3 + 64 < cLine; omega) ?_
    refine wpAny_truthy_bool ?_
    rw [eb]
    refine wpAny_execs_nil ?_
    have F₅ := (F₃.ext l₃).ext l₄
    clear RD hl hpl hD' gI nD D₃ F₃ l₃ hlen
    generalize h'.push { cls := .type "list", data := .seq ([] : List Value).toArray } = h₅ at F₅ ⊢
    clear l₄ ez
    -- the loop
    refine wpAny_execs_cons (wpAny_Assign_Name (wpAny_List (spliced_none ⟨by simp, ?_⟩)))
    have l₆ := Lasts.push h₅ { cls := .type "list", data := .seq ([] : List Value).toArray }
    have F₆ := F₅.ext l₆
    have R₆ : Row (h₅.push { cls := .type "list", data := .seq ([] : List Value).toArray }) .lst (.ref h₅.objs.size) [] := ⟨_, [], rfl, ⟨_, Heap.get?_push_size _ rfl, rfl, 0, rfl⟩, .nil⟩
    generalize h₅.objs.size = W0 at R₆ ⊢
    refine' st_local F₆ (fun h₇ (F₇ : Fs g s.heap.objs.size h₇ _) x₇ => ?_) ?sa0 ?sb0
    case sa0 => with_unfolding_all rfl
    case sb0 => with_unfolding_all rfl
    have R₇ := R₆.store F₆.ns x₇
    clear F₆ R₆ x₇ l₆ F₅
    refine wpAny_execs_cons (wpAny_For ?_ (fun _ => rfl))
    walk_at "nml"
    have D₇ : h₇.IsList D ys := let ⟨o, a, b⟩ := hD; ⟨o, F₇.keep _ _ a, b⟩
    refine loop_list (by exact hA.hh) D₇ (by with_unfolding_all rfl) (by with_unfolding_all rfl) F₇ (fun j m h => m (Str.ofString "row") = some v1 ∧ ∃ r, m (Str.ofString "whole") = some r ∧ Row h .lst r (xs.take (j * c)))
      ⟨by with_unfolding_all rfl, _, by with_unfolding_all rfl, by simpa using R₇⟩ (fun m h h' q l => ⟨q.1, let ⟨r, a, b⟩ := q.2; ⟨r, a, b.mono l⟩⟩) ?_ ?_
    · rintro j v m₁ h₁ s₁ E' I LI LD hv ⟨e1, r, e2, Rr⟩ F k₁ ⟨oI, eI, cI⟩ F'
      have Rr' : Row s₁.heap .lst r (xs.take (j * c)) := Rr.ext3 (fun b => b = s.heap.objs.size ∨ b = I) (fun b o hb e => k₁ b o (fun q => hb (.inl q)) (fun q => hb (.inr q)) e) fun b o hb e => by
        rcases hb with rfl | rfl
        · obtain ⟨o', es, ep, h1, h2, _⟩ := F.ns
          cases h1.symm.trans e; exact .inl ⟨es, ep, h2⟩
        · rw [eI] at e; cases e; exact .inr ⟨by rw [cI]; simp, by rw [cI]; simp⟩
      obtain ⟨m₂, F₂', q1, q2, q3⟩ : ∃ m₂, Fs g s.heap.objs.size s₁.heap m₂ ∧ m₂ (Str.ofString "row") = some v1 ∧ m₂ (Str.ofString "whole") = some r ∧ m₂ (Str.ofString "part") = some v :=
        ⟨_, F', by with_unfolding_all exact e1, by with_unfolding_all exact e2, by with_unfolding_all rfl⟩
      clear F'
      refine wpAny_execs_cons (wpAny_Assign_Name (wpAny_BinOp ?_))
      walk_at "nma"
      walk_at "nma"
      refine row_add Rr' ((hP j v hv).mono F₂'.keep) (by rw [List.length_take]; have := pl j; omega) fun r2 h₉ tk₉ l₉ R₉ => ?_
      rw [piece_snoc] at R₉
      have F₉ : Fs g s.heap.objs.size h₉ _ := F₂'.ext l₉
      refine' st_local F₉ (fun h₁₀ (F₁₀ : Fs g s.heap.objs.size h₁₀ _) x₁₀ => ?_) ?sa1 ?sb1
      case sa1 => with_unfolding_all rfl
      case sb1 => with_unfolding_all rfl
      have R₁₀ := R₉.store F₉.ns x₁₀
      replace x₁₀ : Heap.ExtBut s.heap.objs.size h₉ h₁₀ := x₁₀
      exact wpAny_execs_nil ⟨_, _, _, rfl, rfl, fun b o hb e => x₁₀ _ _ hb (l₉ _ _ e), F₁₀, by with_unfolding_all exact q1, r2, by with_unfolding_all rfl, R₁₀⟩
    · rintro h₁ h' tk m' I ⟨e1, r, e2, Rr⟩ F k₁ ⟨oI, eI, cI⟩ F'
      have Rr' : Row h' .lst r (xs.take (ys.size * c)) := Rr.ext3 (fun b => b = I) (fun b o hb e => k₁ b o hb e) fun b o hb e => by
        rw [hb, eI] at e; cases e; exact .inr ⟨by rw [cI]; simp, by rw [cI]; simp⟩
      have ex : xs.take (ys.size * c) = xs := List.take_of_length_le (by rw [hys]; exact parts_all hc1)
      rw [ex] at Rr'
      refine wpAny_execs_cons (wpAny_Return_some (wpAny_Compare1 ?_))
      walk_at "nma"
      refine Call_ ?_
      walk_at "nmb"
      refine PyProof.Rows.callWith_type1 (spliced_more ?_)
      walk_at "nma"
      refine spliced_none ?_
      refine row_list (R1.mono F'.keep) hA.hh hz1 fun r2 h₉ tk₉ l₉ R₉ => ?_
      refine row_eq_self (Rr'.mono l₉) R₉ (by have := hA.un; show A.units + 3 + 64 < cLine; omega) ?_
      exact hQ _ _ (Lasts.trans (l₁.trans F'.keep) l₉)
end Mine
end

section
open PySem PySem.W PyProof.Rows PySem.Calls
set_option Elab.async false
set_option maxRecDepth 100000
set_option maxHeartbeats 4000000
namespace Mine

local macro_rules | `(tactic| walk_at "nml") => `(tactic| refine nm_local (by assumption) (by with_unfolding_all rfl) ?_ (by with_unfolding_all rfl) (by with_unfolding_all rfl) (by decide))
local macro_rules | `(tactic| walk_at "nma") => `(tactic| refine nm_local (by assumption) (by assumption) ?_ (by with_unfolding_all rfl) (by with_unfolding_all rfl) (by decide))
local macro_rules | `(tactic| walk_at "nmb") => `(tactic| refine nm_boot (by assumption) (by assumption) (by k_is) (by boot_by_name) (by decide) ?_ (by with_unfolding_all rfl) (by with_unfolding_all rfl) rfl rfl (by decide))
local macro_rules | `(tactic| walk_at "nmg") => `(tactic| (refine' nm_global (by assumption) (by assumption) ?k1 ?_ ?k2 ?k3 ?k4 ?k5; (case k1 => k_is); (case k2 => with_unfolding_all rfl); (case k3 => with_unfolding_all rfl); (case k4 => exact rfl); (case k5 => decide)))
local macro_rules | `(tactic| walk_at "ent") => `(tactic| ((case ho => k_is); (case hcd => k_is); (case hb => exact BindsTo.of_eq rfl); (case hl => exact locs rfl); (case c1 => exact rfl); (case c2 => exact rfl); (case c3 => exact rfl); (case c4 => decide)))
local macro_rules | `(tactic| walk_at "sts") => `(tactic| ((case a => with_unfolding_all rfl); (case b => with_unfolding_all rfl)))

section
variable {prog : Program} {w : World} {M : Model} {A : Around} {E : Value → Shared → Prop} {s : Shared}
theorem grown_fit {n : Nat} {Q : Value → Shared → Prop} (hn : n < 2 ^ 1000) (h : Q (.int (n : Int) s.toks) { s with toks := s.toks + 1 }) : wpAny M A (mkIntGrown (n : Int)) Q E s := by
  unfold mkIntGrown
  have hl : ¬ ((n : Int).natAbs.log2 ≥ bitsLine) := by
    rw [Int.natAbs_natCast]
    have hb : bitsLine = 134217728 := by first | rfl | decide
    by_cases hz : n = 0
    · subst hz
      rw [hb]
      decide
    · have h1 := (Nat.log2_lt hz).mpr hn
      omega
  rw [if_neg hl]
  exact wpAny_mkInt h

theorem tree_from {b : Array UInt8} {t u : Tok} {P : Fin → Shared → Prop} (hl : b.size ≤ 100) (h : P (.done (.ret (.int (KFB.value (KBw.bInts b)) s.toks))) { s with toks := s.toks + 1 }) :
    wpAny M A (Builtin.«int.from_bytes» ⟨[.type "int", .bytes b t, .str (PySem.Str.ofString "big") u], []⟩) P E s := by
  have hv : ((b.toList.foldl (fun (acc : Nat) (b : UInt8) => acc * 256 + b.toNat) 0 : Nat) : Int) = KFB.value (KBw.bInts b) := KFB.fold_cast b.toList 0
  have hn : b.toList.foldl (fun (acc : Nat) (b : UInt8) => acc * 256 + b.toNat) 0 < 2 ^ 1000 := by
    have h1 := KFB.fold_lt b.toList 0
    rw [Nat.zero_add, Nat.one_mul, Array.length_toList] at h1
    have h2 : 256 ^ b.size ≤ 256 ^ 100 := Nat.pow_le_pow_right (by decide) hl
    have h3 : 256 ^ 100 ≤ 2 ^ 1000 := by decide +kernel
    omega
  unfold Builtin.«int.from_bytes»
  refine wpAny_bind (wpAny_of_eq (a := true) KFB.type_int ?_)
  refine if_no rfl ?_
  refine wpAny_bind (wpAny_of_eq (a := true) F.conv_sub_int ?_)
  refine if_no rfl ?_
  refine wpAny_bind (wpAny_of_eq (a := [some (.bytes b t), some (.str (PySem.Str.ofString "big") u), none]) (by kernel_rfl) ?_)
  refine wpAny_bind (wpAny_of_eq (a := PySem.Str.ofString "big") (by kernel_rfl) ?_)
  refine wpAny_bind (wpAny_of_eq (a := false) rfl ?_)
  refine wpAny_bind (wpAny_of_eq (a := false) (by kernel_rfl) ?_)
  refine wpAny_bind (wpAny_of_eq (a := b) rfl ?_)
  show wpAny _ _ (mkIntGrown (b.toList.foldl (fun (acc : Int) (b : UInt8) => acc * 256 + (b.toNat : Int)) ((0 : Nat) : Int)) >>= fun v => _) _ _ _
  rw [KFB.foldI_eq]
  refine wpAny_bind (grown_fit hn ?_)
  rw [hv]
  refine if_so (by decide +kernel) ?_
  exact wpAny_bind (wpAny_pure (wpAny_pure h))
end

theorem to_int_spec (w : World) : ∀ (A : Around) (E : Value → Shared → Prop) (s : Shared) (b : Array UInt8) (t : Tok) (Q : Value → Shared → Prop),
    Wd (hd.heap_39 w.params) s.heap → Amb A 4 → b.size ≤ 100 →
    (∀ t' h' tk, Lasts s.heap h' → Q (.int (KFB.value (KBw.bInts b)) t') { s with heap := h', toks := tk }) →
    wpAny (model PySem.Challenge.rw_ad6015_01.row.prog w) A (call (.ref 49) [.bytes b t]) Q E s := by
  k_fill
  intro A E s b t Q W hA hz hQ
  refine wpAny_call ?_
  refine' enter (binds := [(Str.ofString "octets", .bytes b t)]) W ?ho ?hcd (by have := hA.dep; omega) ?hb ?hl ?_ ?c1 ?c2 ?c3 ?c4
  walk_at "ent"
  intro h₁ F₁
  have FF : Fr s.heap s.heap.objs.size h₁ _ := ⟨F₁.ns, F₁.keep, Nat.le_refl _⟩
  refine wpAny_execs_cons (wpAny_Return_some (MethodCall_ ?_))
  walk_at "nmb"
  refine' KFB.getm (K := hd.heap_39 w.params) FF News.nil W.K ?kfbE ?_
  case kfbE => k_is
  intro x' h₂ F₂ N₂ lx
  have G₂ : Fs s.heap s.heap.objs.size h₂ _ := ⟨F₂.ns, F₂.keep, F₁.off⟩
  have hx : h₂.get? x' = some KFB.bound := (N₂ _ List.mem_cons_self).1
  refine KFB.callWith_bound N₂ List.mem_cons_self (spliced_more ?_)
  walk_at "nml"
  refine spliced_more (wpAny_Constant_str ?_)
  refine spliced_none ⟨hx, ?_⟩
  refine KFB.call_of (z := KFB.value (KBw.bInts b)) hx (fun z => tree_from hz z) ?_
  exact hQ _ _ _ F₂.keep
end Mine
end

section
open PySem PySem.W PyProof.Rows PySem.Calls
set_option Elab.async false
set_option maxRecDepth 100000
set_option maxHeartbeats 4000000
namespace Mine

open PyProof.Rows in
section
variable {prog : Program} {w : World} {A : Around} {E : Value → Shared → Prop} {s : Shared} {env : Env} {g : Heap} {v : Value} {ns : List Int}

theorem row_mul {Q : Value → Shared → Prop} {x : Int} {u : Tok} (R : Row s.heap .lst v ns) (hz : ns.length ≤ 1000) (h1 : 0 ≤ x) (h2 : x ≤ 1000)
    (h : ∀ r h' tk, Lasts s.heap h' → Row h' .lst r (List.replicate x.toNat ns).flatten → Q r { s with heap := h', toks := tk }) : wpAny (model prog w) A (binaryOp .Mult v (.int x u)) Q E s := by
  obtain ⟨l, vs, rfl, hl, hi⟩ := R
  obtain ⟨⟨cls, d, data, sl⟩, ho, hcl, k, hd⟩ := id hl
  simp only at hcl hd
  subst hcl hd
  have hlen := hi.length
  have hsz' : vs.toArray.size * x.toNat ≤ 2 ^ 24 := by
    have : vs.toArray.size ≤ 1000 := by rw [List.size_toArray, hlen]; exact hz
    have h3 : x.toNat ≤ 1000 := by omega
    exact Nat.le_trans (Nat.mul_le_mul this h3) (by decide)
  refine wpAny_binaryOp_repeat_ref (T := "list") (U := "int") (by decide) ⟨_, ho, rfl⟩ (fun s' => typeIs_int s' x u) noFill_list_mul F.fills_int_mul F.slot_int_rmul repeat_list F.slot_int_index.lookup
    (call_meets F.slot_int_rmul (typeIs_int s x u) F.entry_int_rmul (F.args_int_rmul_2 _ _) (lm_int_rmul_list_any x u l vs.toArray k d sl)
      ⟨ho, rfl, ⟨_, ho, rfl⟩, call_meets F.slot_list_mul ⟨_, ho, rfl⟩ F.entry_list_mul (F.args_list_mul_2 _ _)
        (lm_list_mul_any l vs.toArray k d sl x u (by simp [Builtin.List.listFitsIndex]; omega) (by omega) (by simp [Builtin.List.listTooLong, sizeLine]; omega))
        ⟨ho, ?_⟩⟩)
  rw [listMul_foldl_if]
  exact h _ _ s.toks (Lasts.push _ _) ⟨_, (List.replicate x.toNat vs).flatten, rfl, ⟨_, Heap.get?_push_size _ rfl, rfl, 0, rfl⟩, KM.ints_rep hi _⟩

theorem ints_by : ∀ {ns : List Int} {l : List Value}, l.length = ns.length → (∀ (j : Nat) (n : Int), ns[j]? = some n → ∃ u, l[j]? = some (Value.int n u)) → IntsAre l ns
  | [], l, h, _ => by rw [List.length_eq_zero_iff.mp h]; exact .nil
  | n :: ns, l, h, k => by
    cases l with
    | nil => simp at h
    | cons v r =>
      obtain ⟨u, e⟩ := k 0 n rfl
      simp at e; subst e
      exact .cons n u (ints_by (by simpa using h) fun j m hj => by simpa using k (j + 1) m (by simpa using hj))
theorem paired_at {α β : Type} {F : α → β → Prop} {l₁ : List α} {l₂ : List β} (h : Paired F l₁ l₂) : ∀ (j : Nat) (a : α), l₁[j]? = some a → ∃ b, l₂[j]? = some b ∧ F a b := by
  induction h with
  | nil => intro j a e; simp at e
  | cons f _ ih =>
    intro j a e
    cases j with
    | zero => simp at e; subst e; exact ⟨_, rfl, f⟩
    | succ j => obtain ⟨b, e', f'⟩ := ih j a (by simpa using e); exact ⟨b, by simpa using e', f'⟩

/-- y = [elt for x in iter], ints out of ints -/
theorem assign_comp_ints (f : Int → Int) {elt iter : Expr} {x y : Str} {px py : Pos} {scope : Scope} {cl : List (Str × Addr)} {pos spos : Pos} {Q : Flow → Shared → Prop}
    (hsw : swapsWith (.ListComp elt [⟨.Name x px, iter, [], 0⟩] scope pos) (some (.Name y py)) spos.line env = pure true)
    (hclos : closureFor scope env = pure cl) (hcell : ∀ z ∈ scope.names, z.2 ≠ .cell) (hkind : scope.kind = .function)
    (hnames : ∀ z ∈ scope.names, z.2 = .local → scope.names.lookup z.1 = some .local) (hx : scope.names.lookup x = some .local)
    (hy : env.kindOf y = some .local) (hsk : env.scope.kind = .function)
    (h : wpAny (model prog w) A (eval iter env) (fun xv s₁ => wpAny (model prog w) A (pyIter xv) (fun it s₂ => ∃ I fp wr n P St m, ∃ src : Nat → Int, it = .ref I ∧ Walks prog w A I fp wr n P St ∧ (∀ i v, i < n → P i v → ∃ t, v = .int (src i) t) ∧ n ≤ 1000 ∧ St 0 s₂.heap ∧ (∀ b ∈ fp, b < s₂.heap.objs.size) ∧
      env.locals ∉ wr ∧ (∀ b ∈ wr, g.get? b = none) ∧ Fs g env.locals s₂.heap m ∧
      (∀ C i t (s₃ : Shared) m₃ E', i < n → Fs g C s₃.heap m₃ → m₃ x = some (.int (src i) t) →
        wpAny (model prog w) A (eval elt (compEnvC scope cl C env)) (fun y s₄ => (∃ u, y = .int (f (src i)) u) ∧ ∃ tk, s₄ = { s₃ with toks := tk }) E' s₃) ∧
      (∀ r h' tk, Fs g env.locals h' (fun z => if z = y then some r else m z) → Row h' .lst r ((List.range n).map fun i => f (src i)) → (∀ b o, b ≠ env.locals → b ∉ wr → s₂.heap.get? b = some o → h'.get? b = some o) → Q .next { s₂ with heap := h', toks := tk })) E s₁) E s)
    (hs : ∀ x, foldedSetIterable iter env x = pure x) :
    wpAny (model prog w) A (exec (.Assign [.Name y py] (.ListComp elt [⟨.Name x px, iter, [], 0⟩] scope pos) spos) env) Q E s := by
  refine wpAny_Assign_ListComp_free (fun _ => true) (fun v y => ∃ k t u, v = .int k t ∧ y = .int (f k) u) hsw hclos hcell hkind hnames hx hy (by rw [hsk]; rfl) (wpAny_mono h (fun xv s₁ h₁ => wpAny_mono h₁ (fun it s₂ h₂ => ?_) fun _ _ e => e) fun _ _ e => e) hs
  obtain ⟨I, fp, wr, n, P, St, m, src, rfl, W, hsrc, hn, hst, hfp, hLw, hwg, F₂, helt, hQ⟩ := h₂
  refine ⟨I, fp, wr, n, fun i v => i < n ∧ P i v, St, m, rfl, walks_lt W, by rw [sizeLine_eq]; omega, hst, hfp, hLw, F₂.ns, ⟨?_, ?_⟩, ?_⟩
  · intro C i v s₃ m₃ E' hC hv hn' hm hk htk
    exact wpAny_pure ⟨rfl, s₃.heap, s₃.toks, rfl, Lasts.refl _⟩
  · rintro C i v s₃ m₃ E' hC ⟨hi, hv⟩ _ hn' hm hk htk
    obtain ⟨t, rfl⟩ := hsrc i v hi hv
    have F₃ : Fs g C s₃.heap m₃ := ⟨hn', fun b o e => hk b o (fun hb => by rw [hwg b hb] at e; cases e) (F₂.keep _ _ e), by
      cases e : g.get? C with
      | none => rfl
      | some o => exact absurd hC (Nat.not_le.mpr (Heap.lt_size (F₂.keep _ _ e)))⟩
    refine wpAny_mono (helt C i t s₃ m₃ E' hi F₃ hm) (fun y s₄ r => ?_) fun _ _ e => e
    obtain ⟨⟨u, rfl⟩, tk, rfl⟩ := r
    exact ⟨⟨_, t, u, rfl, rfl⟩, s₃.heap, tk, rfl, Lasts.refl _⟩
  · intro D h' tk ys vs hD hl hpl hlen hP hF hN hk
    have F' : Fs g env.locals h' (fun z => if z = y then some (.ref D) else m z) := ⟨hN, fun b o e => hk b o (by rintro rfl; rw [F₂.off] at e; cases e) (fun hb => by rw [hwg b hb] at e; cases e) (F₂.keep _ _ e), F₂.off⟩
    refine hQ (.ref D) h' tk F' ⟨D, ys.toList, rfl, by simpa using hl, ?_⟩ hk
    have ev : vs.filter (fun _ => true) = vs := List.filter_eq_self.mpr fun _ _ => rfl
    rw [ev] at hF
    refine ints_by (by rw [← hF.length, hlen]; simp) fun j k hj => ?_
    rw [List.getElem?_map] at hj
    cases hr : (List.range n)[j]? with
    | none => rw [hr] at hj; cases hj
    | some i =>
      rw [hr] at hj
      obtain ⟨e1, e2⟩ := range_at hr
      subst e1
      cases hj
      obtain ⟨hi, hv⟩ := hP i vs[i] (List.getElem?_eq_getElem (by omega))
      obtain ⟨t, et⟩ := hsrc i _ hi hv
      obtain ⟨y', ey, k', t', u', f1, f2⟩ := paired_at hF i vs[i] (List.getElem?_eq_getElem (by omega))
      rw [et] at f1
      cases f1
      exact ⟨u', by rw [ey, f2]⟩
end
end Mine
end

section
open PySem PySem.W PyProof.Rows PySem.Calls
set_option Elab.async false
set_option maxRecDepth 100000
set_option maxHeartbeats 4000000
namespace Mine


section
variable {prog : Program} {w : World} {A : Around} {E : Value → Shared → Prop} {s : Shared} {env : Env} {g : Heap} {m : Str → Option Value}
/-- the source of a comprehension: a list of ints -/
theorem comp_list {elt : Expr} {x y : Str} {scope : Scope} {cl : List (Str × Addr)} {post : Shared → Heap → Tok → Prop} {f : Int → Int} {v : Value} {xs : List Int} (hh : A.handled = none) (R : Row s.heap .lst v xs) (hz : xs.length ≤ 1000) (F : Fs g env.locals s.heap m)
    (helt : ∀ C i t (s₃ : Shared) m₃ E', i < xs.length → Fs g C s₃.heap m₃ → m₃ x = some (.int (xs.getD i 0) t) →
      wpAny (model prog w) A (eval elt (compEnvC scope cl C env)) (fun y s₄ => (∃ u, y = .int (f (xs.getD i 0)) u) ∧ ∃ tk, s₄ = { s₃ with toks := tk }) E' s₃)
    (hQ : ∀ r h' tk, Fs g env.locals h' (fun z => if z = y then some r else m z) → Row h' .lst r ((List.range xs.length).map fun i => f (xs.getD i 0)) → (∀ b o, b ≠ env.locals → s.heap.get? b = some o → h'.get? b = some o) → post { s with heap := s.heap.push { cls := .type "list_iterator", data := .fields #[v, .int 0 0] } } h' tk) :
    wpAny (model prog w) A (pyIter v) (fun it s₂ => ∃ I fp wr n P St m, ∃ src : Nat → Int, it = .ref I ∧ Walks prog w A I fp wr n P St ∧ (∀ i v, i < n → P i v → ∃ t, v = .int (src i) t) ∧ n ≤ 1000 ∧ St 0 s₂.heap ∧ (∀ b ∈ fp, b < s₂.heap.objs.size) ∧
      env.locals ∉ wr ∧ (∀ b ∈ wr, g.get? b = none) ∧ Fs g env.locals s₂.heap m ∧
      (∀ C i t (s₃ : Shared) m₃ E', i < n → Fs g C s₃.heap m₃ → m₃ x = some (.int (src i) t) →
        wpAny (model prog w) A (eval elt (compEnvC scope cl C env)) (fun y s₄ => (∃ u, y = .int (f (src i)) u) ∧ ∃ tk, s₄ = { s₃ with toks := tk }) E' s₃) ∧
      (∀ r h' tk, Fs g env.locals h' (fun z => if z = y then some r else m z) → Row h' .lst r ((List.range n).map fun i => f (src i)) → (∀ b o, b ≠ env.locals → b ∉ wr → s₂.heap.get? b = some o → h'.get? b = some o) → post s₂ h' tk)) E s := by
  obtain ⟨D, vs, rfl, hD, hi⟩ := R
  refine wpAny_pyIter_list hD ?_
  have l₈ := Lasts.push s.heap { cls := .type "list_iterator", data := .fields #[.ref D, .int 0 0] }
  have nD : D ≠ s.heap.objs.size := by rintro rfl; obtain ⟨o, e, _⟩ := hD; exact absurd (Heap.lt_size e) (Nat.lt_irrefl _)
  have hit : (s.heap.push { cls := .type "list_iterator", data := .fields #[.ref D, .int 0 0] }).IsListIter s.heap.objs.size D 0 := ⟨_, Heap.get?_push_size _ rfl, rfl, rfl⟩
  have D₈ : (s.heap.push { cls := .type "list_iterator", data := .fields #[.ref D, .int 0 0] }).IsList D vs.toArray := let ⟨o, a, b⟩ := hD; ⟨o, l₈ _ _ a, b⟩
  have LI : env.locals ≠ s.heap.objs.size := fun q => by
    obtain ⟨o, es, ep, e1, e2, _⟩ := F.ns
    rw [q] at e1; exact absurd (Heap.lt_size e1) (Nat.lt_irrefl _)
  have hlen : vs.toArray.size = xs.length := by rw [List.size_toArray, hi.length]
  refine ⟨s.heap.objs.size, _, _, vs.toArray.size, _, _, m, fun i => xs.getD i 0, rfl, Walks.list hh _ D nD vs.toArray, ?_, by omega, ⟨hit, D₈⟩, ?_, by simpa using LI, ?_, F.ext l₈, ?_, ?_⟩
  · intro i v hlt hv
    rw [hlen] at hlt
    have ex : xs[i]? = some (xs.getD i 0) := by rw [List.getD_eq_getElem?_getD, List.getElem?_eq_getElem hlt]; rfl
    obtain ⟨t, et⟩ := ints_getE hi ex
    refine ⟨t, ?_⟩
    have : vs[i]? = some v := by simpa using hv
    rw [et] at this; cases this; rfl
  · intro b hb
    simp only [List.mem_cons, List.not_mem_nil, or_false] at hb
    show b < (s.heap.push _).objs.size
    rw [Heap.size_push]
    rcases hb with hb | hb
    · rw [hb]; exact Nat.lt_succ_self _
    · rw [hb]; obtain ⟨o, e, _⟩ := hD; exact Nat.lt_succ_of_lt (Heap.lt_size e)
  · intro b hb; simp at hb; rw [hb]; exact none_back F.keep (fresh_size _)
  · intro C i t s₃ m₃ E' hi'; exact helt C i t s₃ m₃ E' (hlen ▸ hi')
  · intro r h' tk F' R' k
    rw [hlen] at R'
    exact hQ r h' tk F' R' fun b o hb e => k b o hb (by intro q; simp at q; rw [q, fresh_size] at e; cases e) (l₈ _ _ e)

theorem comp_range {elt : Expr} {x y : Str} {scope : Scope} {cl : List (Str × Addr)} {post : Shared → Heap → Tok → Prop} {f : Int → Int} {n : Nat} {t : Tok} (hh : A.handled = none) (hz : n ≤ 1000) (F : Fs g env.locals s.heap m)
    (helt : ∀ C i t (s₃ : Shared) m₃ E', i < n → Fs g C s₃.heap m₃ → m₃ x = some (.int ((i : Nat) : Int) t) →
      wpAny (model prog w) A (eval elt (compEnvC scope cl C env)) (fun y s₄ => (∃ u, y = .int (f ((i : Nat) : Int)) u) ∧ ∃ tk, s₄ = { s₃ with toks := tk }) E' s₃)
    (hQ : ∀ r h' tk, Fs g env.locals h' (fun z => if z = y then some r else m z) → Row h' .lst r ((List.range n).map fun i => f ((i : Nat) : Int)) → (∀ b o, b ≠ env.locals → s.heap.get? b = some o → h'.get? b = some o) → (post { s with heap := (s.heap.push { cls := .type "range", data := .fields #[.int 0 s.toks, .int n t, .int 1 (s.toks + 1)] }).push { cls := .type "range_iterator", data := .fields #[rawInt 0, rawInt (n : Int), rawInt 1] }, toks := s.toks + 1 + 1 } h' tk)) :
    wpAny (model prog w) A (call (.type "range") [.int (n : Nat) t]) (fun v s₁ => wpAny (model prog w) A (pyIter v) (fun it s₂ => ∃ I fp wr n P St m, ∃ src : Nat → Int, it = .ref I ∧ Walks prog w A I fp wr n P St ∧ (∀ i v, i < n → P i v → ∃ t, v = .int (src i) t) ∧ n ≤ 1000 ∧ St 0 s₂.heap ∧ (∀ b ∈ fp, b < s₂.heap.objs.size) ∧
      env.locals ∉ wr ∧ (∀ b ∈ wr, g.get? b = none) ∧ Fs g env.locals s₂.heap m ∧
      (∀ C i t (s₃ : Shared) m₃ E', i < n → Fs g C s₃.heap m₃ → m₃ x = some (.int (src i) t) →
        wpAny (model prog w) A (eval elt (compEnvC scope cl C env)) (fun y s₄ => (∃ u, y = .int (f (src i)) u) ∧ ∃ tk, s₄ = { s₃ with toks := tk }) E' s₃) ∧
      (∀ r h' tk, Fs g env.locals h' (fun z => if z = y then some r else m z) → Row h' .lst r ((List.range n).map fun i => f (src i)) → (∀ b o, b ≠ env.locals → b ∉ wr → s₂.heap.get? b = some o → h'.get? b = some o) → post s₂ h' tk)) E s₁) E s := by
  refine call_range_1 ?_
  have l₁ : Lasts s.heap (s.heap.push { cls := .type "range", data := .fields #[.int 0 s.toks, .int n t, .int 1 (s.toks + 1)] }) := Lasts.push _ _
  refine wpAny_pyIter_range (IsRange.new ..) (small_one (by omega) (by omega) (by omega) (by omega)) ?_
  have l₂ := Lasts.push (s.heap.push { cls := .type "range", data := .fields #[.int 0 s.toks, .int n t, .int 1 (s.toks + 1)] }) { cls := .type "range_iterator", data := .fields #[rawInt 0, rawInt (Builtin.Range.rangeSize 0 n 1), rawInt 1] }
  have en : Builtin.Range.rangeSize 0 (n : Int) 1 = (n : Int) := by rw [rangeSize_one]; split <;> omega
  rw [en] at l₂ ⊢
  have F₂ := (F.ext l₁).ext l₂
  generalize hg₁ : (s.heap.push { cls := .type "range", data := .fields #[.int 0 s.toks, .int n t, .int 1 (s.toks + 1)] }) = g₁ at *
  have hit : IsRangeIter (g₁.push { cls := .type "range_iterator", data := .fields #[rawInt 0, rawInt (n : Int), rawInt 1] }) g₁.objs.size (0 + ((0 : Nat) : Int) * 1) ((n : Int) - ((0 : Nat) : Int)) 1 := by
    have := Heap.get?_push_size g₁ (o := { cls := .type "range_iterator", data := .fields #[rawInt 0, rawInt (n : Int), rawInt 1] }) rfl
    simpa using this
  have LI : env.locals ≠ g₁.objs.size := fun q => by
    obtain ⟨o, es, ep, e1, e2, _⟩ := (F.ext l₁).ns
    rw [q] at e1; exact absurd (Heap.lt_size e1) (Nat.lt_irrefl _)
  refine ⟨g₁.objs.size, [g₁.objs.size], [g₁.objs.size], n, fun i v => ∃ t, v = .int (0 + i * 1) t, fun i h => IsRangeIter h g₁.objs.size (0 + (i : Nat) * 1) ((n : Int) - (i : Nat)) 1, m, fun i => ((i : Nat) : Int), rfl, Walks.range hh _ 0 1 n, ?_, hz, hit, ?_, by simpa using LI, ?_, F₂, helt, ?_⟩
  · rintro i v hlt ⟨t, rfl⟩; exact ⟨t, by rw [show (0 + (i : Int) * 1) = (i : Int) by omega]⟩
  · intro b hb; simp at hb; rw [hb]; show _ < (g₁.push _).objs.size; rw [Heap.size_push]; exact Nat.lt_succ_self _
  · intro b hb; simp at hb; rw [hb]; exact none_back (F.keep.trans l₁) (fresh_size _)
  · intro r h' tk F' R' k
    refine hQ r h' tk F' R' fun b o hb e => ?_
    have e1 := l₁ _ _ e
    exact k b o hb (by intro q; simp at q; rw [q, fresh_size] at e1; cases e1) (l₂ _ _ e1)
theorem comp_rangeI {i0 : Int} {elt : Expr} {x y : Str} {scope : Scope} {cl : List (Str × Addr)} {post : Shared → Heap → Tok → Prop} {f : Int → Int} {n : Nat} {t : Tok} (hh : A.handled = none) (ei : i0 = (n : Int)) (hz : n ≤ 1000) (F : Fs g env.locals s.heap m)
    (helt : ∀ C i t (s₃ : Shared) m₃ E', i < n → Fs g C s₃.heap m₃ → m₃ x = some (.int ((i : Nat) : Int) t) →
      wpAny (model prog w) A (eval elt (compEnvC scope cl C env)) (fun y s₄ => (∃ u, y = .int (f ((i : Nat) : Int)) u) ∧ ∃ tk, s₄ = { s₃ with toks := tk }) E' s₃)
    (hQ : ∀ r h' tk, Fs g env.locals h' (fun z => if z = y then some r else m z) → Row h' .lst r ((List.range n).map fun i => f ((i : Nat) : Int)) → (∀ b o, b ≠ env.locals → s.heap.get? b = some o → h'.get? b = some o) → (post { s with heap := (s.heap.push { cls := .type "range", data := .fields #[.int 0 s.toks, .int n t, .int 1 (s.toks + 1)] }).push { cls := .type "range_iterator", data := .fields #[rawInt 0, rawInt (n : Int), rawInt 1] }, toks := s.toks + 1 + 1 } h' tk)) :
    wpAny (model prog w) A (call (.type "range") [.int i0 t]) (fun v s₁ => wpAny (model prog w) A (pyIter v) (fun it s₂ => ∃ I fp wr n P St m, ∃ src : Nat → Int, it = .ref I ∧ Walks prog w A I fp wr n P St ∧ (∀ i v, i < n → P i v → ∃ t, v = .int (src i) t) ∧ n ≤ 1000 ∧ St 0 s₂.heap ∧ (∀ b ∈ fp, b < s₂.heap.objs.size) ∧
      env.locals ∉ wr ∧ (∀ b ∈ wr, g.get? b = none) ∧ Fs g env.locals s₂.heap m ∧
      (∀ C i t (s₃ : Shared) m₃ E', i < n → Fs g C s₃.heap m₃ → m₃ x = some (.int (src i) t) →
        wpAny (model prog w) A (eval elt (compEnvC scope cl C env)) (fun y s₄ => (∃ u, y = .int (f (src i)) u) ∧ ∃ tk, s₄ = { s₃ with toks := tk }) E' s₃) ∧
      (∀ r h' tk, Fs g env.locals h' (fun z => if z = y then some r else m z) → Row h' .lst r ((List.range n).map fun i => f (src i)) → (∀ b o, b ≠ env.locals → b ∉ wr → s₂.heap.get? b = some o → h'.get? b = some o) → post s₂ h' tk)) E s₁) E s := by
  subst ei
  exact comp_range hh hz F helt hQ
end
end Mine
end

section
open PySem PySem.W PyProof.Rows PySem.Calls
set_option Elab.async false
set_option maxRecDepth 100000
set_option maxHeartbeats 4000000
namespace Mine

theorem len_flat {α : Type} (l : List α) (k : Nat) : (List.replicate k l).flatten.length = l.length * k := by
  induction k with
  | zero => rfl
  | succ k ih => rw [List.replicate_succ, List.flatten_cons, List.length_append, ih, Nat.mul_succ]; omega
theorem Tab.hide {h : Heap} {L c P : Addr} {m : Str → Option Value} {ps : Array Value} (T : Tab h c P ps) (n : h.Ns L m) : Tab (h.hide L) c P ps := T.store n fun b o hb e => (Heap.hide_ne h hb).trans e
theorem eq_int_self {prog : Program} {w : World} {A : Around} {E : Value → Shared → Prop} {s : Shared} {i : Int} {t u : Tok} {Q : Value → Shared → Prop} (h : Q (.bool true) s) : wpAny (model prog w) A (compareOp .Eq (.int i t) (.int i u)) Q E s :=
  PyProof.Rows.eq_int (by rw [beq_self_eq_true]; exact h)
theorem value_snoc (l : List Int) (x : Int) : KFB.value (l ++ [x]) = KFB.value l * 256 + x := by
  unfold KFB.value; rw [List.foldl_append]; rfl
section
variable {prog : Program} {w : World} {A : Around} {E : Value → Shared → Prop} {s : Shared} {env : Env} {g : Heap} {m : Str → Option Value}
theorem row_bmul {Q : Value → Shared → Prop} {v : Value} {ns : List Int} {i : Int} {u : Tok} (R : Row s.heap .byt v ns) (hn : ns ≠ []) (hz : ns.length ≤ 2) (h1 : 0 ≤ i) (h2 : i ≤ 30)
    (h : ∀ b t k, b.size ≤ 100 → Q (.bytes b t) { s with toks := k }) : wpAny (model prog w) A (binaryOp .Mult v (.int i u)) Q E s := by
  obtain ⟨b, t, rfl, hb⟩ := R
  have hl : b.toList.length = ns.length := by rw [← hb]; unfold KBw.bInts; rw [List.length_map]
  have key := bytes_mul_any (prog := prog) (w := w) (A := A) (E := E) (s := s) (b := b.toList) (n := i) (t := t) (u := u) (Q := Q) (by intro q; rw [q] at hl; exact hn (List.length_eq_zero_iff.mp hl.symm)) (by omega) (by omega) (by omega) (fun t' k => h _ t' k (by
    rw [List.size_toArray, len_flat, hl]
    have h3 : i.toNat ≤ 30 := by omega
    have := Nat.mul_le_mul hz h3
    omega))
  rw [Array.toArray_toList] at key
  exact key
/-- for x in octets: body -/
theorem loop_bytes {R : Result → Shared → Prop} {x : Str} {px : Pos} {body : List Stmt} {b : Array UInt8} {t : Tok} (hh : A.handled = none) (hx : env.kindOf x = some .local) (hsk : env.scope.kind = .function)
    (F : Fs g env.locals s.heap m) (J : Nat → (Str → Option Value) → Prop) (h0 : J 0 m)
    (turn : ∀ j (c : UInt8) u m₁ (s₁ : Shared) E', b[j]? = some c → J j m₁ → Fs g env.locals s₁.heap (fun y => if y = x then some (.int (c.toNat : Int) u) else m₁ y) →
      wpAny (model prog w) A (execs body env) (fun f s₂ => ∃ h₂ tk₂ m₂, s₂ = { s₁ with heap := h₂, toks := tk₂ } ∧ f = .next ∧ (∀ b o, b ≠ env.locals → s₁.heap.get? b = some o → h₂.get? b = some o) ∧ Fs g env.locals h₂ m₂ ∧ J (j + 1) m₂) E' s₁)
    (hdone : ∀ h' tk m', J b.size m' → Fs g env.locals h' m' → R (.ok .next) { s with heap := h', toks := tk }) :
    wpAny (model prog w) A (pyIter (.bytes b t)) (fun it s₂ => codeAny (model prog w) A (.forLoop (.Name x px) it body [] env) R s₂) E s := by
  refine KBw.pyIter_bytes ?_
  have l₈ := Lasts.push s.heap { cls := .type "bytes_iterator", data := .fields #[.bytes b t, .int 0 0] }
  have gI : g.get? s.heap.objs.size = none := none_back F.keep (fresh_size _)
  have LI : env.locals ≠ s.heap.objs.size := fun q => by
    obtain ⟨o, es, ep, e1, e2, _⟩ := F.ns
    rw [q] at e1; exact absurd (Heap.lt_size e1) (Nat.lt_irrefl _)
  refine loop_walk (KBw.walks hh s.heap.objs.size b t) hx hsk (by simpa using LI) (by intro c hc; simp at hc; rw [hc]; exact gI) ⟨_, Heap.get?_push_size _ rfl, rfl, rfl⟩ (F.ext l₈) (fun j m _ => J j m) h0 ?_ ?_
  · rintro j v m₁ h₁ s₁ E' hj ⟨c, u, hc, rfl⟩ hJ F₁ k₁ st F'
    refine wpAny_mono (turn j c u m₁ s₁ E' hc hJ F') (fun f s₃ r => ?_) fun _ _ q => q
    obtain ⟨h₃, tk₃, m₃, rfl, rfl, k₃, F₃, hJ₃⟩ := r
    exact ⟨h₃, tk₃, m₃, rfl, rfl, fun c hc o e => k₃ c o (by simp at hc; rw [hc]; exact Ne.symm LI) e, F₃, hJ₃⟩
  · rintro h₁ h' tk m' hJ F₁ k₁ F'
    exact hdone h' tk m' hJ F'
end
end Mine
end

section
open PySem PySem.W PyProof.Rows PySem.Calls
set_option Elab.async false
set_option maxRecDepth 100000
set_option maxHeartbeats 20000000
namespace Mine

local macro_rules | `(tactic| walk_at "nml") => `(tactic| refine nm_local (by assumption) (by with_unfolding_all rfl) ?_ (by with_unfolding_all rfl) (by with_unfolding_all rfl) (by decide))
local macro_rules | `(tactic| walk_at "nma") => `(tactic| refine nm_local (by assumption) (by assumption) ?_ (by with_unfolding_all rfl) (by with_unfolding_all rfl) (by decide))
local macro_rules | `(tactic| walk_at "nmb") => `(tactic| refine nm_boot (by assumption) (by assumption) (by k_is) (by boot_by_name) (by decide) ?_ (by with_unfolding_all rfl) (by with_unfolding_all rfl) rfl rfl (by decide))
local macro_rules | `(tactic| walk_at "nmg") => `(tactic| (refine' nm_global (by assumption) (by assumption) ?k1 ?_ ?k2 ?k3 ?k4 ?k5; (case k1 => k_is); (case k2 => with_unfolding_all rfl); (case k3 => with_unfolding_all rfl); (case k4 => exact rfl); (case k5 => decide)))
local macro_rules | `(tactic| walk_at "ent") => `(tactic| ((case ho => k_is); (case hcd => k_is); (case hb => exact BindsTo.of_eq rfl); (case hl => exact locs rfl); (case c1 => exact rfl); (case c2 => exact rfl); (case c3 => exact rfl); (case c4 => decide)))
local macro_rules | `(tactic| walk_at "sts") => `(tactic| ((case a => with_unfolding_all rfl); (case b => with_unfolding_all rfl)))
local macro_rules | `(tactic| walk_at "nmc") => `(tactic| refine nm_cell (by assumption) (by with_unfolding_all rfl) (by assumption) ?_ (by with_unfolding_all rfl) (by with_unfolding_all rfl) (by decide))

/-- the numbers of the script -/
def nums (ns : List Int) : List Int := ns.take 14 ++ (List.replicate (14 - ((ns.take 14).length : Int)).toNat [0]).flatten
theorem nums_len (ns : List Int) : (nums ns).length = 14 := by
  unfold nums
  rw [List.length_append, KM.len_rep, List.length_take]
  simp only [List.length_cons, List.length_nil]
  omega
theorem nums_at (ns : List Int) (i : Nat) (h : i < 14) : (nums ns)[i]? = some ((nums ns).getD i 0) := by
  rw [List.getD_eq_getElem?_getD, List.getElem?_eq_getElem (by rw [nums_len]; exact h)]; rfl
theorem end_of {i : Int} {t : Tok} {n : Nat} (h : i = (n : Int)) : End (.int i t) (some n) := h ▸ .int n t
theorem shared_in (l : List Int) : ∀ k ∈ (List.range l.length).map (fun i => (l.getD i 0).fmod 16), 0 ≤ k ∧ k < 256 := by
  intro k hk
  obtain ⟨i, _, rfl⟩ := List.mem_map.mp hk
  have h1 := Int.fmod_nonneg_of_pos (l.getD i 0) (b := 16) (by decide)
  have h2 := Int.fmod_lt_of_pos (l.getD i 0) (b := 16) (by decide)
  omega
theorem range_in (a : Int) (q : Nat) : ∀ k ∈ (List.range q).map (fun i => (a + ((i : Nat) : Int)).fmod 16), 0 ≤ k ∧ k < 256 := by
  intro k hk
  obtain ⟨i, _, rfl⟩ := List.mem_map.mp hk
  have h1 := Int.fmod_nonneg_of_pos (a + ((i : Nat) : Int)) (b := 16) (by decide)
  have h2 := Int.fmod_lt_of_pos (a + ((i : Nat) : Int)) (b := 16) (by decide)
  omega
theorem Row.wave {g h h' : Heap} {L : Addr} {m : Str → Option Value} {k : Kd} {v : Value} {ns : List Int} (R : Row h k v ns) (F : Fs g L h m) (x : ∀ b o, b ≠ L → h.get? b = some o → h'.get? b = some o) : Row h' k v ns :=
  R.store F.ns fun b o hb e => x b o hb e
theorem fmod_in (a b : Int) (h : 0 < b) : 0 ≤ a.fmod b ∧ a.fmod b < b := ⟨Int.fmod_nonneg_of_pos a h, Int.fmod_lt_of_pos a h⟩

theorem Row.ext4 {g h : Heap} {k : Kd} {v : Value} {ns : List Int} (R : Row g k v ns) (P : Addr → Prop) (l : ∀ b o, ¬ P b → g.get? b = some o → h.get? b = some o)
    (hP : ∀ b o items n, P b → g.get? b = some o → o.data ≠ .seq items n) : Row h k v ns := by
  cases k with
  | tup => obtain ⟨a, vs, e, ⟨o, ho, hc, n, hd⟩, hi⟩ := R; exact ⟨a, vs, e, ⟨o, l _ _ (fun q => hP _ _ _ _ q ho hd) ho, hc, n, hd⟩, hi⟩
  | lst => obtain ⟨a, vs, e, ⟨o, ho, hc, n, hd⟩, hi⟩ := R; exact ⟨a, vs, e, ⟨o, l _ _ (fun q => hP _ _ _ _ q ho hd) ho, hc, n, hd⟩, hi⟩
  | byt => exact R

section
variable {prog : Program} {w : World} {A : Around} {E : Value → Shared → Prop} {s : Shared} {a b : Int} {t u : Tok} {Q : Value → Shared → Prop}
theorem fdiv_int (hb : b ≠ 0) (hs : b.natAbs < 1073741824) (h : Q (.int (a.fdiv b) s.toks) { s with toks := s.toks + 1 }) : wpAny (model prog w) A (binaryOp .FloorDiv (.int a t) (.int b u)) Q E s :=
  AutoIntOps.floordiv_1 (by simpa using hb) (by rw [PyProof.noPylong_small hs]; simp) h
end
section
variable {M : Model} {A : Around} {E : Value → Shared → Prop} {s : Shared} {env : Env} {m : Str → Option Value} {g : Heap} {x : Str} {v : Value} {α : Type}
theorem any_toks {t : Sem α} {Q : α → Shared → Prop} {h : Heap} {G : Array GenState} {D : Drawn} {O : OsState} (H : ∀ tk, wpAny M A t Q E ⟨h, G, D, tk, O⟩) (tk : Tok) : wpAny M A t Q E ⟨h, G, D, tk, O⟩ := H tk
theorem Fs.abs {h : Heap} {L : Addr} {y : Str} {r : Value} (F : Fs g L h (fun z => if z = y then some r else m z)) : ∃ m', Fs g L h m' ∧ m' y = some r ∧ ∀ z, z ≠ y → m' z = m z :=
  ⟨_, F, if_pos rfl, fun z hz => if_neg hz⟩
theorem st_clean {Q : Unit → Shared → Prop} (G : Array GenState) (D : Drawn) (O : OsState) (F : Fs g env.locals s.heap m) (eg : s.gens = G) (ed : s.drawn = D) (eo : s.os = O)
    (h : ∀ h' tk m', Fs g env.locals h' m' → m' x = some v → (∀ y, y ≠ x → m' y = m y) → Heap.ExtBut env.locals s.heap h' → Q () ⟨h', G, D, tk, O⟩) (hk : env.scope.kind = .function) (hl : env.kindOf x = some .local) : wpAny M A (storeName env x v) Q E s := by
  subst eg ed eo
  exact st_local F (fun h' F' x' => h h' _ _ F' (if_pos rfl) (fun y hy => if_neg hy) x') hk hl
theorem st_cleanI {Q : Unit → Shared → Prop} {i : Int} {t : Tok} (G : Array GenState) (D : Drawn) (O : OsState) (F : Fs g env.locals s.heap m) (eg : s.gens = G) (ed : s.drawn = D) (eo : s.os = O)
    (h : ∀ h' tk m' t', Fs g env.locals h' m' → m' x = some (.int i t') → (∀ y, y ≠ x → m' y = m y) → Heap.ExtBut env.locals s.heap h' → Q () ⟨h', G, D, tk, O⟩) (hk : env.scope.kind = .function) (hl : env.kindOf x = some .local) : wpAny M A (storeName env x (.int i t)) Q E s :=
  st_clean G D O F eg ed eo (fun h' tk m' F' e1 e2 => h h' tk m' t F' e1 e2) hk hl
end
theorem rebase_cell {s0 g h₇ h₈ : Heap} {L c : Addr} {m : Str → Option Value} {r : Value} {ns : List Int} (l₁ : Lasts s0 g) (F₇ : Fs g L h₇ m) (eL : L = s0.objs.size) (ec : c = s0.objs.size + 1) (C₇ : h₇.IsCell c none)
    (x₈ : Heap.SameBut c h₇ h₈) (C₈ : h₈.IsCell c (some r)) (R₇ : Row h₇ .lst r ns) : ∃ g₁ m₁, Lasts s0 g₁ ∧ Fs g₁ L h₈ m₁ ∧ Row g₁ .lst r ns ∧ g₁.IsCell c (some r) := by
  have cL : c ≠ L := by rw [eL, ec]; exact Nat.succ_ne_self _
  have cnew : s0.get? c = none := by
    cases e : s0.get? c with
    | none => rfl
    | some o => rw [ec] at e; exact absurd (Heap.lt_size e) (Nat.not_lt.mpr (Nat.le_succ _))
  have Lnew : s0.get? L = none := by rw [eL]; exact fresh_size _
  refine ⟨h₈.hide L, m, fun b o e => ?_, ⟨F₇.ns.sameBut x₈ (Ne.symm cL), fun _ _ e => Heap.of_hide e, Heap.hide_self ..⟩, ?_, ?_⟩
  · exact (Heap.hide_ne h₈ (fun q => by rw [q, Lnew] at e; cases e)).trans (x₈.extBut _ _ (fun q => by rw [q, cnew] at e; cases e) (F₇.keep _ _ (l₁ _ _ e)))
  · refine R₇.ext4 (fun b => b = L ∨ b = c) (fun b o hb e => (Heap.hide_ne h₈ (fun q => hb (.inl q))).trans (x₈.extBut _ _ (fun q => hb (.inr q)) e)) (fun b o items n hb e hd => ?_)
    rcases hb with rfl | rfl
    · obtain ⟨o', es, ep, h1, h2, _⟩ := F₇.ns
      rw [h1] at e; cases e; rw [h2] at hd; cases hd
    · obtain ⟨o', h1, h2⟩ := C₇
      rw [h1] at e; cases e; rw [h2] at hd; cases hd
  · obtain ⟨o, e1, e2⟩ := C₈
    exact ⟨o, (Heap.hide_ne h₈ cL).trans e1, e2⟩

theorem all_app {a b : List Int} {P : Int → Prop} (h1 : ∀ k ∈ a, P k) (h2 : ∀ k ∈ b, P k) : ∀ k ∈ a ++ b, P k := fun k hk => (List.mem_append.mp hk).elim (h1 k) (h2 k)
theorem three_fit {a b c : Value} : [a, b, c].length ≤ sizeLine := by rw [sizeLine_eq]; simp
theorem tup_mono {g h : Heap} {a : Addr} {l : Array Value} (T : g.IsTuple a l) (k : Lasts g h) : h.IsTuple a l := let ⟨o, e, r⟩ := T; ⟨o, k _ _ e, r⟩
theorem un_ok {A : Around} {n : Nat} (h : Amb A n) : A.units + 65 < cLine := by have := h.un; omega
theorem un_ok2 {A : Around} {n : Nat} (h : Amb A n) : A.units + 64 < cLine := by have := h.un; omega
theorem un_ok3 {A : Around} {n : Nat} (h : Amb A n) : A.units + 100 < cLine := by have := h.un; omega
theorem ne_int_self {prog : Program} {w : World} {A : Around} {E : Value → Shared → Prop} {s : Shared} {i : Int} {t u : Tok} {Q : Value → Shared → Prop} (h : Q (.bool false) s) : wpAny (model prog w) A (compareOp .NotEq (.int i t) (.int i u)) Q E s :=
  PyProof.Rows.ne_int (by rw [bne_self_eq_false]; exact h)
/-- the frame without the table that grows -/
theorem rebase30 {K : Frag} {g h : Heap} {L c : Addr} {m mg : Str → Option Value} {r : Value} {ns : List Int} {ps : Array Value} {bm : Addr} {ob : Obj} (F : Fs g L h m) (W : Wd K g) (T : Tab g 34 30 ps) (BM : BMod g mainGlobals mg bm ob)
    (Cn : g.IsCell c (some r)) (Rn : Row g .lst r ns) (hK : K.lookup 30 = none) :
    ∃ g₂, Fs g₂ L h m ∧ Wd K g₂ ∧ BMod g₂ mainGlobals mg bm ob ∧ g₂.get? 30 = none ∧ g₂.IsCell c (some r) ∧ Row g₂ .lst r ns ∧ Heap.ExtBut 30 g g₂ ∧ L ≠ 30 := by
  have x : Heap.ExtBut 30 g (g.hide 30) := fun b o hb e => (Heap.hide_ne g hb).trans e
  have b30 : bm ≠ 30 := fun q => by
    have h1 := BM.obj; rw [q, T.obj] at h1; cases h1; have := BM.cls; cases this
  refine ⟨g.hide 30, ⟨F.ns, fun b o e => F.keep b o (Heap.of_hide e), ?_⟩, W.but x hK (by decide) (by decide) (by decide), ⟨BM.ns.extBut x (by decide), BM.name, BM.ne, x _ _ b30 BM.obj, BM.cls, BM.dict, BM.data⟩, Heap.hide_self .., ?_, ?_, x, ?_⟩
  · cases e : (g.hide 30).get? L with
    | none => rfl
    | some o => have := Heap.of_hide e; rw [F.off] at this; cases this
  · obtain ⟨o, e1, e2⟩ := Cn
    exact ⟨o, x _ _ (fun q => by rw [q, T.obj] at e1; cases e1; cases e2) e1, e2⟩
  · exact Rn.ext4 (fun b => b = 30) (fun b o hb e => x b o hb e) fun b o items n hb e hd => by rw [hb, T.obj] at e; cases e; cases hd
  · rintro rfl
    have := T.obj; rw [F.off] at this; cases this
theorem Row.tab {h h' : Heap} {k : Kd} {v : Value} {ns : List Int} {c P : Addr} {ps : Array Value} (R : Row h k v ns) (T : Tab h c P ps) (x : Heap.ExtBut P h h') : Row h' k v ns :=
  R.ext4 (fun b => b = P) (fun b o hb e => x b o hb e) fun b o items n hb e hd => by rw [hb, T.obj] at e; cases e; cases hd
theorem Fs.tab {g h h' : Heap} {L P : Addr} {m : Str → Option Value} (F : Fs g L h m) (x : Heap.ExtBut P h h') (hL : L ≠ P) (hg : g.get? P = none) : Fs g L h' m := F.at x hL hg
theorem ne_bool_self {prog : Program} {w : World} {A : Around} {E : Value → Shared → Prop} {s : Shared} {b : Bool} {Q : Value → Shared → Prop} (h : Q (.bool false) s) : wpAny (model prog w) A (compareOp .NotEq (.bool b) (.bool b)) Q E s :=
  PyProof.Rows.ne_bool (by rw [bne_self_eq_false]; exact h)
theorem two_fit {a b : Value} : [a, b].length ≤ sizeLine := by rw [sizeLine_eq]; simp
theorem two_in (a b : Int) : ∀ k ∈ [a.fmod 256, b.fmod 256], 0 ≤ k ∧ k < 256 := by
  intro k hk
  simp only [List.mem_cons, List.not_mem_nil, or_false] at hk
  rcases hk with rfl | rfl
  · exact ⟨Int.fmod_nonneg_of_pos a (by decide), Int.fmod_lt_of_pos a (by decide)⟩
  · exact ⟨Int.fmod_nonneg_of_pos b (by decide), Int.fmod_lt_of_pos b (by decide)⟩
theorem two_ints (h : Heap) (a b : Int) (t u : Tok) : Row (h.push { cls := .type "list", data := .seq [Value.int a t, Value.int b u].toArray }) .lst (.ref h.objs.size) [a, b] :=
  ⟨_, [.int a t, .int b u], rfl, ⟨_, Heap.get?_push_size _ rfl, rfl, 0, rfl⟩, .cons a t (.cons b u .nil)⟩
theorem take_bytes {b : Array UInt8} {j : Nat} {c : UInt8} (h : b[j]? = some c) : (KBw.bInts b).take (j + 1) = (KBw.bInts b).take j ++ [(c.toNat : Int)] := by
  have : (KBw.bInts b)[j]? = some (c.toNat : Int) := by unfold KBw.bInts; rw [List.getElem?_map]; simp [h]
  rw [List.take_add_one, this]; rfl
theorem take_all_bytes {b : Array UInt8} : (KBw.bInts b).take b.size = KBw.bInts b := List.take_of_length_le (by rw [KBw.ints_length]; exact Nat.le_refl _)
theorem law_spec (w : World) : ∀ (A : Around) (E : Value → Shared → Prop) (s : Shared) (v : Value) (ns : List Int) (ps : Array Value) (mg : Str → Option Value) (bm : Addr) (ob : Obj) (Q : Value → Shared → Prop),
    Wd (hd.heap_39 w.params) s.heap → Amb A 20 → Tab s.heap 34 30 ps → BMod s.heap mainGlobals mg bm ob → AllBare s.gens → Row s.heap .lst v ns → ns.length ≤ 63 →
    (∀ (s' : Shared) more, s'.os = s.os → AllBare s'.gens → Heap.ExtBut 30 s.heap s'.heap → Tab s'.heap 34 30 (ps ++ more) → Q (.bool true) s') →
    wpAny (model PySem.Challenge.rw_ad6015_01.row.prog w) A (call (.ref 104) [v]) Q E s := by
  k_fill
  intro A E s v ns ps mg bm ob Q W hA T BM hG R hz hQ
  refine wpAny_call ?_
  refine' enterC (binds := [(Str.ofString "script", v)]) W ?ho ?hcd (by have := hA.dep; omega) ?hb ?hl ?_ ?c1 ?c2 ?c3
  case ho => k_is
  case hcd => k_is
  case hl => 
    intro x hx
    simp only [List.mem_cons, List.not_mem_nil, or_false] at hx
    rcases hx with rfl <;> first | exact .inl rfl | exact .inr ⟨rfl, rfl⟩
  case hb => exact rfl
  case c1 => exact rfl
  case c2 => exact rfl
  case c3 => exact rfl
  intro g h₁ tk l₁ F₁ C
  have C1 : g.IsCell (s.heap.objs.size + 1) none := C (Str.ofString "numbers") _ (by with_unfolding_all rfl)
  clear C
  -- numbers = list(script[:14]) + [0] * (14 - len(script[:14]))
  have W₁ := W.mono l₁
  have R₁ := R.mono l₁
  have Wg : Wd (hd.heap_39 w.params) g := W₁
  refine wpAny_execs_cons (wpAny_Assign_Name (wpAny_BinOp (Call_ ?_)))
  walk_at "nmb"
  refine PyProof.Rows.callWith_type1 (spliced_more (Subscript_ ?_))
  walk_at "nml"
  refine wpAny_Slice (evalPart_none_step (evalPart_some_step (wpAny_Constant_int ?_)))
  refine evalPart_none_step ?_
  refine row_slice (lo := none) (hi := some 14) (R₁.mono F₁.keep) (by omega) .none (by exact End.int 14 _) (fun p1 h₂ tk₂ (l₂ : Lasts h₁ h₂) (P₂ : Row h₂ .lst p1 (ns.take 14)) => ?_) (fun _ _ => rfl)
  refine spliced_none ?_
  refine row_list P₂ hA.hh (by rw [List.length_take]; omega) fun r1 h₃ tk₃ l₃ R₃ => ?_
  have F₃ := (F₁.ext l₂).ext l₃
  refine wpAny_BinOp (wpAny_List (spliced_more (wpAny_Constant_int ?_)))
  refine spliced_none ⟨by simp [sizeLine_eq], ?_⟩
  have l₄ := Lasts.push h₃ { cls := .type "list", data := .seq [Value.int 0 tk₃].toArray }
  have F₄ := F₃.ext l₄
  have R₄ : Row (h₃.push { cls := .type "list", data := .seq [Value.int 0 tk₃].toArray }) .lst (.ref h₃.objs.size) [0] := ⟨_, [.int 0 tk₃], rfl, ⟨_, Heap.get?_push_size _ rfl, rfl, 0, rfl⟩, .cons 0 tk₃ .nil⟩
  refine wpAny_BinOp (wpAny_Constant_int (Call_ ?_))
  walk_at "nmb"
  refine PyProof.Rows.callWith_builtin1 (spliced_more (Subscript_ ?_))
  walk_at "nml"
  refine wpAny_Slice (evalPart_none_step (evalPart_some_step (wpAny_Constant_int ?_)))
  refine evalPart_none_step ?_
  refine row_slice (lo := none) (hi := some 14) (R₁.mono F₄.keep) (by omega) .none (by exact End.int 14 _) (fun p2 h₅ tk₅ (l₅ : Lasts _ h₅) (P₅ : Row h₅ .lst p2 (ns.take 14)) => ?_) (fun _ _ => rfl)
  refine spliced_none ?_
  refine row_len P₅ (by rw [List.length_take]; omega) fun t6 tk6 => ?_
  refine PyProof.Rows.sub_int ?_
  refine row_mul (R₄.mono l₅) (by simp) (by rw [List.length_take]; omega) (by omega) fun r2 h₆ tk₆ l₆ R₆ => ?_
  replace l₆ : Lasts h₅ h₆ := l₆
  refine row_add (((R₃.mono l₄).mono l₅).mono l₆) R₆ (by rw [KM.len_rep, List.length_take]; simp only [List.length_cons, List.length_nil]; omega) fun r3 h₇ tk₇ l₇ (R₇ : Row h₇ .lst r3 (nums ns)) => ?_
  have F₇ := ((F₄.ext l₅).ext l₆).ext l₇
  replace l₇ : Lasts h₆ h₇ := l₇
  have C₇ : h₇.IsCell (s.heap.objs.size + 1) none := C1.keeps F₇.keep
  refine wpAny_storeName_cell (by with_unfolding_all rfl) (by with_unfolding_all rfl) (by with_unfolding_all rfl) C₇ fun h₈ C₈ x₈ => ?_
  have hh := rebase_cell (c := s.heap.objs.size + 1) l₁ F₇ rfl rfl C₇ x₈ C₈ R₇
  obtain ⟨g₁, m₁, ls, F₈, Rn, Cn⟩ := hh
  replace W := W.mono ls
  replace T := T.mono ls
  replace BM := BM.keeps ls
  have zn : (nums ns).length ≤ 1000 := (nums_len ns).symm ▸ (by decide)
  clear x₈ C₈ C₇ F₇ R₇ R₆ F₄ R₄ F₃ R₃ P₂ P₅ F₁ R₁ W₁ Wg R C1 l₁
  refine any_toks (h := h₈) (G := s.gens) (D := s.drawn) (O := s.os) (fun tk₈ => ?_) _
  -- how = numbers[1] % 3
  have e3 := fmod_in ((nums ns).getD 1 0) 3 (by decide)
  refine wpAny_execs_cons (wpAny_Assign_Name (wpAny_BinOp (Subscript_ ?_)))
  walk_at "nmc"
  refine wpAny_Constant_int ?_
  refine row_item (i := 1) (Rn.mono F₈.keep) zn (nums_at ns 1 (by decide)) (fun t9 tk9 => ?_) (fun _ _ => rfl)
  refine wpAny_Constant_int ?_
  refine PyProof.Rows.mod_int (by decide) ?_
  refine' st_cleanI s.gens s.drawn s.os F₈ rfl rfl rfl (fun h₉ tk₉ m₂ th (F₉ : Fs g₁ s.heap.objs.size h₉ m₂) q_how _ _ => ?_) ?sa1 ?sb1
  case sa1 => with_unfolding_all rfl
  case sb1 => with_unfolding_all rfl
  clear F₈
  -- shared
  have e6 := fmod_in ((nums ns).getD 0 0) 6 (by decide)
  have hq6 : ∃ q : Nat, ((nums ns).getD 0 0).fmod 6 = (q : Int) := ⟨_, (Int.toNat_of_nonneg e6.1).symm⟩
  obtain ⟨q6, eq6⟩ := hq6
  rw [eq6] at e6
  refine wpAny_execs_cons (assign_comp_ints (g := g₁) (fun k => k.fmod 16) (by with_unfolding_all rfl) (by with_unfolding_all rfl) (by decide) rfl (by decide) rfl (by with_unfolding_all rfl) (by with_unfolding_all rfl) ?_ (fun _ => rfl))
  refine Subscript_ ?_
  walk_at "nmc"
  refine wpAny_Slice (evalPart_some_step (wpAny_Constant_int ?_))
  refine evalPart_some_step (wpAny_BinOp (wpAny_Constant_int (wpAny_BinOp (Subscript_ ?_))))
  walk_at "nmc"
  refine wpAny_Constant_int ?_
  refine row_item (i := 0) (Rn.mono F₉.keep) zn (nums_at ns 0 (by decide)) (fun t6 tk6 => ?_) (fun _ _ => rfl)
  refine wpAny_Constant_int ?_
  refine PyProof.Rows.mod_int (by decide) ?_
  refine add_int ?_
  refine evalPart_none_step ?_
  refine row_slice (lo := some 2) (hi := some (2 + q6)) (Rn.mono F₉.keep) zn (by exact End.int 2 _) (end_of (by omega)) (fun p1 h₁₀ tk₁₀ (l₁₀ : Lasts h₉ h₁₀) (P₁₀ : Row h₁₀ .lst p1 (cut (some 2) (some (2 + q6)) (nums ns))) => ?_) (fun _ _ => rfl)
  have F₁₀ := F₉.ext l₁₀
  have hz10 : (cut (some 2) (some (2 + q6)) (nums ns)).length ≤ 1000 := by unfold cut; rw [List.length_drop, List.length_take, nums_len]; omega
  refine comp_list (g := g₁) (f := fun k => k.fmod 16) hA.hh P₁₀ hz10 F₁₀ ?_ fun r11 h11 tk11 F11' R11 l11 => ?_
  · intro C i t (s₃ : Shared) m₃ E' hi F₃ hm
    refine wpAny_BinOp ?_
    walk_at "nma"
    refine wpAny_Constant_int ?_
    refine PyProof.Rows.mod_int (by decide) ?_
    exact ⟨⟨_, rfl⟩, _, rfl⟩
  have ha11 := F11'.abs
  obtain ⟨m11, F11, q_shared, ch11⟩ := ha11
  refine any_toks (h := h11) (G := s.gens) (D := s.drawn) (O := s.os) (fun tk11' => ?_) _
  replace q_how := (ch11 (Str.ofString "how") (by decide)).trans q_how
  have hsh := shared_in (cut (some 2) (some (2 + q6)) (nums ns))
  have zsh : ((List.range (cut (some 2) (some (2 + q6)) (nums ns)).length).map (fun i => ((cut (some 2) (some (2 + q6)) (nums ns)).getD i 0).fmod 16)).length ≤ 14 := by
    rw [List.length_map, List.length_range]; unfold cut; rw [List.length_drop, List.length_take, nums_len]; omega
  generalize (List.range (cut (some 2) (some (2 + q6)) (nums ns)).length).map (fun i => ((cut (some 2) (some (2 + q6)) (nums ns)).getD i 0).fmod 16) = sharedL at R11 hsh zsh
  clear F₉ F₁₀ P₁₀ F11' ch11 eq6 e6
  -- left
  have e12 := fmod_in (((nums ns).getD 1 0).fdiv 3) 3 (by decide)
  have hq12 : ∃ q : Nat, (((nums ns).getD 1 0).fdiv 3).fmod 3 = (q : Int) := ⟨_, (Int.toNat_of_nonneg e12.1).symm⟩
  obtain ⟨q12, eq12⟩ := hq12
  rw [eq12] at e12
  refine wpAny_execs_cons (assign_comp_ints (g := g₁) (fun k => ((nums ns).getD 8 0 + k).fmod 16) (by with_unfolding_all rfl) (by with_unfolding_all rfl) (by decide) rfl (by decide) rfl (by with_unfolding_all rfl) (by with_unfolding_all rfl) ?_ (fun _ => rfl))
  refine Call_ ?_
  walk_at "nmb"
  refine PyProof.Rows.callWith_type1 (spliced_more (wpAny_BinOp (wpAny_BinOp (Subscript_ ?_))))
  walk_at "nmc"
  refine wpAny_Constant_int ?_
  refine row_item (i := 1) (Rn.mono F11.keep) zn (nums_at ns 1 (by decide)) (fun t12 tk12 => ?_) (fun _ _ => rfl)
  refine wpAny_Constant_int ?_
  refine fdiv_int (by decide) (by decide) ?_
  refine wpAny_Constant_int ?_
  refine PyProof.Rows.mod_int (by decide) ?_
  refine spliced_none ?_
  refine comp_rangeI (g := g₁) (f := fun k => ((nums ns).getD 8 0 + k).fmod 16) (n := q12) hA.hh eq12 (by omega) F11 ?_ fun r12 h12 tk12 F12' R12 l12 => ?_
  · intro C i t (s₃ : Shared) m₃ E' hi F₃ hm
    refine wpAny_BinOp (wpAny_BinOp (Subscript_ ?_))
    walk_at "nmc"
    refine wpAny_Constant_int ?_
    refine row_item (i := 8) (Rn.mono F₃.keep) zn (nums_at ns 8 (by decide)) (fun t9 tk9 => ?_) (fun _ _ => rfl)
    walk_at "nma"
    refine add_int ?_
    refine wpAny_Constant_int ?_
    refine PyProof.Rows.mod_int (by decide) ?_
    exact ⟨⟨_, rfl⟩, _, rfl⟩
  have ha12 := F12'.abs
  obtain ⟨m12, F12, q_left, ch12⟩ := ha12
  refine any_toks (h := h12) (G := s.gens) (D := s.drawn) (O := s.os) (fun tk12' => ?_) _
  replace q_how := (ch12 (Str.ofString "how") (by decide)).trans q_how
  replace q_shared := (ch12 (Str.ofString "shared") (by decide)).trans q_shared
  have hl12 := range_in ((nums ns).getD 8 0) q12
  have zl12 : ((List.range q12).map fun i => ((nums ns).getD 8 0 + ((i : Nat) : Int)).fmod 16).length ≤ 2 := by rw [List.length_map, List.length_range]; omega
  generalize (List.range q12).map (fun i => ((nums ns).getD 8 0 + ((i : Nat) : Int)).fmod 16) = leftL at R12 hl12 zl12
  replace R11 := R11.wave F11 l12
  clear F11 F12' ch12 eq12 e12
  -- right
  have e13 := fmod_in (((nums ns).getD 1 0).fdiv 9) 3 (by decide)
  have hq13 : ∃ q : Nat, (((nums ns).getD 1 0).fdiv 9).fmod 3 = (q : Int) := ⟨_, (Int.toNat_of_nonneg e13.1).symm⟩
  obtain ⟨q13, eq13⟩ := hq13
  rw [eq13] at e13
  refine wpAny_execs_cons (assign_comp_ints (g := g₁) (fun k => ((nums ns).getD 9 0 + k).fmod 16) (by with_unfolding_all rfl) (by with_unfolding_all rfl) (by decide) rfl (by decide) rfl (by with_unfolding_all rfl) (by with_unfolding_all rfl) ?_ (fun _ => rfl))
  refine Call_ ?_
  walk_at "nmb"
  refine PyProof.Rows.callWith_type1 (spliced_more (wpAny_BinOp (wpAny_BinOp (Subscript_ ?_))))
  walk_at "nmc"
  refine wpAny_Constant_int ?_
  refine row_item (i := 1) (Rn.mono F12.keep) zn (nums_at ns 1 (by decide)) (fun t13 tk13 => ?_) (fun _ _ => rfl)
  refine wpAny_Constant_int ?_
  refine fdiv_int (by decide) (by decide) ?_
  refine wpAny_Constant_int ?_
  refine PyProof.Rows.mod_int (by decide) ?_
  refine spliced_none ?_
  refine comp_rangeI (g := g₁) (f := fun k => ((nums ns).getD 9 0 + k).fmod 16) (n := q13) hA.hh eq13 (by omega) F12 ?_ fun r13 h13 tk13 F13' R13 l13 => ?_
  · intro C i t (s₃ : Shared) m₃ E' hi F₃ hm
    refine wpAny_BinOp (wpAny_BinOp (Subscript_ ?_))
    walk_at "nmc"
    refine wpAny_Constant_int ?_
    refine row_item (i := 9) (Rn.mono F₃.keep) zn (nums_at ns 9 (by decide)) (fun t9 tk9 => ?_) (fun _ _ => rfl)
    walk_at "nma"
    refine add_int ?_
    refine wpAny_Constant_int ?_
    refine PyProof.Rows.mod_int (by decide) ?_
    exact ⟨⟨_, rfl⟩, _, rfl⟩
  have ha13 := F13'.abs
  obtain ⟨m13, F13, q_right, ch13⟩ := ha13
  refine any_toks (h := h13) (G := s.gens) (D := s.drawn) (O := s.os) (fun tk13' => ?_) _
  replace q_how := (ch13 (Str.ofString "how") (by decide)).trans q_how
  replace q_shared := (ch13 (Str.ofString "shared") (by decide)).trans q_shared
  replace q_left := (ch13 (Str.ofString "left") (by decide)).trans q_left
  have hl13 := range_in ((nums ns).getD 9 0) q13
  have zl13 : ((List.range q13).map fun i => ((nums ns).getD 9 0 + ((i : Nat) : Int)).fmod 16).length ≤ 2 := by rw [List.length_map, List.length_range]; omega
  generalize (List.range q13).map (fun i => ((nums ns).getD 9 0 + ((i : Nat) : Int)).fmod 16) = rightL at R13 hl13 zl13
  replace R11 := R11.wave F12 l13
  replace R12 := R12.wave F12 l13
  clear F12 F13' ch13 eq13 e13
  -- first = _law_form(shared + left, how)
  refine wpAny_execs_cons (wpAny_Assign_Name (Call_ ?_))
  walk_at "nmg"
  refine' callWith_K (K := hd.heap_39 w.params) W.K ?kk ?_
  case kk => k_is
  refine spliced_more (wpAny_BinOp ?_)
  walk_at "nma"
  walk_at "nma"
  refine row_add R11 R12 (by omega) fun r14 h14 tk14 l14 R14 => ?_
  have F14 := F13.ext l14
  replace l14 : Lasts h13 h14 := l14
  refine spliced_more ?_
  walk_at "nma"
  refine spliced_none ?_
  refine ⟨(W.mono F14.keep).K, ?_⟩
  refine form_spec w _ _ _ r14 _ th (sharedL ++ leftL) _ (W.mono F14.keep) (hA.deeper.less (by decide)) R14 (by rw [List.length_append]; omega) (all_app hsh hl12) fun first h15 tk15 l15 P15 => ?_
  have F15 := F14.ext l15
  replace l15 : Lasts h14 h15 := l15
  refine' st_clean s.gens s.drawn s.os F15 rfl rfl rfl (fun h16 tk16 m16 (F16 : Fs g₁ s.heap.objs.size h16 m16) q_first ch16 x16 => ?_) ?sa16 ?sb16
  case sa16 => with_unfolding_all rfl
  case sb16 => with_unfolding_all rfl
  have R1 := P15.store F15.ns x16
  replace R11 := ((R11.mono l14).mono l15).store F15.ns x16
  replace R13 := ((R13.mono l14).mono l15).store F15.ns x16
  replace q_how := (ch16 (Str.ofString "how") (by decide)).trans q_how
  replace q_shared := (ch16 (Str.ofString "shared") (by decide)).trans q_shared
  replace q_right := (ch16 (Str.ofString "right") (by decide)).trans q_right
  clear F15 F14 F13 R14 P15 R12 q_left x16 ch16
  -- second = _law_form(shared + right, how)
  refine wpAny_execs_cons (wpAny_Assign_Name (Call_ ?_))
  walk_at "nmg"
  refine' callWith_K (K := hd.heap_39 w.params) W.K ?kk2 ?_
  case kk2 => k_is
  refine spliced_more (wpAny_BinOp ?_)
  walk_at "nma"
  walk_at "nma"
  refine row_add R11 R13 (by omega) fun r17 h17 tk17 l17 R17 => ?_
  have F17 := F16.ext l17
  replace l17 : Lasts h16 h17 := l17
  refine spliced_more ?_
  walk_at "nma"
  refine spliced_none ?_
  refine ⟨(W.mono F17.keep).K, ?_⟩
  refine form_spec w _ _ _ r17 _ th (sharedL ++ rightL) _ (W.mono F17.keep) (hA.deeper.less (by decide)) R17 (by rw [List.length_append]; omega) (all_app hsh hl13) fun second h18 tk18 l18 P18 => ?_
  have F18 := F17.ext l18
  replace l18 : Lasts h17 h18 := l18
  refine' st_clean s.gens s.drawn s.os F18 rfl rfl rfl (fun h19 tk19 m19 (F19 : Fs g₁ s.heap.objs.size h19 m19) q_second ch19 x19 => ?_) ?sa19 ?sb19
  case sa19 => with_unfolding_all rfl
  case sb19 => with_unfolding_all rfl
  have R2 := P18.store F18.ns x19
  replace R1 := ((R1.mono l17).mono l18).store F18.ns x19
  replace q_first := (ch19 (Str.ofString "first") (by decide)).trans q_first
  have z1 : (sharedL ++ leftL).length ≤ 1000 := by rw [List.length_append]; omega
  have z2 : (sharedL ++ rightL).length ≤ 1000 := by rw [List.length_append]; omega
  have zz1 : (sharedL ++ leftL).length ≤ 16 := by rw [List.length_append]; omega
  clear F18 F17 F16 R17 P18 R11 R13 q_how q_shared q_right x19 ch19 hsh hl12 hl13 zsh zl12 zl13
  generalize (if ((nums ns).getD 1 0).fmod 3 = 0 then Kd.tup else if ((nums ns).getD 1 0).fmod 3 = 1 then Kd.lst else Kd.byt) = kd at R1 R2
  generalize sharedL ++ leftL = xs at R1 z1 zz1
  generalize sharedL ++ rightL = ys at R2 z2
  -- size = _law_longest(first, second)
  refine wpAny_execs_cons (wpAny_Assign_Name (Call_ ?_))
  walk_at "nmg"
  refine' callWith_K (K := hd.heap_39 w.params) W.K ?kk3 ?_
  case kk3 => k_is
  refine spliced_more ?_
  walk_at "nma"
  refine spliced_more ?_
  walk_at "nma"
  refine spliced_none ?_
  refine ⟨(W.mono F19.keep).K, ?_⟩
  refine longest_spec w _ _ _ kd first second xs ys _ (W.mono F19.keep) (hA.deeper.less (by decide)) R1 R2 z1 z2 fun t20 h20 tk20 l20 => ?_
  replace l20 : Lasts h19 h20 := l20
  have F20 := F19.ext l20
  refine' st_cleanI s.gens s.drawn s.os F20 rfl rfl rfl (fun h21 tk21 m21 ts (F21 : Fs g₁ s.heap.objs.size h21 m21) q_size ch21 x21 => ?_) ?sa21 ?sb21
  case sa21 => with_unfolding_all rfl
  case sb21 => with_unfolding_all rfl
  replace R1 := (R1.mono l20).store F20.ns x21
  replace R2 := (R2.mono l20).store F20.ns x21
  replace q_first := (ch21 (Str.ofString "first") (by decide)).trans q_first
  replace q_second := (ch21 (Str.ofString "second") (by decide)).trans q_second
  clear F20 F19 x21 ch21
  -- get_common_prefix_length(first, second) != size
  refine wpAny_execs_cons (wpAny_If (wpAny_isTrue_Compare1 (Call_ ?_)))
  walk_at "nmg"
  refine' callWith_K (K := hd.heap_39 w.params) W.K ?kk4 ?_
  case kk4 => k_is
  refine spliced_more ?_
  walk_at "nma"
  refine spliced_more ?_
  walk_at "nma"
  refine spliced_none ?_
  refine ⟨(W.mono F21.keep).K, ?_⟩
  refine gcpl_spec w _ _ _ kd first second xs ys _ (W.mono F21.keep) hA.hh (by have := hA.dep; show A.depth + 1 + 2 < _; omega) R1 R2 z1 z2 fun t22 h22 tk22 l22 => ?_
  replace l22 : Lasts h21 h22 := l22
  have F22 := F21.ext l22
  walk_at "nma"
  refine ne_int_self ?_
  refine wpAny_truthy_bool ?_
  refine wpAny_execs_nil ?_
  refine any_toks (h := h22) (G := s.gens) (D := s.drawn) (O := s.os) (fun tk23 => ?_) _
  replace R1 := R1.mono l22
  replace R2 := R2.mono l22
  clear F21
  -- consume_common_prefix(first, second) != (..)
  refine wpAny_execs_cons (wpAny_If (wpAny_isTrue_Compare1 (Call_ ?_)))
  walk_at "nmg"
  refine' callWith_K (K := hd.heap_39 w.params) W.K ?kk5 ?_
  case kk5 => k_is
  refine spliced_more ?_
  walk_at "nma"
  refine spliced_more ?_
  walk_at "nma"
  refine spliced_none ?_
  refine ⟨(W.mono F22.keep).K, ?_⟩
  refine consume_spec w _ _ _ kd first second xs ys _ (W.mono F22.keep) (hA.deeper.less (by decide)) R1 R2 z1 z2 fun aT p1 p2 p3 h24 tk24 l24 T24 Q1 Q2 Q3 => ?_
  replace l24 : Lasts h22 h24 := l24
  have F24 := F22.ext l24
  replace R1 := R1.mono l24
  replace R2 := R2.mono l24
  refine wpAny_Tuple (spliced_more (Subscript_ ?_))
  walk_at "nma"
  refine wpAny_Slice (evalPart_none_step (evalPart_some_step ?_))
  walk_at "nma"
  refine evalPart_none_step ?_
  refine row_slice (lo := none) (hi := some (cpl xs ys)) R1 z1 .none (.int _ _) (fun u1 h25 tk25 (l25 : Lasts h24 h25) (U1 : Row h25 kd u1 (xs.take (cpl xs ys))) => ?_) (fun _ _ => rfl)
  have F25 := F24.ext l25
  refine spliced_more (Subscript_ ?_)
  walk_at "nma"
  refine wpAny_Slice (evalPart_some_step ?_)
  walk_at "nma"
  refine evalPart_none_step (evalPart_none_step ?_)
  refine row_slice (lo := some (cpl xs ys)) (hi := none) (R1.mono l25) z1 (.int _ _) .none (fun u2 h26 tk26 (l26 : Lasts h25 h26) (U2 : Row h26 kd u2 (xs.drop (cpl xs ys))) => ?_) (fun _ _ => rfl)
  have F26 := F25.ext l26
  refine spliced_more (Subscript_ ?_)
  walk_at "nma"
  refine wpAny_Slice (evalPart_some_step ?_)
  walk_at "nma"
  refine evalPart_none_step (evalPart_none_step ?_)
  refine row_slice (lo := some (cpl xs ys)) (hi := none) ((R2.mono l25).mono l26) z2 (.int _ _) .none (fun u3 h27 tk27 (l27 : Lasts h26 h27) (U3 : Row h27 kd u3 (ys.drop (cpl xs ys))) => ?_) (fun _ _ => rfl)
  have F27 := F26.ext l27
  refine spliced_none ⟨three_fit, ?_⟩
  have l28 := Lasts.push h27 { cls := .type "tuple", data := .seq #[u1, u2, u3] }
  have ll : Lasts h24 (h27.push { cls := .type "tuple", data := .seq #[u1, u2, u3] }) := ((l25.trans l26).trans l27).trans l28
  refine triple_ne (k := kd) (tup_mono T24 ll) ⟨_, Heap.get?_push_size _ rfl, rfl, _, rfl⟩ (Q1.mono ll) (Q2.mono ll) (Q3.mono ll) (((U1.mono l26).mono l27).mono l28) ((U2.mono l27).mono l28) (U3.mono l28) (un_ok hA.deeper) ?_
  refine wpAny_truthy_bool ?_
  refine wpAny_execs_nil ?_
  have F28 := F27.ext l28
  refine any_toks (h := h27.push { cls := .type "tuple", data := .seq #[u1, u2, u3] }) (G := s.gens) (D := s.drawn) (O := s.os) (fun tk28 => ?_) _
  replace R1 := R1.mono ll
  replace R2 := R2.mono ll
  clear F22 F24 F25 F26 F27 Q1 Q2 Q3 U1 U2 U3 T24 q_size ll l28
  -- key_starts_with, both ways round
  have hre := rebase30 F28 W T BM Cn Rn (by with_unfolding_all rfl)
  obtain ⟨g₂, F31, W31, BM31, g30, Cn31, Rn31, xg, L30⟩ := hre
  have T31 := T.mono F28.keep
  have BM30 := BM31.keeps F31.keep
  refine wpAny_execs_cons (wpAny_If (isTrue_or (wpAny_isTrue_Compare1 (Call_ ?_))))
  walk_at "nmg"
  refine' callWith_K (K := hd.heap_39 w.params) W31.K ?kk6 ?_
  case kk6 => k_is
  refine spliced_more ?_
  walk_at "nma"
  refine spliced_more ?_
  walk_at "nma"
  refine spliced_none ?_
  refine ⟨(W31.mono F31.keep).K, ?_⟩
  refine starts_spec w _ _ _ kd first second xs ys ps mg bm ob _ (W31.mono F31.keep) (hA.deeper.less (by decide)) T31 BM30 hG R1 R2 z1 z2 fun s₃ more1 dr1 os1 ga1 x32 T32 => ?_
  replace x32 : Heap.ExtBut 30 _ s₃.heap := x32
  have F32 := F31.tab x32 L30 g30
  replace R1 := R1.tab T31 x32
  replace R2 := R2.tab T31 x32
  clear T31 x32 F28
  refine Call_ ?_
  walk_at "nmg"
  refine' callWith_K (K := hd.heap_39 w.params) W31.K ?kk7 ?_
  case kk7 => k_is
  refine spliced_more ?_
  walk_at "nma"
  refine spliced_more ?_
  walk_at "nma"
  refine spliced_none ?_
  refine ⟨(W31.mono F32.keep).K, ?_⟩
  refine begins_spec w _ _ _ kd first second xs ys _ (W31.mono F32.keep) (hA.deeper.less (by decide)) R1 R2 z1 z2 fun h33 tk33 l33 => ?_
  have F33 := F32.ext l33
  have T33 := T32.mono l33
  replace R1 := R1.mono l33
  replace R2 := R2.mono l33
  clear T32 F32
  refine ne_bool_self ?_
  refine wpAny_truthy_bool ?_
  refine isTrue_or (wpAny_isTrue_Compare1 (Call_ ?_))
  walk_at "nmg"
  refine' callWith_K (K := hd.heap_39 w.params) W31.K ?kk8 ?_
  case kk8 => k_is
  refine spliced_more ?_
  walk_at "nma"
  refine spliced_more ?_
  walk_at "nma"
  refine spliced_none ?_
  refine ⟨(W31.mono F33.keep).K, ?_⟩
  refine starts_spec w _ _ _ kd second first ys xs (ps ++ more1) mg bm ob _ (W31.mono F33.keep) (hA.deeper.less (by decide)) T33 (BM31.keeps F33.keep) ga1 R2 R1 z2 z1 fun s₄ more2 dr2 os2 ga2 x34 T34 => ?_
  replace x34 : Heap.ExtBut 30 h33 s₄.heap := x34
  have F34 := F33.tab x34 L30 g30
  replace R1 := R1.tab T33 x34
  replace R2 := R2.tab T33 x34
  clear T33 x34 F33
  refine Call_ ?_
  walk_at "nmg"
  refine' callWith_K (K := hd.heap_39 w.params) W31.K ?kk9 ?_
  case kk9 => k_is
  refine spliced_more ?_
  walk_at "nma"
  refine spliced_more ?_
  walk_at "nma"
  refine spliced_none ?_
  refine ⟨(W31.mono F34.keep).K, ?_⟩
  refine begins_spec w _ _ _ kd second first ys xs _ (W31.mono F34.keep) (hA.deeper.less (by decide)) R2 R1 z2 z1 fun h35 tk35 l35 => ?_
  have F35 := F34.ext l35
  have T35 := T34.mono l35
  replace R1 := R1.mono l35
  replace R2 := R2.mono l35
  refine ne_bool_self ?_
  refine wpAny_truthy_bool ?_
  refine isTrue_or_nil ?_
  refine wpAny_execs_nil ?_
  clear T34 F34
  have os35 : s₄.os = s.os := os2.trans os1
  refine any_toks (h := h35) (G := s₄.gens) (D := s₄.drawn) (O := s₄.os) (fun tk36 => ?_) _
  replace xg : Heap.ExtBut 30 s.heap g₂ := fun b o hb e => xg b o hb (ls _ _ e)
  -- fill
  refine wpAny_execs_cons (wpAny_Assign_Name (wpAny_mono (Q := fun v s' => (∃ tk, s' = ⟨h35, s₄.gens, s₄.drawn, tk, s₄.os⟩) ∧ ∃ fd, Pl v fd) ?_ (fun fv s' hv => ?_) (fun _ _ e => e)))
  · refine IfExp_ (isTrue_plain (wpAny_BinOp (Subscript_ ?_)))
    walk_at "nmc"
    refine wpAny_Constant_int ?_
    refine row_item (i := 10) (Rn31.mono F35.keep) zn (nums_at ns 10 (by decide)) (fun t9 tk9 => ?_) (fun _ _ => rfl)
    refine wpAny_Constant_int ?_
    refine PyProof.Rows.mod_int (by decide) ?_
    refine truthy_int ?_
    split
    · refine wpAny_BinOp (Subscript_ ?_)
      walk_at "nmc"
      refine wpAny_Constant_int ?_
      refine row_item (i := 10) (Rn31.mono F35.keep) zn (nums_at ns 10 (by decide)) (fun t9 tk9 => ?_) (fun _ _ => rfl)
      refine wpAny_Constant_int ?_
      refine PyProof.Rows.mod_int (by decide) ?_
      exact ⟨⟨_, rfl⟩, some _, _, rfl⟩
    · exact fun _ _ _ => ⟨⟨_, rfl⟩, none, rfl⟩
  obtain ⟨⟨tkf, rfl⟩, fd, hfd⟩ := hv
  refine' st_clean s₄.gens s₄.drawn s₄.os F35 rfl rfl rfl (fun h36 tk36 m36 (F36 : Fs g₂ s.heap.objs.size h36 m36) q_fill ch36 x36 => ?_) ?sa36 ?sb36
  case sa36 => with_unfolding_all rfl
  case sb36 => with_unfolding_all rfl
  replace R1 := R1.store F35.ns x36
  replace R2 := R2.store F35.ns x36
  have T36 := T35.store F35.ns x36
  replace q_first := (ch36 (Str.ofString "first") (by decide)).trans q_first
  replace q_second := (ch36 (Str.ofString "second") (by decide)).trans q_second
  clear F35 T35 x36 ch36
  -- zip_longest(..) != _law_paired(..)
  refine wpAny_execs_cons (wpAny_If (wpAny_isTrue_Compare1 (Call_ ?_)))
  walk_at "nmg"
  refine' callWith_K (K := hd.heap_39 w.params) W31.K ?kk10 ?_
  case kk10 => k_is
  refine spliced_more ?_
  walk_at "nma"
  refine spliced_more ?_
  walk_at "nma"
  refine spliced_more ?_
  walk_at "nma"
  refine spliced_none ?_
  refine ⟨(W31.mono F36.keep).K, ?_⟩
  refine zip_longest_spec w _ _ _ kd first second fv xs ys fd _ (W31.mono F36.keep) (hA.deeper.less (by decide)) R1 R2 z1 z2 hfd fun D1 h37 tk37 l37 P37 => ?_
  replace l37 : Lasts h36 h37 := l37
  have F37 := F36.ext l37
  replace R1 := R1.mono l37
  replace R2 := R2.mono l37
  refine Call_ ?_
  walk_at "nmg"
  refine' callWith_K (K := hd.heap_39 w.params) W31.K ?kk11 ?_
  case kk11 => k_is
  refine spliced_more ?_
  walk_at "nma"
  refine spliced_more ?_
  walk_at "nma"
  refine spliced_more ?_
  walk_at "nma"
  refine spliced_none ?_
  refine ⟨(W31.mono F37.keep).K, ?_⟩
  refine paired_spec w _ _ _ kd first second fv xs ys fd _ (W31.mono F37.keep) (hA.deeper.less (by decide)) R1 R2 z1 z2 hfd fun D2 h38 tk38 l38 P38 => ?_
  replace l38 : Lasts h37 h38 := l38
  have F38 := F37.ext l38
  replace R1 := R1.mono l38
  replace R2 := R2.mono l38
  refine prs_ne (P37.mono l38) P38 (un_ok3 hA.deeper) ?_
  refine wpAny_truthy_bool ?_
  refine wpAny_execs_nil ?_
  have T38 := (T36.mono l37).mono l38
  clear F36 F37 P37 P38 T36
  refine any_toks (h := h38) (G := s₄.gens) (D := s₄.drawn) (O := s₄.os) (fun tk39 => ?_) _
  -- chain(first, second) != list(first) + list(second)
  refine wpAny_execs_cons (wpAny_If (wpAny_isTrue_Compare1 (Call_ ?_)))
  walk_at "nmg"
  refine' callWith_K (K := hd.heap_39 w.params) W31.K ?kk12 ?_
  case kk12 => k_is
  refine spliced_more ?_
  walk_at "nma"
  refine spliced_more ?_
  walk_at "nma"
  refine spliced_none ?_
  refine ⟨(W31.mono F38.keep).K, ?_⟩
  refine chain_spec w _ _ _ kd first second xs ys _ (W31.mono F38.keep) (hA.deeper.less (by decide)) R1 R2 z1 z2 fun r40 h40 tk40 l40 R40 => ?_
  replace l40 : Lasts h38 h40 := l40
  have F40 := F38.ext l40
  replace R1 := R1.mono l40
  replace R2 := R2.mono l40
  refine wpAny_BinOp (Call_ ?_)
  walk_at "nmb"
  refine PyProof.Rows.callWith_type1 (spliced_more ?_)
  walk_at "nma"
  refine spliced_none ?_
  refine row_list R1 hA.hh z1 fun r41 h41 tk41 l41 R41 => ?_
  replace l41 : Lasts h40 h41 := l41
  have F41 := F40.ext l41
  refine Call_ ?_
  walk_at "nmb"
  refine PyProof.Rows.callWith_type1 (spliced_more ?_)
  walk_at "nma"
  refine spliced_none ?_
  refine row_list (R2.mono l41) hA.hh z2 fun r42 h42 tk42 l42 R42 => ?_
  replace l42 : Lasts h41 h42 := l42
  have F42 := F41.ext l42
  refine row_add (R41.mono l42) R42 (by omega) fun r43 h43 tk43 l43 R43 => ?_
  replace l43 : Lasts h42 h43 := l43
  have F43 := F42.ext l43
  refine row_ne_self (((R40.mono l41).mono l42).mono l43) R43 (un_ok2 hA.deeper) ?_
  refine wpAny_truthy_bool ?_
  refine wpAny_execs_nil ?_
  replace R1 := ((R1.mono l41).mono l42).mono l43
  have T43 := (((T38.mono l40).mono l41).mono l42).mono l43
  clear F38 F40 F41 F42 R40 R41 R42 R43 T38 R2
  refine any_toks (h := h43) (G := s₄.gens) (D := s₄.drawn) (O := s₄.os) (fun tk44 => ?_) _
  -- step = 1 + numbers[11] % 5
  have e45 := fmod_in ((nums ns).getD 11 0) 5 (by decide)
  have hq45 : ∃ q : Nat, 1 + ((nums ns).getD 11 0).fmod 5 = (q : Int) := ⟨_, (Int.toNat_of_nonneg (by omega)).symm⟩
  obtain ⟨c, ec⟩ := hq45
  refine wpAny_execs_cons (wpAny_Assign_Name (wpAny_BinOp (wpAny_Constant_int (wpAny_BinOp (Subscript_ ?_)))))
  walk_at "nmc"
  refine wpAny_Constant_int ?_
  refine row_item (i := 11) (Rn31.mono F43.keep) zn (nums_at ns 11 (by decide)) (fun t9 tk9 => ?_) (fun _ _ => rfl)
  refine wpAny_Constant_int ?_
  refine PyProof.Rows.mod_int (by decide) ?_
  refine add_int ?_
  refine' st_cleanI s₄.gens s₄.drawn s₄.os F43 rfl rfl rfl (fun h45 tk45 m45 ts (F45 : Fs g₂ s.heap.objs.size h45 m45) q_step ch45 x45 => ?_) ?sa45 ?sb45
  case sa45 => with_unfolding_all rfl
  case sb45 => with_unfolding_all rfl
  replace R1 := R1.store F43.ns x45
  have T45 := T43.store F43.ns x45
  replace q_first := (ch45 (Str.ofString "first") (by decide)).trans q_first
  rw [ec] at q_step
  have hcin : 1 ≤ c ∧ c ≤ 1000 := by omega
  clear F43 T43 x45 ch45
  -- not _law_cuts(first, step, partition_all(step, first))
  refine wpAny_execs_cons (wpAny_If (isTrue_not (isTrue_plain (Call_ ?_))))
  walk_at "nmg"
  refine' callWith_K (K := hd.heap_39 w.params) W31.K ?kk13 ?_
  case kk13 => k_is
  refine spliced_more ?_
  walk_at "nma"
  refine spliced_more ?_
  walk_at "nma"
  refine spliced_more (Call_ ?_)
  walk_at "nmg"
  refine' callWith_K (K := hd.heap_39 w.params) W31.K ?kk14 ?_
  case kk14 => k_is
  refine spliced_more ?_
  walk_at "nma"
  refine spliced_more ?_
  walk_at "nma"
  refine spliced_none ?_
  refine ⟨(W31.mono F45.keep).K, ?_⟩
  refine partition_spec w _ _ _ kd c ts first xs _ (W31.mono F45.keep) (hA.deeper.less (by decide)) R1 z1 hcin.1 hcin.2 fun D1 h46 tk46 ys l46 D46 hys P46 => ?_
  replace l46 : Lasts h45 h46 := l46
  have F46 := F45.ext l46
  replace R1 := R1.mono l46
  refine spliced_none ?_
  refine ⟨(W31.mono F46.keep).K, ?_⟩
  refine cuts_spec w _ _ _ kd c ts D1 ys first xs _ (W31.mono F46.keep) (hA.deeper.less (by decide)) R1 z1 hcin.1 hcin.2 D46 hys P46 fun h47 tk47 l47 => ?_
  replace l47 : Lasts h46 h47 := l47
  have F47 := F46.ext l47
  replace R1 := R1.mono l47
  have T47 := (T45.mono l46).mono l47
  refine wpAny_truthy_bool ?_
  refine wpAny_execs_nil ?_
  clear F45 F46 D46 P46 T45
  refine any_toks (h := h47) (G := s₄.gens) (D := s₄.drawn) (O := s₄.os) (fun tk48 => ?_) _
  -- octets
  refine wpAny_execs_cons (wpAny_Assign_Name (wpAny_BinOp (Call_ ?_)))
  walk_at "nmb"
  refine PyProof.Rows.callWith_type1 (spliced_more (wpAny_List (spliced_more (wpAny_BinOp (Subscript_ ?_)))))
  walk_at "nmc"
  refine wpAny_Constant_int ?_
  refine row_item (i := 12) (Rn31.mono F47.keep) zn (nums_at ns 12 (by decide)) (fun t9 tk9 => ?_) (fun _ _ => rfl)
  refine wpAny_Constant_int ?_
  refine PyProof.Rows.mod_int (by decide) ?_
  refine spliced_more (wpAny_BinOp (Subscript_ ?_))
  walk_at "nmc"
  refine wpAny_Constant_int ?_
  refine row_item (i := 13) (Rn31.mono F47.keep) zn (nums_at ns 13 (by decide)) (fun t10 tk10 => ?_) (fun _ _ => rfl)
  refine wpAny_Constant_int ?_
  refine PyProof.Rows.mod_int (by decide) ?_
  refine spliced_none ⟨two_fit, ?_⟩
  refine spliced_none ?_
  refine row_bytes (ns := [((nums ns).getD 12 0).fmod 256, ((nums ns).getD 13 0).fmod 256]) (two_ints _ _ _ _ _) (by simp) (two_in _ _) hA.hh fun rb h49 tk49 l49 R49 => ?_
  have l48 : Lasts h47 h49 := Lasts.trans (Lasts.push _ _) l49
  have F49 := F47.ext l48
  replace R1 := R1.mono l48
  have T49 := T47.mono l48
  clear l49 F47 T47
  refine wpAny_BinOp (Subscript_ ?_)
  walk_at "nmc"
  refine wpAny_Constant_int ?_
  refine row_item (i := 13) (Rn31.mono F49.keep) zn (nums_at ns 13 (by decide)) (fun t11 tk11 => ?_) (fun _ _ => rfl)
  refine wpAny_Constant_int ?_
  refine PyProof.Rows.mod_int (by decide) ?_
  refine row_bmul R49 (by simp) (by simp) (fmod_in _ 21 (by decide)).1 (by have := (fmod_in ((nums ns).getD 13 0) 21 (by decide)).2; omega) fun b tb tk50 hb => ?_
  refine' st_clean s₄.gens s₄.drawn s₄.os F49 rfl rfl rfl (fun h51 tk51 m51 (F51 : Fs g₂ s.heap.objs.size h51 m51) q_octets ch51 x51 => ?_) ?sa51 ?sb51
  case sa51 => with_unfolding_all rfl
  case sb51 => with_unfolding_all rfl
  replace R1 := R1.store F49.ns x51
  have T51 := T49.store F49.ns x51
  replace q_first := (ch51 (Str.ofString "first") (by decide)).trans q_first
  clear F49 T49 x51 ch51 R49
  -- number = 0
  refine wpAny_execs_cons (wpAny_Assign_Name (wpAny_Constant_int ?_))
  refine' st_cleanI s₄.gens s₄.drawn s₄.os F51 rfl rfl rfl (fun h52 tk52 m52 tn (F52 : Fs g₂ s.heap.objs.size h52 m52) q_number ch52 x52 => ?_) ?sa52 ?sb52
  case sa52 => with_unfolding_all rfl
  case sb52 => with_unfolding_all rfl
  replace R1 := R1.store F51.ns x52
  have T52 := T51.store F51.ns x52
  replace q_first := (ch52 (Str.ofString "first") (by decide)).trans q_first
  replace q_octets := (ch52 (Str.ofString "octets") (by decide)).trans q_octets
  clear F51 T51 x52 ch52
  have F53 := F52.grow
  have R53 : Row (h52.hide s.heap.objs.size) kd first xs := R1.hide F52
  have T53 := T52.hide F52.ns
  have W53 := W31.mono F52.lasts
  have lg := F52.lasts
  clear F52 T52 R1 W31
  -- for octet in octets
  refine wpAny_execs_cons (wpAny_For ?_ (fun _ => rfl))
  walk_at "nma"
  refine loop_bytes hA.hh (by with_unfolding_all rfl) (by with_unfolding_all rfl) F53 (fun j m => m (Str.ofString "first") = some first ∧ m (Str.ofString "octets") = some (.bytes b tb) ∧ ∃ tn, m (Str.ofString "number") = some (.int (KFB.value ((KBw.bInts b).take j)) tn))
    ⟨q_first, q_octets, tn, q_number⟩ ?_ ?_
  · rintro j ch u m₁ s₁ E' hc ⟨e1, e2, tn', e3⟩ F'
    have hm2 := F'.abs
    obtain ⟨m₂, F₂, q1, cc⟩ := hm2
    replace e1 := (cc (Str.ofString "first") (by decide)).trans e1
    replace e2 := (cc (Str.ofString "octets") (by decide)).trans e2
    replace e3 := (cc (Str.ofString "number") (by decide)).trans e3
    clear F' cc
    refine wpAny_execs_cons (wpAny_Assign_Name (wpAny_BinOp (wpAny_BinOp ?_)))
    walk_at "nma"
    refine wpAny_Constant_int ?_
    refine mul_int ?_ (IntMulOk.of_right (by decide))
    walk_at "nma"
    refine add_int ?_
    refine' st_cleanI s₁.gens s₁.drawn s₁.os F₂ rfl rfl rfl (fun h54 tk54 m54 tn2 F54 q_n ch54 x54 => ?_) ?sa54 ?sb54
    case sa54 => with_unfolding_all rfl
    case sb54 => with_unfolding_all rfl
    refine wpAny_execs_nil ⟨h54, tk54, m54, rfl, rfl, fun c o hc e => x54 c o hc e, F54, (ch54 (Str.ofString "first") (by decide)).trans e1, (ch54 (Str.ofString "octets") (by decide)).trans e2, tn2, ?_⟩
    rw [take_bytes hc, value_snoc]; exact q_n
  · rintro h55 tk55 m55 ⟨e1, e2, tn', e3⟩ F55
    rw [take_all_bytes] at e3
    refine wpAny_execs_cons (wpAny_Return_some (BoolOp_and (wpAny_Compare1 (Call_ ?_))))
    walk_at "nmg"
    refine' callWith_K (K := hd.heap_39 w.params) W53.K ?kk15 ?_
    case kk15 => k_is
    refine spliced_more ?_
    walk_at "nma"
    refine spliced_none ?_
    refine ⟨(W53.mono F55.keep).K, ?_⟩
    refine to_int_spec w _ _ _ b tb _ (W53.mono F55.keep) (hA.deeper.less (by decide)) hb fun t56 h56 tk56 l56 => ?_
    replace l56 : Lasts h55 h56 := l56
    have F56 := F55.ext l56
    walk_at "nma"
    refine eq_int_self ?_
    refine wpAny_truthy_bool ?_
    refine BoolOp_one (wpAny_Compare1 (Call_ ?_))
    walk_at "nmg"
    refine' callWith_K (K := hd.heap_39 w.params) W53.K ?kk16 ?_
    case kk16 => k_is
    refine spliced_more (wpAny_Constant_none ?_)
    refine spliced_more ?_
    walk_at "nma"
    refine spliced_none ?_
    refine ⟨(W53.mono F56.keep).K, ?_⟩
    refine cast_spec w _ _ _ .none first _ (W53.mono F56.keep) (hA.deeper.less (by decide)) fun h57 tk57 l57 => ?_
    replace l57 : Lasts h56 h57 := l57
    have F57 := F56.ext l57
    walk_at "nma"
    refine row_eq_self (R53.mono F57.keep) (R53.mono F57.keep) (un_ok2 hA.deeper) ?_
    refine hQ _ (more1 ++ more2) os35 ga2 (fun b o hb e => F57.keep _ _ (lg _ _ (xg b o hb e))) ?_
    rw [← Array.append_assoc]
    exact T53.mono F57.keep
end Mine
end

open PySem PySem.W PyProof.Rows PySem.Calls Mine
set_option maxRecDepth 100000 in
set_option maxHeartbeats 8000000 in
theorem PySem.Challenge.cw_ad6015_01_holds : PySem.Challenge.rw_ad6015_01.Holds := by
  refine Mine.hd ?_
  k_fill
  intro w s₀ s₁ mg mb G Y fa o pm cd doc dV kV ho hd hcd hD hmg hg args vals as hpre hlay hrd hwl hlo
  have KX := kIn_of Y
  refine Ground.open G ?_
  intro T B D TE TW
  obtain ⟨bm, ob, M⟩ := bmod_of_top T
  have h34 : nsIn (Mine.hd.heap_39 w.params) mainGlobals (Str.ofString "law") = some (some (.ref 104)) := by k_is
  have efa := hmg.symm.trans (mg_of KX T.g h34)
  have hd' : ∃ d ∈ recsOf Mine.hd.view_39, d.name = Str.ofString "key_starts_with" := by
    decide +kernel
  obtain ⟨d₃, hd₃, hn₃⟩ := hd'
  obtain ⟨a₃, o₃, fd₃, c₃, P₃, e₁, e₂, e₃, e₄, ic, it⟩ := T.tab d₃ hd₃
  have h35 : nsIn (Mine.hd.heap_39 w.params) mainGlobals (Str.ofString "key_starts_with") = some (some (.ref 35)) := by k_is
  have e35 := (hn₃ ▸ e₁).symm.trans (mg_of KX T.g h35)
  cases efa
  cases e35
  have k35 := KX 35 _ (by with_unfolding_all rfl)
  have k34 := KX 34 _ (by with_unfolding_all rfl)
  have ec : c₃ = 34 := by
    rw [e₂] at k35; cases k35; cases e₃; cases e₄; rfl
  subst ec
  have eP : P₃ = 30 := by
    obtain ⟨⟨oc, vsc, x1, x2, x3, x4⟩, _⟩ := it
    rw [x1] at k34; cases k34; cases x3; cases x4; rfl
  subst eP
  have Tb : Mine.Tab s₁.heap 34 30 #[] := ⟨ic, it.2⟩
  have Wd₁ : Mine.Wd (Mine.hd.heap_39 w.params) s₁.heap := ⟨KX, ⟨mg, mb, T.g, T.b, T.builtins⟩, T.nolimit⟩
  wrow_args hpre hlay hrd hwl hlo
  rename_i ns _ _ _ _ _ _ _ aL vs _ hL _ _ _ hI _ hcond _
  refine Mine.law_spec w callerA _ s₁ (.ref aL) ns #[] mg bm ob _ Wd₁ ⟨rfl, by decide, by decide⟩ Tb M (.of_eq hg) ⟨aL, vs, rfl, hL, hI⟩ (by omega) fun s' more hos hbare hx hT' => ?_
  refine ⟨.inl ⟨_, _, [], rfl, fun _ => rfl, ReadsW.bool true, ?_, fun _ => ⟨List.nodup_nil, fun _ hm => (nomatch hm)⟩⟩, ⟨?_, ?_⟩, hos, hbare⟩
  · wrow_post
  · intro b o' e
    by_cases hb : b = 30
    · subst hb
      have e' := Tb.obj.symm.trans e
      cases e'
      exact .inr (.inl ⟨it.isCodeTable, rfl, #[], more, rfl, by simpa using hT'.obj⟩)
    · exact .inl (hx b o' hb e)
  · intro b o' e
    by_cases hb : b = 30
    · subst hb; exact ⟨_, hT'.obj⟩
    · exact ⟨o', hx b o' hb e⟩
