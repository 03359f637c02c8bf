import PyProof.Rows.All
import Wide.All
import OpenK.AllK
import Wide.FinOn
import Lean
import PySem.Challenge.RW_ev0022_01
set_option Elab.async false
set_option linter.all false
section
set_option Elab.async false
set_option maxRecDepth 100000
set_option linter.unusedVariables false
namespace Mine
open PySem PySem.Spec PySem.Calls PyProof.Rows PySem.W PySem.SeqAt
theorem list_iaddW (l b : Addr) (items items2 : Array Value) (n n2 : Nat) (dd dd2 : Option Addr) (sl sl2 : Array (Option Value)) (hs0 : ¬(!items.isEmpty && Builtin.List.listTooLong (items.size + items2.size)) = true) (hs1 : items.size ≤ sizeLine) (hs2 : items.size + items2.size ≤ sizeLine + 1) :
    Meets (Builtin.«list.__iadd__» ⟨[.ref l, .ref b], []⟩) (fun _ R s => s.heap.get? l = some { cls := .type "list", dict := dd, data := .seq items n, slots := sl } ∧ s.heap.get? b = some { cls := .type "list", dict := dd2, data := .seq items2 n2, slots := sl2 } ∧ R (.ok (.ret (Value.ref l))) { s with heap := s.heap.update l (Obj.mapSeq fun x => x ++ items2), toks := s.toks }) :=
  .of_wp fun prog w A R s h => by
    obtain ⟨hp, g, d, tk, os⟩ := s; obtain ⟨hl, hb, h⟩ := h; have f1 := AutoSeq1.idx_int; have f2 := AutoSeq1.sub_tuple_tuple; have f3 := AutoSeq1.sub_list_list; have f4 := AutoSeq1.sub_tuple_list; have f5 := AutoSeq1.sub_list_tuple;
    have hz' : (items ++ items2).size ≤ sizeLine + 1 := by rw [Array.size_append]; exact hs2
    wp_walk using (wpAny_updateSeq hl rfl (hz := hs1) (_hz' := hz')), AutoSeq1.wpAny_loadPart' hl, AutoSeq1.wpAny_loadPart' hb; exact ⟨_, rfl, h⟩
theorem iseq_list : seqSlot? (.type "list") (dunderI "add") = pure (some (.builtin "list.__iadd__")) := PySem.seqSlot_of F.slot_list_iadd.lookup (by decide +kernel)
theorem ifill_list : fillsInplaceSlot (.type "list") "add" (Operator.Add == .Add) = pure false := by
  unfold fillsInplaceSlot
  show (typeLookup (.type "list") (dunderI "add") >>= fun fi => pure (fi.isSome && !isSeqSlot fi)) = pure false
  rw [F.slot_list_iadd.lookup]
  rfl
section
variable {prog : Program} {w : World} {A : Around} {E : Value → Shared → Prop} {s : Shared}
theorem iadd_lists {l b : Addr} {xs ys : List Value} {Q : Value → Shared → Prop} (hl : s.heap.IsList l xs.toArray) (hb : s.heap.IsList b ys.toArray) (hz : xs.length + ys.length ≤ 100000)
    (h : ∀ h', h'.IsList l (xs ++ ys).toArray → Heap.SameBut l s.heap h' → Q (.ref l) { s with heap := h' }) : wpAny (model prog w) A (inplaceOp .Add (.ref l) (.ref b)) Q E s := by
  obtain ⟨⟨cls, dd, data, sl⟩, ho, hc, n, hd⟩ := id hl
  obtain ⟨⟨cls2, dd2, data2, sl2⟩, ho2, hc2, n2, hd2⟩ := id hb
  simp only at hc hd hc2 hd2
  subst hc hd hc2 hd2
  unfold inplaceOp
  refine wpAny_holding ?_
  refine wpAny_bind (wpAny_typeOf (show s.TypeIs (.ref l) "list" from ⟨_, ho, rfl⟩) (wpAny_bind (wpAny_of_eq ifill_list ?_)))
  show wpAny _ A (if false = true then _ else _) Q E s
  rw [if_neg Bool.false_ne_true]
  refine wpAny_bind (wpAny_binaryOp1_none (nm := "add") (show s.TypeIs (.ref l) "list" from ⟨_, ho, rfl⟩) (show s.TypeIs (.ref b) "list" from ⟨_, ho2, rfl⟩) noFill_list_add ?_)
  refine wpAny_bind (wpAny_of_eq iseq_list ?_)
  refine wpAny_bind (wpAny_rule ?_)
  refine (call_meets F.slot_list_iadd (show s.TypeIs (.ref l) "list" from ⟨_, ho, rfl⟩) F.entry_list_iadd (F.args_list_iadd_2 _ _) (list_iaddW l b _ _ n n2 dd dd2 sl sl2 ?_ ?_ ?_) ⟨ho, ho2, ?_⟩)
  · simp [Builtin.List.listTooLong, sizeLine_eq]; try (intro _; omega)
  · rw [sizeLine_eq, List.size_toArray]; omega
  · rw [sizeLine_eq, List.size_toArray, List.size_toArray]; omega
  · obtain ⟨n', hd'⟩ := Obj.data_mapSeq (o := { cls := .type "list", dict := dd, data := .seq xs.toArray n, slots := sl }) rfl (fun x => x ++ ys.toArray)
    refine h _ ⟨_, Heap.get?_update_self _ ho (Obj.isFreed_of_seq hd'), Obj.cls_mapSeq .., n', ?_⟩ (Heap.SameBut.update ..)
    rw [hd']
    simp
-- bytes in bytes
theorem asIndex_bytes {x : Array UInt8} {u : Tok} {Q : Int → Shared → Prop} (hh : A.handled = none) (h : ∀ h' tk e, Heap.NewExc s.heap h' e "TypeError" → E (.ref e) { s with heap := h', toks := tk }) : wpAny (model prog w) A (asIndex (.bytes x u)) Q E s := by
  have f4 : typeLookup (.type "bytes") "__index__" = pure none := by rw [typeLookup_type, builtinLookup_eq_fast]; kernel_rfl
  unfold asIndex
  refine wpAny_bind (wpAny_of_eq (a := none) rfl ?_)
  refine wpAny_bind (wpAny_callSpecial?_none (T := "bytes") (typeIs_bytes _ _ _) f4 ?_)
  refine wpAny_bind (wpAny_of_eq (a := "bytes") (by kernel_rfl) ?_)
  exact wpAny_raiseErrorMade plainExc_TypeError hh h
theorem buffer_bytes {id : String} {b : Array UInt8} {t : Tok} : Builtin.Bytes.buffer? id (.bytes b t) = pure (some b) := by kernel_rfl
theorem meets_bytes_contains (b x : Array UInt8) (t u : Tok) : Meets (Builtin.«bytes.__contains__» ⟨[.bytes b t, .bytes x u], []⟩) (fun A R s => A.handled = none ∧ ∀ h' tk, (∀ a o, s.heap.get? a = some o → h'.get? a = some o) → R (.ok (.ret (.bool (Builtin.Bytes.find? b x 0 b.size).isSome))) { s with heap := h', toks := tk }) :=
  .of_wp fun prog w A R s h => by
    show wpAny _ _ (Builtin.Bytes.containsIn "bytes.__contains__" (.bytes b t) (.bytes x u) >>= fun r => ret (.bool r)) _ _ _
    unfold Builtin.Bytes.containsIn
    refine wpAny_bind (wpAny_bind (wpAny_attempt (asIndex_bytes h.1 fun h' tk e hn => ?_)))
    refine wpAny_bind (wpAny_of_eq buffer_bytes ?_)
    refine wpAny_bind (wpAny_of_eq buffer_bytes ?_)
    refine wpAny_bind (wpAny_rule ?_)
    exact wpAny_pure (wpAny_pure ⟨_, rfl, h.2 _ _ hn.keeps⟩)
theorem in_bytes {b x : Array UInt8} {t u : Tok} {Q : Value → Shared → Prop} (hh : A.handled = none) (h : ∀ h' tk, (∀ a o, s.heap.get? a = some o → h'.get? a = some o) → Q (.bool (Builtin.Bytes.find? b x 0 b.size).isSome) { s with heap := h', toks := tk }) :
    wpAny (model prog w) A (compareOp .In (.bytes x u) (.bytes b t)) Q E s :=
  SeqRoads2.in_meets (typeIs_bytes _ _ _) FB.slot_bytes_contains FB.entry_bytes_contains (FB.args_bytes_contains_2 _ _) (meets_bytes_contains b x t u) ⟨hh, fun h' tk k => ⟨_, rfl, h h' tk k⟩⟩
-- equality of bytes
theorem EqAt_bytes (a b : Array UInt8) (t u : Tok) : EqAt A s (.bytes a t) (.bytes b u) (a.toList == b.toList) := fun prog w E Q h => by
  unfold eqBool
  refine wpAny_holding ?_
  refine wpAny_ite_split (fun hab => ?_) (fun _ => ?_)
  · have e : a = b := by have := eq_of_beq hab; injection this
    subst e
    exact wpAny_bind (wpAny_rule (wpAny_pure (by simpa using h)))
  · refine wpAny_bind (PySem.W.eq_bytes (Q := _) ?_)
    exact wpAny_truthy_bool h
end
end Mine
end
section
set_option Elab.async false
set_option maxRecDepth 100000
set_option linter.unusedVariables false
namespace Mine
open PySem PySem.Spec PySem.Calls PyProof.Rows PySem.W PySem.SeqAt
section
variable {prog : Program} {w : World} {A : Around} {E : Value → Shared → Prop} {s : Shared}
theorem setItem_last {l : Addr} {items : Array Value} {t : Tok} {v : Value} {Q : Unit → Shared → Prop} (hl : s.heap.IsList l items) (hn : 0 < items.size)
    (hQ : ∀ h', h'.IsList l (items.setIfInBounds (items.size - 1) v) → Heap.SameBut l s.heap h' → Q () { s with heap := h' }) :
    wpAny (model prog w) A (setItem (.ref l) (.int (-1) t) v) Q E s := by
  obtain ⟨o, ho, hc, ne, hd⟩ := id hl
  unfold setItem
  try with_reducible refine wpAny_holding ?_
  first | refine wpAny_bind (wpAny_pure ?_) | skip
  refine wpAny_bind (wpAny_sequenceKey hl.typeIs (by decide) ?_)
  refine wpAny_bind (wpAny_callSpecial?_slot (name := Str.ofString "__setitem__") hl.typeIs slot_list_setitem
    (wpAny_call_entry slot_list_setitem hl.typeIs entry_list_setitem ?_ (args_list_setitem _ _ _)))
  show wpAny _ _ (Builtin.List.listSubscript? (.int (-1) t) >>= _) _ _ s
  refine wpAny_bind (wpAny_listSubscript_int (fitsIndex_neg (by decide) (by decide)) ?_)
  have hidx : seqIndex? (Int.negSucc 0) items.size = some (items.size - 1) := by
    rw [seqIndex_neg (k := Int.negSucc 0) (by decide) (by show -(items.size : Int) ≤ -1; omega)]
    congr 1
    show (-1 + (items.size : Int)).toNat = _
    omega
  show wpAny _ _ ((Builtin.List.listItems (.ref l) >>= fun xs => pure ((seqIndex? (Int.negSucc 0) xs.size).bind fun i => xs[i]?.map (i, ·))) >>= _) _ _ s
  refine wpAny_bind (wpAny_bind ?_)
  show wpAny _ _ (seqItems? (.ref l) >>= _) _ _ s
  refine wpAny_bind (wpAny_seqItems ho hd (wpAny_pure (wpAny_pure ?_)))
  have hx : items[items.size - 1]? = some (items[items.size - 1]'(by omega)) := Array.getElem?_eq_getElem (by omega)
  rw [hidx]
  simp only [Option.bind_some, hx, Option.map_some]
  show wpAny _ _ (setSeqItemAt l (items.size - 1) v >>= _) _ _ s
  obtain ⟨n', hd'⟩ := Obj.data_mapSeq hd (·.setIfInBounds (items.size - 1) v)
  have hfin : (s.heap.update l (Obj.mapSeq (·.setIfInBounds (items.size - 1) v))).IsList l (items.setIfInBounds (items.size - 1) v) :=
    ⟨_, Heap.get?_update_self _ ho (Obj.isFreed_of_seq hd'), (Obj.cls_mapSeq ..).trans hc, n', hd'⟩
  refine wpAny_bind (wpAny_setSeqItemAt ho hd ?_)
  first
    | exact wpAny_bind (wpAny_pure (wpAny_pure ⟨.none, rfl, wpAny_pure (hQ _ hfin (Heap.SameBut.update ..))⟩))
    | exact wpAny_pure ⟨.none, rfl, wpAny_pure (hQ _ hfin (Heap.SameBut.update ..))⟩
-- an int has no such method
theorem int_no_ts : typeLookup (.type "int") "total_seconds" = pure none := by rw [typeLookup_type, builtinLookup_eq_fast]; kernel_rfl
theorem canon_int : (Manifest.canonical "int.__getattribute__" != "object.__getattribute__") = false := by decide +kernel
theorem int_miss {n : Int} {t : Tok} {name : Str} {Q : Value → Shared → Prop} (hmiss : typeLookup (.type "int") name = pure none) (hA : A.handled = none)
    (h : ∀ h' tk e, Heap.NewExcOf s.heap h' e "AttributeError" → E (.ref e) { s with heap := h', toks := tk }) (hsz : name.length + 100 ≤ sizeLine := by size_fits) :
    wpAny (model prog w) A (getAttr (.int n t) name) Q E s := by
  obtain ⟨hp, g, d, tk, os⟩ := s
  have hT : ∀ s' : Shared, s'.TypeIs (.int n t) "int" := fun _ => rfl
  have f1 := sub_AttributeError
  have f3 := F.slot_int_getattribute.lookup
  have f4 := F.slot_int_getattribute.bind (.int n t)
  have f5 := am_int_getattr_none
  unfold getAttr getAttrBy
  repeat (any_goals (first | assumption | ((with_reducible show wpAny _ _ (call (Value.builtin "int.__getattribute__") _ _) _ _ _); refine call_meets F.slot_int_getattribute (hT _) am_entry_int_getattribute (F.args_int_getattribute_2 _ _) (meets_getattribute_miss_int n t name _ hmiss hsz) ⟨hA, fun h' tk' e hx => ?_⟩) | wp_step))
  obtain ⟨t', u', he⟩ := hx.there
  show wpAny _ _ (getattributeRaised _ _ _ _ _ _ _) _ _ _
  unfold getattributeRaised
  repeat (any_goals (first | assumption | wp_step))
  exact h _ _ _ hx.of
theorem int_no_attr {i : Int} {t : Tok} {pl : Sem Bool} {Q : Value × List Value → Shared → Prop} (hh : A.handled = none) (h : ∀ h' tk e, Heap.NewExcOf s.heap h' e "AttributeError" → E (.ref e) { s with heap := h', toks := tk }) :
    wpAny (model prog w) A (getMethod (.int i t) "total_seconds" pl) Q E s := by
  have hT : s.TypeIs (.int i t) "int" := typeIs_int _ _ _
  unfold getMethod
  refine wpAny_bind (wpAny_specialOf (name := Str.ofString "__getattribute__") hT F.slot_int_getattribute.lookup ?_)
  show wpAny _ _ (if (Manifest.canonical "int.__getattribute__" != "object.__getattribute__") = true then _ else _) _ _ _
  rw [canon_int, if_neg Bool.false_ne_true]
  refine wpAny_bind (wpAny_specialOf (name := Str.ofString "__getattr__") hT am_int_getattr_none ?_)
  rw [if_neg (by decide)]
  refine wpAny_bind (wpAny_specialOf (name := Str.ofString "total_seconds") hT int_no_ts ?_)
  show wpAny _ _ (do return (← getAttr (.int i t) "total_seconds", [])) _ _ _
  exact wpAny_bind (int_miss int_no_ts hh h (by rw [sizeLine_eq]; decide))
end
end Mine
end
section
set_option Elab.async false
set_option maxRecDepth 100000
set_option linter.unusedVariables false
namespace Mine
open PySem PySem.Spec PySem.Calls PyProof.Rows PySem.W

/-- the world of one law -/
structure Wd where
  prog : Program
  w : World
  K : Frag
  base : Heap
  p : Program
  loose : List Str
  mean : ExcName → Option Value
  mg : Str → Option Value
  mb : Str → Option Value
  out : Addr     -- a code's table of places: it may grow
structure Wd.Ok (c : Wd) : Prop where
  kin : c.K.In c.base
  top : Top c.p c.loose c.mean c.mg c.mb c.base

inductive V where
  | none
  | bool (b : Bool)
  | int (i : Int)
  | str (s : Str)
  | bytes (b : Array UInt8)
  | obj (n : Nat)
  | glob (v : Value)
  | undef
def V.isDef : V → Bool
  | .undef => false
  | _ => true

abbrev Rho := List (Addr × Addr)

def Rep (ρ : Rho) (x : Value) : V → Prop
  | .none => x = .none
  | .bool b => x = .bool b
  | .int i => ∃ t, x = .int i t
  | .str s => ∃ t, x = .str s t
  | .bytes b => ∃ t, x = .bytes b t
  | .obj n => ∃ p, ρ[n]? = some p ∧ x = .ref p.1
  | .glob v => x = v
  | .undef => True

theorem Rep.mono {ρ ρ' : Rho} (h : ρ <+: ρ') {x : Value} {v : V} (r : Rep ρ x v) : Rep ρ' x v := by
  cases v with
  | obj n =>
    obtain ⟨p, hp, rfl⟩ := r
    obtain ⟨l, rfl⟩ := h
    exact ⟨p, by rw [List.getElem?_append_left (List.getElem?_eq_some_iff.mp hp).1]; exact hp, rfl⟩
  | _ => exact r

inductive RepL (ρ : Rho) : List Value → List V → Prop
  | nil : RepL ρ [] []
  | cons {x v xs vs} : Rep ρ x v → RepL ρ xs vs → RepL ρ (x :: xs) (v :: vs)
theorem RepL.mono {ρ ρ' : Rho} (h : ρ <+: ρ') {xs : List Value} {vs : List V} (r : RepL ρ xs vs) : RepL ρ' xs vs := by
  induction r with
  | nil => exact .nil
  | cons h1 _ ih => exact .cons (h1.mono h) ih
theorem RepL.length {ρ : Rho} {xs : List Value} {vs : List V} (r : RepL ρ xs vs) : xs.length = vs.length := by
  induction r with
  | nil => rfl
  | cons _ _ ih => simp [ih]
theorem RepL.get {ρ : Rho} {xs : List Value} {vs : List V} (r : RepL ρ xs vs) : ∀ {i : Nat} {v : V}, vs[i]? = some v → ∃ x, xs[i]? = some x ∧ Rep ρ x v := by
  induction r with
  | nil => intro i v h; simp at h
  | cons h1 _ ih =>
    intro i v h
    cases i with
    | zero => simp at h; subst h; exact ⟨_, rfl, h1⟩
    | succ i => simp at h; simpa using ih h
theorem RepL.append {ρ : Rho} {xs ys : List Value} {vs us : List V} (r : RepL ρ xs vs) (q : RepL ρ ys us) : RepL ρ (xs ++ ys) (vs ++ us) := by
  induction r with
  | nil => exact q
  | cons h1 _ ih => exact .cons h1 ih
theorem RepL.set {ρ : Rho} {xs : List Value} {vs : List V} (r : RepL ρ xs vs) {y : Value} {u : V} (q : Rep ρ y u) : ∀ (i : Nat), RepL ρ (xs.set i y) (vs.set i u) := by
  induction r with
  | nil => intro i; exact .nil
  | cons h1 h2 ih =>
    intro i
    cases i with
    | zero => exact .cons q h2
    | succ i => exact .cons h1 (ih i)
theorem RepL.take {ρ : Rho} {xs : List Value} {vs : List V} (r : RepL ρ xs vs) : ∀ (i : Nat), RepL ρ (xs.take i) (vs.take i) := by
  induction r with
  | nil => intro i; simp; exact .nil
  | cons h1 h2 ih =>
    intro i
    cases i with
    | zero => exact .nil
    | succ i => exact .cons h1 (ih i)
theorem RepL.drop {ρ : Rho} {xs : List Value} {vs : List V} (r : RepL ρ xs vs) : ∀ (i : Nat), RepL ρ (xs.drop i) (vs.drop i) := by
  induction r with
  | nil => intro i; simp; exact .nil
  | cons h1 h2 ih =>
    intro i
    cases i with
    | zero => exact .cons h1 h2
    | succ i => exact ih i

inductive RepE (ρ : Rho) : List DictEntry → List (Str × V) → Prop
  | nil : RepE ρ [] []
  | cons {e : DictEntry} {n : Str} {t : Tok} {v : V} {es fs} : e.key = .str n t → Rep ρ e.val v → RepE ρ es fs → RepE ρ (e :: es) ((n, v) :: fs)
theorem RepE.mono {ρ ρ' : Rho} (h : ρ <+: ρ') {es : List DictEntry} {fs : List (Str × V)} (r : RepE ρ es fs) : RepE ρ' es fs := by
  induction r with
  | nil => exact .nil
  | cons h1 h2 _ ih => exact .cons h1 (h2.mono h) ih

inductive MObj where
  | list (l : List V)
  | tuple (l : List V)
  | inst (C : Addr) (fs : List (Str × V))
  | cell (v : Option V)
abbrev Sto := List MObj
abbrev Loc := List V

def RepO (ρ : Rho) : Option Value → Option V → Prop
  | some x, some v => Rep ρ x v
  | none, none => True
  | _, _ => False
theorem RepO.mono {ρ ρ' : Rho} (h : ρ <+: ρ') {x : Option Value} {v : Option V} (r : RepO ρ x v) : RepO ρ' x v := by
  cases x <;> cases v <;> first | exact r | exact Rep.mono h r

/-- object at addresses (a, d): d is an instance's dict -/
def HoldsAt (h : Heap) (ρ : Rho) (a d : Addr) : MObj → Prop
  | .list l => ∃ xs, h.IsList a xs.toArray ∧ RepL ρ xs l ∧ d = a
  | .tuple l => ∃ xs, IsTup h a xs.toArray ∧ RepL ρ xs l ∧ d = a
  | .inst C fs => ∃ sl es n, h.get? a = some ⟨.ref C, some d, .plain, sl⟩ ∧ h.get? d = some (dictOf es n) ∧ RepE ρ es fs
  | .cell v => ∃ x, h.IsCell a x ∧ RepO ρ x v ∧ d = a
theorem HoldsAt.mono {h : Heap} {ρ ρ' : Rho} (hp : ρ <+: ρ') {a d : Addr} {o : MObj} (x : HoldsAt h ρ a d o) : HoldsAt h ρ' a d o := by
  cases o with
  | list l => obtain ⟨xs, h1, h2, h3⟩ := x; exact ⟨xs, h1, h2.mono hp, h3⟩
  | tuple l => obtain ⟨xs, h1, h2, h3⟩ := x; exact ⟨xs, h1, h2.mono hp, h3⟩
  | inst C fs => obtain ⟨sl, es, n, h1, h2, h3⟩ := x; exact ⟨sl, es, n, h1, h2, h3.mono hp⟩
  | cell v => obtain ⟨y, h1, h2, h3⟩ := x; exact ⟨y, h1, h2.mono hp, h3⟩
/-- it stays where its own addresses are kept -/
theorem HoldsAt.keep {h h' : Heap} {ρ : Rho} {a d : Addr} {o : MObj} (x : HoldsAt h ρ a d o) (ka : ∀ ob, h.get? a = some ob → h'.get? a = some ob) (kd : ∀ ob, h.get? d = some ob → h'.get? d = some ob) : HoldsAt h' ρ a d o := by
  cases o with
  | list l => obtain ⟨xs, ⟨ob, h1, h1'⟩, h2, h3⟩ := x; exact ⟨xs, ⟨ob, ka _ h1, h1'⟩, h2, h3⟩
  | tuple l => obtain ⟨xs, ⟨ob, h1, h1'⟩, h2, h3⟩ := x; exact ⟨xs, ⟨ob, ka _ h1, h1'⟩, h2, h3⟩
  | inst C fs => obtain ⟨sl, es, n, h1, h2, h3⟩ := x; exact ⟨sl, es, n, ka _ h1, kd _ h2, h3⟩
  | cell v => obtain ⟨y, ⟨ob, h1, h1'⟩, h2, h3⟩ := x; exact ⟨y, ⟨ob, ka _ h1, h1'⟩, h2, h3⟩
theorem HoldsAt.there {h : Heap} {ρ : Rho} {a d : Addr} {o : MObj} (x : HoldsAt h ρ a d o) :
    (∃ ob, h.get? a = some ob ∧ ∀ vs, ob.data ≠ .fields vs) ∧ ∃ ob, h.get? d = some ob ∧ ∀ vs, ob.data ≠ .fields vs := by
  cases o with
  | list l => obtain ⟨xs, ⟨ob, h1, h1', n, h4⟩, h2, rfl⟩ := x; exact ⟨⟨ob, h1, fun vs e => by rw [h4] at e; cases e⟩, ob, h1, fun vs e => by rw [h4] at e; cases e⟩
  | tuple l => obtain ⟨xs, ⟨ob, h1, h1', n, h4⟩, h2, rfl⟩ := x; exact ⟨⟨ob, h1, fun vs e => by rw [h4] at e; cases e⟩, ob, h1, fun vs e => by rw [h4] at e; cases e⟩
  | inst C fs => obtain ⟨sl, es, n, h1, h2, h3⟩ := x; exact ⟨⟨_, h1, fun vs e => by cases e⟩, _, h2, fun vs e => by cases e⟩
  | cell v => obtain ⟨y, ⟨ob, h1, h4⟩, h2, rfl⟩ := x; exact ⟨⟨ob, h1, fun vs e => by rw [h4] at e; cases e⟩, ob, h1, fun vs e => by rw [h4] at e; cases e⟩

/-- the frame at hand -/
structure Fx where
  env : Env
  names : List Str         -- its locals
  frames : List Env        -- function frames, the innermost first
  below : List Addr        -- other live namespaces
  cells : List (Str × Nat) -- cell names of env: their place in the store
  hd : Option Value        -- the handled exception
  rs : Bool                -- one may raise behind it
  lv : Nat                 -- bound of depth and units
  out : Addr               -- the table that may grow

/-- room for k calls more; z: nothing is being handled -/
structure Fx.fit (fr : Fx) (z : Bool) (k : Nat) : Prop where
  lv : fr.lv + 20 * k ≤ 900
  rs : fr.rs = true
  z : z = true → fr.hd = none
structure Fx.At (fr : Fx) (A : Around) : Prop where
  frames : A.frames = some fr.frames
  handled : A.handled = fr.hd
  depth : A.depth ≤ fr.lv
  units : A.units ≤ fr.lv

def adOf (p : Addr × Addr) : List Addr := [p.1, p.2]
def ads (ρ : Rho) : List Addr := ρ.flatMap adOf
theorem mem_ads {ρ : Rho} {b : Addr} : b ∈ ads ρ ↔ ∃ p ∈ ρ, b = p.1 ∨ b = p.2 := by
  unfold ads adOf
  simp only [List.mem_flatMap, List.mem_cons, List.not_mem_nil, or_false]
theorem ads_mono {ρ ρ' : Rho} (h : ρ <+: ρ') {b : Addr} (hb : b ∈ ads ρ) : b ∈ ads ρ' := by
  obtain ⟨p, hp, e⟩ := mem_ads.mp hb
  exact mem_ads.mpr ⟨p, h.subset hp, e⟩

/-- the table stands, by itself -/
structure OutOk (c : Wd) (fr : Fx) (ρ : Rho) (h : Heap) : Prop where
  eq : fr.out = c.out
  ads : fr.out ∉ Mine.ads ρ
  locals : fr.out ≠ fr.env.locals
  below : fr.out ∉ fr.below
  base : c.base.get? fr.out = none
  tab : ∃ ps, h.get? fr.out = some (tabObj ps) ∧ TriplesOk ps.toList
theorem OutOk.keep {c : Wd} {fr : Fx} {ρ : Rho} {h h' : Heap} (x : OutOk c fr ρ h) (k : ∀ o, h.get? fr.out = some o → h'.get? fr.out = some o) : OutOk c fr ρ h' :=
  ⟨x.eq, x.ads, x.locals, x.below, x.base, by obtain ⟨ps, h1, h2⟩ := x.tab; exact ⟨ps, k _ h1, h2⟩⟩
theorem OutOk.ne {c : Wd} {fr : Fx} {ρ : Rho} {h : Heap} (x : OutOk c fr ρ h) {a : Addr} {o : Obj} (e : h.get? a = some o) (hc : o.cls ≠ .none) : a ≠ fr.out := fun q => by
  obtain ⟨ps, h1, _⟩ := x.tab
  rw [q, h1] at e; cases e
  exact hc rfl
theorem OutOk.old {c : Wd} {fr : Fx} {ρ : Rho} {h : Heap} (x : OutOk c fr ρ h) {a : Addr} (e : h.get? a = none) : a ≠ fr.out := fun q => by
  obtain ⟨ps, h1, _⟩ := x.tab
  rw [q, h1] at e; cases e
structure Inv (c : Wd) (fr : Fx) (ρ : Rho) (m : Loc) (st : Sto) (s : Shared) : Prop where
  stays : c.base.StaysIn s.heap
  ff : s.heap.FunFrames c.base fr.frames
  ns : ∃ mm, s.heap.Ns fr.env.locals mm ∧ ∀ (i : Nat) (x : Str) (v : V), fr.names[i]? = some x → m[i]? = some v → v.isDef = true → ∃ y, mm x = some y ∧ Rep ρ y v
  cells : ∀ x n, (x, n) ∈ fr.cells → ∃ p, ρ[n]? = some p ∧ fr.env.cells.lookup x = some p.1
  len : ρ.length = st.length
  store : ∀ (i : Nat) (o : MObj) (p : Addr × Addr), st[i]? = some o → ρ[i]? = some p → HoldsAt s.heap ρ p.1 p.2 o
  sep : ∀ (i j : Nat) (p q : Addr × Addr), ρ[i]? = some p → ρ[j]? = some q → i ≠ j → p.1 ≠ q.1 ∧ p.1 ≠ q.2 ∧ p.2 ≠ q.1 ∧ p.2 ≠ q.2
  fresh : ∀ b ∈ ads ρ, c.base.get? b = none ∧ b ≠ fr.env.locals ∧ b ∉ fr.below
  locals : c.base.get? fr.env.locals = none ∧ fr.env.locals ∉ fr.below
  low : c.base.objs.size ≤ fr.env.locals
  below : ∀ b ∈ fr.below, (∃ ob, s.heap.get? b = some ob ∧ ∀ vs, ob.data ≠ .fields vs) ∧ c.base.get? b = none
  head : ∀ e ∈ fr.frames, ∀ b, e.frame = some b → b = fr.env.locals ∨ b ∈ fr.below
  bare : AllBare s.gens
  hd : fr.rs = true → ∀ e, fr.hd = some e → ∃ a ob vs, e = .ref a ∧ s.heap.get? a = some ob ∧ ob.data = .fields vs ∧ vs[2]? = some .none ∧ ob.cls ≠ .none
  out : OutOk c fr ρ s.heap

/-- what is kept from s to s' -/
structure Nxt (fr : Fx) (ρ ρ' : Rho) (s s' : Shared) : Prop where
  keep : ∀ b o, s.heap.get? b = some o → b ∉ ads ρ → b ≠ fr.env.locals → b ≠ fr.out → (b ∉ fr.below → s'.heap.get? b = some o) ∧ (b ∈ fr.below → ∃ sl, s'.heap.get? b = some { o with slots := sl })
  dom : ∀ b o, s.heap.get? b = some o → ∃ o', s'.heap.get? b = some o'
  new : ∀ b ∈ ads ρ', b ∈ ads ρ ∨ s.heap.get? b = none
  os : s'.os = s.os

theorem Nxt.refl (fr : Fx) (ρ : Rho) (s : Shared) : Nxt fr ρ ρ s s := ⟨fun _ o h _ _ _ => ⟨fun _ => h, fun _ => ⟨o.slots, h⟩⟩, fun _ o h => ⟨o, h⟩, fun _ h => .inl h, rfl⟩
theorem Nxt.noneOf {fr : Fx} {ρ ρ' : Rho} {s s' : Shared} (x : Nxt fr ρ ρ' s s') {b : Addr} (h : s'.heap.get? b = none) : s.heap.get? b = none := by
  cases e : s.heap.get? b with
  | none => rfl
  | some o => obtain ⟨o', e'⟩ := x.dom b o e; rw [h] at e'; cases e'
theorem Nxt.trans {fr : Fx} {ρ ρ₁ ρ₂ : Rho} {s s₁ s₂ : Shared} (x : Nxt fr ρ ρ₁ s s₁) (y : Nxt fr ρ₁ ρ₂ s₁ s₂) : Nxt fr ρ ρ₂ s s₂ := by
  refine ⟨fun b o h h1 h2 h3 => ?_, fun b o h => ?_, fun b hb => ?_, y.os.trans x.os⟩
  · have n1 : b ∉ ads ρ₁ := fun q => by
      rcases x.new b q with q | q
      · exact h1 q
      · rw [q] at h; cases h
    have k := x.keep b o h h1 h2 h3
    constructor
    · intro hb
      exact (y.keep b o (k.1 hb) n1 h2 h3).1 hb
    · intro hb
      obtain ⟨sl, e⟩ := k.2 hb
      obtain ⟨sl', e'⟩ := (y.keep b _ e n1 h2 h3).2 hb
      exact ⟨sl', e'⟩
  · obtain ⟨o', h'⟩ := x.dom b o h
    exact y.dom b o' h'
  · rcases y.new b hb with q | q
    · exact x.new b q
    · exact .inr (x.noneOf q)
theorem Nxt.lv {fr : Fx} {ρ ρ' : Rho} {s s' : Shared} {n : Nat} {hd : Option Value} {b : Bool} (x : Nxt { fr with lv := n, hd := hd, rs := b } ρ ρ' s s') : Nxt fr ρ ρ' s s' := ⟨x.keep, x.dom, x.new, x.os⟩
theorem Nxt.toLv {fr : Fx} {ρ ρ' : Rho} {s s' : Shared} {n : Nat} {hd : Option Value} {b : Bool} (x : Nxt fr ρ ρ' s s') : Nxt { fr with lv := n, hd := hd, rs := b } ρ ρ' s s' := ⟨x.keep, x.dom, x.new, x.os⟩
theorem Inv.lv {c : Wd} {fr : Fx} {ρ : Rho} {m : Loc} {st : Sto} {s : Shared} {n : Nat} (x : Inv c { fr with lv := n } ρ m st s) : Inv c fr ρ m st s :=
  ⟨x.stays, x.ff, x.ns, x.cells, x.len, x.store, x.sep, x.fresh, x.locals, x.low, x.below, x.head, x.bare, x.hd, ⟨x.out.eq, x.out.ads, x.out.locals, x.out.below, x.out.base, x.out.tab⟩⟩
theorem Inv.toLv {c : Wd} {fr : Fx} {ρ : Rho} {m : Loc} {st : Sto} {s : Shared} {n : Nat} (x : Inv c fr ρ m st s) : Inv c { fr with lv := n } ρ m st s :=
  ⟨x.stays, x.ff, x.ns, x.cells, x.len, x.store, x.sep, x.fresh, x.locals, x.low, x.below, x.head, x.bare, x.hd, ⟨x.out.eq, x.out.ads, x.out.locals, x.out.below, x.out.base, x.out.tab⟩⟩

theorem Inv.kin {c : Wd} {fr : Fx} {ρ : Rho} {m : Loc} {st : Sto} {s : Shared} (ok : c.Ok) (x : Inv c fr ρ m st s) : c.K.In s.heap := ok.kin.keeps x.stays
theorem Inv.top {c : Wd} {fr : Fx} {ρ : Rho} {m : Loc} {st : Sto} {s : Shared} (ok : c.Ok) (x : Inv c fr ρ m st s) : Top c.p c.loose c.mean c.mg c.mb s.heap := ok.top.keeps x.stays
theorem Inv.there {c : Wd} {fr : Fx} {ρ : Rho} {m : Loc} {st : Sto} {s : Shared} (x : Inv c fr ρ m st s) {b : Addr} (hb : b ∈ ads ρ) : ∃ ob, s.heap.get? b = some ob ∧ ∀ vs, ob.data ≠ .fields vs := by
  obtain ⟨p, hp, e⟩ := mem_ads.mp hb
  obtain ⟨i, hi, rfl⟩ := List.getElem_of_mem hp
  have h1 : ρ[i]? = some ρ[i] := List.getElem?_eq_getElem hi
  have h2 : st[i]? = some (st[i]'(by rw [← x.len]; exact hi)) := List.getElem?_eq_getElem _
  have t := (x.store i _ _ h2 h1).there
  rcases e with rfl | rfl
  · exact t.1
  · exact t.2
theorem Inv.locals_there {c : Wd} {fr : Fx} {ρ : Rho} {m : Loc} {st : Sto} {s : Shared} (x : Inv c fr ρ m st s) : ∃ ob, s.heap.get? fr.env.locals = some ob ∧ ∀ vs, ob.data ≠ .fields vs := by
  obtain ⟨mm, ⟨o, es, ep, h1, h2, _⟩, _⟩ := x.ns
  exact ⟨o, h1, fun vs e => by rw [h2] at e; cases e⟩

/-- a heap that kept all: the invariant stands -/
theorem Inv.grow {c : Wd} {fr : Fx} {ρ : Rho} {m : Loc} {st : Sto} {s : Shared} (x : Inv c fr ρ m st s) {h' : Heap} (k : ∀ b o, s.heap.get? b = some o → h'.get? b = some o)
    {g' : Array GenState} (hg : AllBare g') {d' : Drawn} {tk' : Nat} {os' : OsState} : Inv c fr ρ m st ⟨h', g', d', tk', os'⟩ := by
  refine ⟨fun b o e => k _ _ (x.stays b o e), x.ff.of_keeps fun b o e _ => ⟨o, k _ _ e, rfl⟩, ?_, x.cells, x.len, fun i o p h1 h2 => (x.store i o p h1 h2).keep (k _) (k _), x.sep, x.fresh, x.locals, x.low, fun b hb => ?_, x.head, hg, fun rr e he => ?_, x.out.keep fun o e => k _ _ e⟩
  · obtain ⟨mm, h1, h2⟩ := x.ns
    exact ⟨mm, h1.keeps k, h2⟩
  · obtain ⟨⟨ob, h1, h2⟩, h3⟩ := x.below b hb
    exact ⟨⟨ob, k _ _ h1, h2⟩, h3⟩
  · obtain ⟨a, ob, vs, h1, h2, h3⟩ := x.hd rr e he
    exact ⟨a, ob, vs, h1, k _ _ h2, h3⟩
theorem Nxt.grow {fr : Fx} {ρ : Rho} {s : Shared} {h' : Heap} (k : ∀ b o, s.heap.get? b = some o → h'.get? b = some o) {g' : Array GenState} {d' : Drawn} {tk' : Nat} : Nxt fr ρ ρ s ⟨h', g', d', tk', s.os⟩ :=
  ⟨fun b o h _ _ _ => ⟨fun _ => k b o h, fun _ => ⟨o.slots, k b o h⟩⟩, fun b o h => ⟨o, k b o h⟩, fun _ h => .inl h, rfl⟩

/-- an object is changed (or two: an instance and its dict) -/
theorem Inv.put {c : Wd} {fr : Fx} {ρ : Rho} {m : Loc} {st : Sto} {s : Shared} (x : Inv c fr ρ m st s) {i : Nat} {o' : MObj} {p : Addr × Addr} (hp : ρ[i]? = some p) {h' : Heap}
    (k : ∀ b o, s.heap.get? b = some o → b ≠ p.1 → b ≠ p.2 → h'.get? b = some o) (ho : HoldsAt h' ρ p.1 p.2 o') {tk' : Nat} : Inv c fr ρ m (st.set i o') { s with heap := h', toks := tk' } := by
  have mem : ∀ b, b = p.1 ∨ b = p.2 → b ∈ ads ρ := fun b hb => mem_ads.mpr ⟨p, List.mem_of_getElem? hp, hb⟩
  have out : ∀ b, c.base.get? b ≠ none ∨ b = fr.env.locals ∨ b ∈ fr.below → b ≠ p.1 ∧ b ≠ p.2 := fun b hb => by
    constructor <;> intro e
    · have f := x.fresh b (mem b (.inl e))
      rcases hb with hb | hb | hb
      · exact hb f.1
      · exact f.2.1 hb
      · exact f.2.2 hb
    · have f := x.fresh b (mem b (.inr e))
      rcases hb with hb | hb | hb
      · exact hb f.1
      · exact f.2.1 hb
      · exact f.2.2 hb
  have kb : ∀ b ∈ fr.below, ∀ o, s.heap.get? b = some o → h'.get? b = some o := fun b hb o e => k b o e (out b (.inr (.inr hb))).1 (out b (.inr (.inr hb))).2
  have kl : ∀ o, s.heap.get? fr.env.locals = some o → h'.get? fr.env.locals = some o := fun o e => k _ o e (out _ (.inr (.inl rfl))).1 (out _ (.inr (.inl rfl))).2
  refine ⟨fun b o e => k b o (x.stays b o e) (out b (.inl (by rw [e]; simp))).1 (out b (.inl (by rw [e]; simp))).2, ?_, ?_, x.cells, by simp [x.len], ?_, x.sep, x.fresh, x.locals, x.low, ?_, x.head, x.bare, ?_, x.out.keep fun o e => k _ o e (fun q => x.out.ads (q ▸ mem (p.1) (.inl rfl))) (fun q => x.out.ads (q ▸ mem (p.2) (.inr rfl)))⟩
  · have h1 := x.ff
    have h2 := x.head
    revert h1 h2
    generalize fr.frames = l
    intro h1 h2
    induction l with
    | nil => trivial
    | cons env r ih =>
      obtain ⟨a1, ⟨L, o, a2, a3, a4, a5⟩, a6⟩ := h1
      refine ⟨a1, ⟨L, o, a2, a3, ?_, a5⟩, ih a6 fun e he => h2 e (.tail _ he)⟩
      rcases h2 env (.head _) L a2 with rfl | q
      · exact kl o a4
      · exact kb L q o a4
  · obtain ⟨mm, ⟨o, es, ep, h1, h2⟩, h3⟩ := x.ns
    exact ⟨mm, ⟨o, es, ep, kl o h1, h2⟩, h3⟩
  · intro j o q h1 h2
    rw [List.getElem?_set] at h1
    split at h1
    · rename_i e
      subst e
      split at h1
      · cases h1
        rw [hp] at h2; cases h2
        exact ho
      · cases h1
    · rename_i e
      have sp := x.sep i j p q hp h2 e
      exact (x.store j o q h1 h2).keep (fun ob e => k _ _ e (Ne.symm sp.1) (Ne.symm sp.2.2.1)) (fun ob e => k _ _ e (Ne.symm sp.2.1) (Ne.symm sp.2.2.2))
  · intro b hb
    obtain ⟨⟨ob, h1, h2⟩, h3⟩ := x.below b hb
    exact ⟨⟨ob, kb b hb _ h1, h2⟩, h3⟩
  · intro rr e he
    obtain ⟨a, ob, vs, h1, h2, h3, h4⟩ := x.hd rr e he
    refine ⟨a, ob, vs, h1, k _ _ h2 ?_ ?_, h3, h4⟩
    · intro q
      obtain ⟨ob', e1, e2⟩ := x.there (mem a (.inl q))
      rw [h2] at e1; cases e1; exact e2 _ h3
    · intro q
      obtain ⟨ob', e1, e2⟩ := x.there (mem a (.inr q))
      rw [h2] at e1; cases e1; exact e2 _ h3
theorem Nxt.put {fr : Fx} {ρ : Rho} {s : Shared} {i : Nat} {p : Addr × Addr} (hp : ρ[i]? = some p) {h' : Heap} (k : ∀ b o, s.heap.get? b = some o → b ≠ p.1 → b ≠ p.2 → h'.get? b = some o)
    (k2 : ∀ b o, s.heap.get? b = some o → ∃ o', h'.get? b = some o') {tk' : Nat} : Nxt fr ρ ρ s { s with heap := h', toks := tk' } := by
  refine ⟨fun b o h h1 h2 h3 => ?_, k2, fun _ h => .inl h, rfl⟩
  have : h'.get? b = some o := k b o h (fun e => h1 (mem_ads.mpr ⟨p, List.mem_of_getElem? hp, .inl e⟩)) fun e => h1 (mem_ads.mpr ⟨p, List.mem_of_getElem? hp, .inr e⟩)
  exact ⟨fun _ => this, fun _ => ⟨o.slots, this⟩⟩

theorem prefix_add (ρ : Rho) (p : Addr × Addr) : ρ <+: ρ ++ [p] := List.prefix_append _ _
/-- an object is made -/
theorem Inv.make {c : Wd} {fr : Fx} {ρ : Rho} {m : Loc} {st : Sto} {s : Shared} (x : Inv c fr ρ m st s) {o' : MObj} {p : Addr × Addr} {h' : Heap}
    (k : ∀ b o, s.heap.get? b = some o → h'.get? b = some o) (n1 : s.heap.get? p.1 = none) (n2 : s.heap.get? p.2 = none) (ho : HoldsAt h' (ρ ++ [p]) p.1 p.2 o') {g' : Array GenState} (hg : AllBare g') {d' : Drawn} {tk' : Nat} {os' : OsState} :
    Inv c fr (ρ ++ [p]) m (st ++ [o']) ⟨h', g', d', tk', os'⟩ := by
  have y := x.grow k hg (d' := d') (tk' := tk') (os' := os')
  have old : ∀ b ∈ ads ρ, b ≠ p.1 ∧ b ≠ p.2 := fun b hb => by
    obtain ⟨ob, e, _⟩ := x.there hb
    constructor
    · intro q
      rw [q, n1] at e
      cases e
    · intro q
      rw [q, n2] at e
      cases e
  have get : ∀ i q, (ρ ++ [p])[i]? = some q → ρ[i]? = some q ∨ (i = ρ.length ∧ q = p) := fun i q e => by
    by_cases hi : i < ρ.length
    · rw [List.getElem?_append_left hi] at e; exact .inl e
    · rw [List.getElem?_append_right (Nat.le_of_not_lt hi)] at e
      have : i - ρ.length = 0 := by
        by_cases z : i - ρ.length = 0
        · exact z
        · have : ([p] : Rho)[i - ρ.length]? = none := by simp; omega
          rw [this] at e; cases e
      rw [this] at e
      simp at e
      exact .inr ⟨by omega, e.symm⟩
  have nb : ∀ q, q = p.1 ∨ q = p.2 → s.heap.get? q = none := fun q e => by rcases e with rfl | rfl <;> assumption
  refine ⟨y.stays, y.ff, ?_, ?_, by simp [x.len], ?_, ?_, ?_, x.locals, x.low, y.below, x.head, y.bare, y.hd, ⟨x.out.eq, fun q => ?_, x.out.locals, x.out.below, x.out.base, y.out.tab⟩⟩
  · obtain ⟨mm, h1, h2⟩ := y.ns
    exact ⟨mm, h1, fun i n v e1 e2 e3 => by obtain ⟨z, e1, e2⟩ := h2 i n v e1 e2 e3; exact ⟨z, e1, e2.mono (prefix_add _ _)⟩⟩
  · intro n i hn
    obtain ⟨q, h1, h2⟩ := x.cells n i hn
    exact ⟨q, by rw [List.getElem?_append_left (List.getElem?_eq_some_iff.mp h1).1]; exact h1, h2⟩
  · intro i o q h1 h2
    rcases get i q h2 with e | ⟨rfl, rfl⟩
    · have hi := (List.getElem?_eq_some_iff.mp e).1
      rw [List.getElem?_append_left (by rw [← x.len]; exact hi)] at h1
      exact (y.store i o q h1 e).mono (prefix_add _ _)
    · rw [x.len, List.getElem?_append_right (Nat.le_refl _), Nat.sub_self] at h1
      cases h1
      exact ho
  · intro i j q r h1 h2 hij
    rcases get i q h1 with e | ⟨rfl, rfl⟩
    · rcases get j r h2 with e' | ⟨rfl, rfl⟩
      · exact x.sep i j q r e e' hij
      · have a1 := old q.1 (mem_ads.mpr ⟨q, List.mem_of_getElem? e, .inl rfl⟩)
        have a2 := old q.2 (mem_ads.mpr ⟨q, List.mem_of_getElem? e, .inr rfl⟩)
        exact ⟨a1.1, a1.2, a2.1, a2.2⟩
    · rcases get j r h2 with e' | ⟨rfl, rfl⟩
      · have a1 := old r.1 (mem_ads.mpr ⟨r, List.mem_of_getElem? e', .inl rfl⟩)
        have a2 := old r.2 (mem_ads.mpr ⟨r, List.mem_of_getElem? e', .inr rfl⟩)
        exact ⟨Ne.symm a1.1, Ne.symm a2.1, Ne.symm a1.2, Ne.symm a2.2⟩
      · exact absurd rfl hij
  · intro b hb
    obtain ⟨q, hq, e⟩ := mem_ads.mp hb
    rcases List.mem_append.mp hq with hq | hq
    · exact x.fresh b (mem_ads.mpr ⟨q, hq, e⟩)
    · simp at hq; subst hq
      have hn := nb b e
      refine ⟨?_, ?_, ?_⟩
      · cases z : c.base.get? b with
        | none => rfl
        | some o => have := x.stays b o z; rw [hn] at this; cases this
      · rintro rfl
        obtain ⟨ob, z, _⟩ := x.locals_there
        rw [hn] at z; cases z
      · intro hb'
        obtain ⟨⟨ob, z, _⟩, _⟩ := x.below b hb'
        rw [hn] at z; cases z
  · obtain ⟨w, hw, e⟩ := mem_ads.mp q
    rcases List.mem_append.mp hw with hw | hw
    · exact x.out.ads (mem_ads.mpr ⟨w, hw, e⟩)
    · simp at hw; subst hw
      rcases e with e | e
      · exact x.out.old n1 e.symm
      · exact x.out.old n2 e.symm
theorem Nxt.make {fr : Fx} {ρ : Rho} {s : Shared} {p : Addr × Addr} {h' : Heap} (k : ∀ b o, s.heap.get? b = some o → h'.get? b = some o) (n1 : s.heap.get? p.1 = none) (n2 : s.heap.get? p.2 = none) {g' : Array GenState} {d' : Drawn} {tk' : Nat} :
    Nxt fr ρ (ρ ++ [p]) s ⟨h', g', d', tk', s.os⟩ :=
  ⟨fun b o h _ _ _ => ⟨fun _ => k b o h, fun _ => ⟨o.slots, k b o h⟩⟩, fun b o h => ⟨o, k b o h⟩, fun b h => by
    obtain ⟨q, hq, e⟩ := mem_ads.mp h
    rcases List.mem_append.mp hq with hq | hq
    · exact .inl (mem_ads.mpr ⟨q, hq, e⟩)
    · simp at hq; subst hq
      rcases e with rfl | rfl
      · exact .inr n1
      · exact .inr n2, rfl⟩

inductive Lk : List Str → Loc → Str → V → Prop
  | here {x xs v vs} : Lk (x :: xs) (v :: vs) x v
  | there {x y xs v w vs} : Lk xs vs x v → Lk (y :: xs) (w :: vs) x v
theorem Lk.at {xs : List Str} {vs : Loc} {x : Str} {v : V} (h : Lk xs vs x v) : ∃ i : Nat, xs[i]? = some x ∧ vs[i]? = some v := by
  induction h with
  | here => exact ⟨0, rfl, rfl⟩
  | there _ ih => obtain ⟨i, h1, h2⟩ := ih; exact ⟨i + 1, by simpa using h1, by simpa using h2⟩
inductive Up : List Str → Loc → Str → V → Loc → Prop
  | here {x xs v w vs} : Up (x :: xs) (w :: vs) x v (v :: vs)
  | there {x y xs v w vs vs'} : Up xs vs x v vs' → Up (y :: xs) (w :: vs) x v (w :: vs')
theorem Up.at {xs : List Str} {vs vs' : Loc} {x : Str} {v : V} (h : Up xs vs x v vs') : ∃ i : Nat, xs[i]? = some x ∧ i < vs.length ∧ vs' = vs.set i v := by
  induction h with
  | here => exact ⟨0, rfl, by simp, rfl⟩
  | there _ ih => obtain ⟨i, h1, h2, h3⟩ := ih; exact ⟨i + 1, by simpa using h1, by simpa using h2, by rw [h3]; rfl⟩

structure Exn where
  cls : String
  k : Bool        -- its context is none for sure
inductive Out (β : Type) where
  | ok (b : β)
  | exc (C : Exn)

/-- the context is none, where that is asked -/
def Ctx2 (vs : Array Value) (k : Bool) : Prop := k = true → vs[2]? = some .none
def Traced (h B : Heap) (e : Addr) (C : String) (fl : Value) (k : Bool) : Prop :=
  ∃ oe vs T oT ts, h.get? e = some oe ∧ oe.cls = .type C ∧ oe.data = .fields vs ∧ Ctx2 vs k ∧ vs[1]? = some (.ref T) ∧ B.get? T = none ∧ T ≠ e ∧ h.get? T = some oT ∧ oT.data = .fields ts ∧ ts[3]? = some fl ∧ oT.cls ≠ .none
/-- an exception of class C under way: new behind B, as it was raised, or with its trace -/
def ExcAt (B h : Heap) (e : Addr) (C : String) (L : Addr) (k : Bool) : Prop :=
  (∃ ob vs, h.get? e = some ob ∧ ob.cls = .type C ∧ ob.data = .fields vs ∧ Ctx2 vs k ∧ vs[1]? = some .none) ∨
  ∃ fl, Traced h B e C fl k ∧ (fl = .none ∨ fl = rawInt L)
theorem Traced.sooner {B B' h : Heap} {e : Addr} {C : String} {fl : Value} {k : Bool} (q : ∀ b, B'.get? b = none → B.get? b = none) (x : Traced h B' e C fl k) : Traced h B e C fl k := by
  obtain ⟨oe, vs, T, oT, ts, h1, h2, h3, h4, h5, h6, h7⟩ := x
  exact ⟨oe, vs, T, oT, ts, h1, h2, h3, h4, h5, q _ h6, h7⟩
theorem ExcAt.sooner {B B' h : Heap} {e : Addr} {C : String} {L : Addr} {k : Bool} (q : ∀ b, B'.get? b = none → B.get? b = none) (x : ExcAt B' h e C L k) : ExcAt B h e C L k := by
  rcases x with x | ⟨fl, x, hf⟩
  · exact .inl x
  · exact .inr ⟨fl, x.sooner q, hf⟩

def Fx.at? (fr : Fx) : Addr := ((fr.frames.head?.bind (·.frame)).getD 0)

def Post (c : Wd) (fr : Fx) {α β : Type} (rep : Rho → α → β → Prop) (ρ : Rho) (s : Shared) (r : Out β) (m' : Loc) (st' : Sto) (Q : α → Shared → Prop) (E : Value → Shared → Prop) : Prop :=
  match r with
  | .ok b => ∀ ρ' s' x, ρ <+: ρ' → Nxt fr ρ ρ' s s' → Inv c fr ρ' m' st' s' → rep ρ' x b → Q x s'
  | .exc C => ∀ ρ' s' e, ρ <+: ρ' → Nxt fr ρ ρ' s s' → Inv c fr ρ' m' st' s' → s.heap.get? e = none → ExcAt s.heap s'.heap e C.cls fr.at? C.k → E (.ref e) s'

def TriAt (c : Wd) (fr : Fx) {α β : Type} (rep : Rho → α → β → Prop) (ρ : Rho) (t : Sem α) (m : Loc) (st : Sto) (r : Out β) (m' : Loc) (st' : Sto) : Prop :=
  ∀ (A : Around) (s : Shared) (Q : α → Shared → Prop) (E : Value → Shared → Prop), fr.At A → Inv c fr ρ m st s → Post c fr rep ρ s r m' st' Q E → wpAny (model c.prog c.w) A t Q E s

section
variable {c : Wd} {fr : Fx} {α β γ δ : Type} {rep : Rho → α → β → Prop} {rep2 : Rho → γ → δ → Prop} {ρ ρ₁ : Rho} {m m₁ m₂ : Loc} {st st₁ st₂ : Sto} {s s₁ : Shared} {Q : γ → Shared → Prop} {E : Value → Shared → Prop}

theorem Post.after {r : Out δ} (p : ρ <+: ρ₁) (n : Nxt fr ρ ρ₁ s s₁) (h : Post c fr rep2 ρ s r m₂ st₂ Q E) : Post c fr rep2 ρ₁ s₁ r m₂ st₂ Q E := by
  cases r with
  | ok b => exact fun ρ' s' x p' n' I rx => h ρ' s' x (p.trans p') (n.trans n') I rx
  | exc C => exact fun ρ' s' e p' n' I h1 h2 => h ρ' s' e (p.trans p') (n.trans n') I (n.noneOf h1) (h2.sooner fun b hb => n.noneOf hb)

theorem TriAt.bind {t : Sem α} {f : α → Sem γ} {b : β} {r : Out δ} (h1 : TriAt c fr rep ρ t m st (.ok b) m₁ st₁)
    (h2 : ∀ ρ₁ x, ρ <+: ρ₁ → rep ρ₁ x b → TriAt c fr rep2 ρ₁ (f x) m₁ st₁ r m₂ st₂) : TriAt c fr rep2 ρ (t >>= f) m st r m₂ st₂ :=
  fun A s _ E hA I post => wpAny_bind (h1 A s _ E hA I fun ρ₁ s₁ x p n I₁ rx => h2 ρ₁ x p rx A s₁ _ E hA I₁ (post.after p n))
theorem TriAt.bindE {t : Sem α} {f : α → Sem γ} {C : Exn} (h1 : TriAt c fr rep ρ t m st (.exc C) m₁ st₁) : TriAt c fr rep2 ρ (t >>= f) m st (.exc C) m₁ st₁ :=
  fun A s _ E hA I post => wpAny_bind (h1 A s _ E hA I post)
theorem TriAt.pure {x : α} {b : β} (h : rep ρ x b) : TriAt c fr rep ρ (Pure.pure x) m st (.ok b) m st :=
  fun _ s _ _ _ I post => wpAny_pure (post ρ s x (List.prefix_refl ρ) (Nxt.refl ..) I h)
theorem TriAt.holding {vs : List Value} {t : Sem α} {r : Out β} (h : TriAt c fr rep ρ t m st r m₁ st₁) : TriAt c fr rep ρ (PySem.holding vs t) m st r m₁ st₁ :=
  fun A s Q E hA I post => wpAny_holding (h A s Q E hA I post)
def RepU (_ : Rho) (_ : Unit) (_ : Unit) : Prop := True
theorem TriAt.stand {pos : Pos} : TriAt c fr RepU ρ (standAt pos) m st (.ok ()) m st :=
  fun _ s _ _ _ I post => wpAny_standAt (post ρ s () (List.prefix_refl ρ) (Nxt.refl ..) I trivial)
theorem TriAt.standThen {pos : Pos} {t : Sem γ} {r : Out δ} (h : TriAt c fr rep2 ρ t m st r m₂ st₂) : TriAt c fr rep2 ρ (standAt pos >>= fun _ => t) m st r m₂ st₂ :=
  fun A s Q E hA I post => wpAny_bind (wpAny_standAt (h A s Q E hA I post))
theorem TriAt.ruleThen {tag : String} {t : Sem γ} {r : Out δ} (h : TriAt c fr rep2 ρ t m st r m₂ st₂) : TriAt c fr rep2 ρ (rule tag >>= fun _ => t) m st r m₂ st₂ :=
  fun A s Q E hA I post => wpAny_bind (wpAny_rule (h A s Q E hA I post))
theorem TriAt.operate {vs : List Value} {t : Sem Value} {rep : Rho → Value → β → Prop} {r : Out β} (h : TriAt c fr rep ρ t m st r m₁ st₁) : TriAt c fr rep ρ (PySem.operate vs t) m st r m₁ st₁ :=
  fun A s Q E hA I post Γ p hΓ => by rw [Sem.wp_operate]; exact h A s Q E hA I post Γ p hΓ
theorem TriAt.ite {p : Prop} [Decidable p] {t u : Sem α} {r : Out β} (h : if p then TriAt c fr rep ρ t m st r m₁ st₁ else TriAt c fr rep ρ u m st r m₁ st₁) : TriAt c fr rep ρ (if p then t else u) m st r m₁ st₁ := by
  split <;> simp_all
theorem TriAt.lv {t : Sem α} {r : Out β} {n : Nat} (hn : n ≤ fr.lv) (h : TriAt c fr rep ρ t m st r m₁ st₁) : TriAt c { fr with lv := n } rep ρ t m st r m₁ st₁ := fun A s Q E hA I post =>
  h A s Q E ⟨hA.frames, hA.handled, Nat.le_trans hA.depth hn, Nat.le_trans hA.units hn⟩ I.lv (by
    cases r with
    | ok b => exact fun ρ' s' x p n' I' rx => post ρ' s' x p n'.toLv I'.toLv rx
    | exc C => exact fun ρ' s' e p n' I' h1 h2 => post ρ' s' e p n'.toLv I'.toLv h1 h2)
/-- a step that makes nothing and only reads -/
theorem TriAt.look {t : Sem α} {b : β} (h : ∀ (A : Around) (s : Shared) (Q : α → Shared → Prop) (E : Value → Shared → Prop), fr.At A → Inv c fr ρ m st s → (∀ x tk, rep ρ x b → Q x { s with toks := tk }) → wpAny (model c.prog c.w) A t Q E s) :
    TriAt c fr rep ρ t m st (.ok b) m st := fun A s Q E hA I post =>
  h A s Q E hA I fun x _ rx => post ρ _ x (List.prefix_refl ρ) (Nxt.grow fun _ _ e => e) (I.grow (fun _ _ e => e) I.bare) rx
/-- a step that only makes (no object of the store) -/
theorem TriAt.grows {t : Sem α} {b : β} (h : ∀ (A : Around) (s : Shared) (Q : α → Shared → Prop) (E : Value → Shared → Prop), fr.At A → Inv c fr ρ m st s → (∀ x h' tk, (∀ b o, s.heap.get? b = some o → h'.get? b = some o) → rep ρ x b → Q x { s with heap := h', toks := tk }) → wpAny (model c.prog c.w) A t Q E s) :
    TriAt c fr rep ρ t m st (.ok b) m st := fun A s Q E hA I post =>
  h A s Q E hA I fun x h' tk k rx => post ρ _ x (List.prefix_refl ρ) (Nxt.grow k) (I.grow k I.bare) rx
/-- a step that makes one object of the store -/
theorem TriAt.makes {t : Sem Value} {o' : MObj} (h : ∀ (A : Around) (s : Shared) (Q : Value → Shared → Prop) (E : Value → Shared → Prop), fr.At A → Inv c fr ρ m st s →
      (∀ p h' tk, (∀ b o, s.heap.get? b = some o → h'.get? b = some o) → s.heap.get? p.1 = none → s.heap.get? p.2 = none → HoldsAt h' (ρ ++ [p]) p.1 p.2 o' → Q (.ref p.1) { s with heap := h', toks := tk }) → wpAny (model c.prog c.w) A t Q E s) :
    TriAt c fr Rep ρ t m st (.ok (.obj st.length)) m (st ++ [o']) := fun A s Q E hA I post =>
  h A s Q E hA I fun p h' tk k n1 n2 ho => post (ρ ++ [p]) _ _ (prefix_add ρ p) (Nxt.make k n1 n2) (I.make k n1 n2 ho I.bare) ⟨p, by rw [← I.len]; simp, rfl⟩
end
end Mine
end
section
set_option Elab.async false
set_option maxRecDepth 100000
set_option linter.unusedVariables false
namespace Mine
open PySem PySem.Spec PySem.Calls PyProof.Rows PySem.W

def Ev (c : Wd) (fr : Fx) (e : Expr) (m : Loc) (st : Sto) (r : Out V) (st' : Sto) : Prop := ∀ ρ, TriAt c fr Rep ρ (eval e fr.env) m st r m st'
def RepB (_ : Rho) (x b : Bool) : Prop := x = b
def Bt (c : Wd) (fr : Fx) (e : Expr) (m : Loc) (st : Sto) (r : Out Bool) (st' : Sto) : Prop := ∀ ρ, TriAt c fr RepB ρ (isTrue e fr.env (eval e fr.env)) m st r m st'
inductive FV where
  | next | brk | cont
  | ret (v : V)
def RepF (ρ : Rho) : Flow → FV → Prop
  | .next, .next => True
  | .brk, .brk => True
  | .cont, .cont => True
  | .ret x, .ret v => Rep ρ x v
  | _, _ => False
def Ex (c : Wd) (fr : Fx) (b : List Stmt) (m : Loc) (st : Sto) (r : Out FV) (m' : Loc) (st' : Sto) : Prop := ∀ ρ, TriAt c fr RepF ρ (execs b fr.env) m st r m' st'
def Ex1 (c : Wd) (fr : Fx) (b : Stmt) (m : Loc) (st : Sto) (r : Out FV) (m' : Loc) (st' : Sto) : Prop := ∀ ρ, TriAt c fr RepF ρ (exec b fr.env) m st r m' st'
/-- a call, whatever the frame; r: the depth it may want -/
def Calls (c : Wd) (z : Bool) (k : Nat) (f : V) (args : List V) (kw : List (Str × V)) (st : Sto) (r : Out V) (st' : Sto) : Prop :=
  ∀ (fr : Fx) (m : Loc) (ρ : Rho) (x : Value) (xs : List Value) (ks : List Value), fr.fit z k → Rep ρ x f → RepL ρ xs args → RepL ρ ks (kw.map (·.2)) →
    ∀ (A : Around) (s : Shared) (Q : Value → Shared → Prop) (E : Value → Shared → Prop), fr.At A → Inv c fr ρ m st s → Post c fr Rep ρ s r m st' Q E →
      codeAny (model c.prog c.w) A (.call x ⟨xs, (kw.map (·.1)).zip ks⟩) (fun r s' => match r with | .ok (.ret v) => Q v s' | .ok _ => False | .error e => E e s') s

section
variable {c : Wd} {fr : Fx} {m m' m₁ m₂ : Loc} {st st₁ st₂ st₃ : Sto} {ρ : Rho}

-- constants
theorem Ev.int {i : Int} {k : Nat} {pos : Pos} : Ev c fr (.Constant (.int i) k pos) m st (.ok (.int i)) st := fun ρ => .look fun A s Q E _ _ h => wpAny_Constant_int (h _ _ ⟨_, rfl⟩)
theorem Ev.str {x : Str} {k : Nat} {pos : Pos} : Ev c fr (.Constant (.str x) k pos) m st (.ok (.str x)) st := fun ρ => .look fun A s Q E _ _ h => fun _ _ _ => h _ _ ⟨_, rfl⟩
theorem Ev.bytes {x : List UInt8} {k : Nat} {pos : Pos} : Ev c fr (.Constant (.bytes x) k pos) m st (.ok (.bytes x.toArray)) st := fun ρ => .look fun A s Q E _ _ h => fun _ _ _ => h _ _ ⟨_, rfl⟩
theorem Ev.nil {k : Nat} {pos : Pos} : Ev c fr (.Constant .none k pos) m st (.ok .none) st := fun ρ => .look fun A s Q E _ _ h => fun _ _ _ => h _ s.toks rfl
theorem Ev.bool {b : Bool} {k : Nat} {pos : Pos} : Ev c fr (.Constant (.bool b) k pos) m st (.ok (.bool b)) st := fun ρ => .look fun A s Q E _ _ h => fun _ _ _ => h _ s.toks rfl

-- names
/-- its env is the innermost frame -/
structure Fx.Head (fr : Fx) : Prop where
  top : ∃ outer, fr.frames = fr.env :: outer
  frame : fr.env.frame = some fr.env.locals
/-- a frame of the text's own -/
structure Fx.Own (fr : Fx) : Prop where
  kind : fr.env.scope.kind = .function
  globals : fr.env.globals = mainGlobals
  builtins : fr.env.builtins = builtinsNs
  locs : (fr.names.all fun x => fr.env.kindOf x == some .local && !(x == ("__debug__" : Str))) = true
  nodup : fr.names.Nodup
  scopeOk : (fr.env.scope.kind == .class || (fr.env.scope.kind == .module && fr.env.locals != fr.env.globals)) = false
theorem Fx.Own.loc {fr : Fx} (ow : fr.Own) {x : Str} (h : x ∈ fr.names) : fr.env.kindOf x = some .local ∧ (x == ("__debug__" : Str)) = false := by
  have := List.all_eq_true.mp ow.locs x h
  simpa using this
theorem Ev.loc {x : Str} {pos : Pos} {v : V} (ow : fr.Own) (hv : Lk fr.names m x v) (hd : v.isDef = true := by rfl) :
    Ev c fr (.Name x pos) m st (.ok v) st := fun ρ => .look fun A s Q E _ I h => by
  obtain ⟨i, h1, h2⟩ := hv.at
  obtain ⟨mm, hn, hm⟩ := I.ns
  obtain ⟨y, hy, hr⟩ := hm i x v h1 h2 hd
  have hl := ow.loc (List.mem_of_getElem? h1)
  exact wpAny_Name (wpAny_loadName_local ow.kind hl.1 hn hy (h y s.toks hr)) hl.2
theorem wpAny_loadName_global {M : Model} {A : Around} {E : Value → Shared → Prop} {s : Shared} {env : Env} {name : Str} {mg : Str → Option Value} {v : Value} {Q : Value → Shared → Prop} (hk : env.scope.kind = .function) (hl : env.kindOf name = some .globalImplicit)
    (hn : s.heap.Ns env.globals mg) (hv : mg name = some v) (h : Q v s) : wpAny M A (loadName env name) Q E s := by
  have hb : env.blockKind = .function := by unfold Env.blockKind; rw [hk]; rfl
  have e : loadName env name = loadGlobal env name := by
    unfold loadName
    rw [hb, hl, hk]
    rfl
  rw [e]
  unfold loadGlobal
  refine wpAny_bind (wpAny_nsGet hn ?_)
  rw [hv]
  exact wpAny_pure h
theorem wpAny_loadName_builtin {M : Model} {A : Around} {E : Value → Shared → Prop} {s : Shared} {env : Env} {name : Str} {mg mb : Str → Option Value} {v : Value} {Q : Value → Shared → Prop} (hk : env.scope.kind = .function) (hl : env.kindOf name = some .globalImplicit)
    (hn : s.heap.Ns env.globals mg) (hv : mg name = none) (hn' : s.heap.Ns env.builtins mb) (hv' : mb name = some v) (h : Q v s) : wpAny M A (loadName env name) Q E s := by
  have hb : env.blockKind = .function := by unfold Env.blockKind; rw [hk]; rfl
  have e : loadName env name = loadGlobal env name := by
    unfold loadName
    rw [hb, hl, hk]
    rfl
  rw [e]
  unfold loadGlobal
  refine wpAny_bind (wpAny_nsGet hn ?_)
  rw [hv]
  refine wpAny_bind (wpAny_nsGet hn' ?_)
  rw [hv']
  exact wpAny_pure h
theorem Ev.glob {x : Str} {pos : Pos} {v : Value} (ok : c.Ok) (ow : fr.Own) (e : nsIn c.K mainGlobals x = some (some v)) (hl : fr.env.kindOf x = some .globalImplicit := by rfl) (hd : (x == ("__debug__" : Str)) = false := by decide +kernel) :
    Ev c fr (.Name x pos) m st (.ok (.glob v)) st := fun ρ => .look fun A s Q E _ I h => by
  have T := I.top ok
  exact wpAny_Name (wpAny_loadName_global ow.kind hl (by rw [ow.globals]; exact T.g) (mg_of (I.kin ok) T.g e) (h _ s.toks rfl)) hd
theorem Ev.built {x : Str} {pos : Pos} {v : Value} (ok : c.Ok) (ow : fr.Own) (e : nsIn c.K mainGlobals x = some none) (hv : bootBuiltins x = some v) (hn : x ≠ "__name__" := by decide) (hl : fr.env.kindOf x = some .globalImplicit := by rfl) (hd : (x == ("__debug__" : Str)) = false := by decide +kernel) :
    Ev c fr (.Name x pos) m st (.ok (.glob v)) st := fun ρ => .look fun A s Q E _ I h => by
  have T := I.top ok
  exact wpAny_Name (wpAny_loadName_builtin ow.kind hl (by rw [ow.globals]; exact T.g) (mg_none_of (I.kin ok) T.g e) (by rw [ow.builtins]; exact T.b) ((T.builtins x hn).trans hv) (h _ s.toks rfl)) hd

-- operators
theorem Ev.conv {e : Expr} {v v' : V} (h : Ev c fr e m st (.ok v) st₁) (q : v = v') : Ev c fr e m st (.ok v') st₁ := q ▸ h
theorem Ev.binop {l r : Expr} {op : Operator} {pos : Pos} {a b : V} {v : Out V} (h1 : Ev c fr l m st (.ok a) st₁) (h2 : Ev c fr r m st₁ (.ok b) st₂)
    (h3 : ∀ ρ x y, Rep ρ x a → Rep ρ y b → TriAt c fr Rep ρ (binaryOp op x y) m st₂ v m st₃) : Ev c fr (.BinOp l op r pos) m st v st₃ := fun ρ => by
  rw [eval_BinOp]
  refine (h1 ρ).bind fun ρ₁ x p rx => (TriAt.holding (h2 ρ₁)).bind fun ρ₂ y p₂ ry => TriAt.standThen (TriAt.operate (h3 ρ₂ x y (rx.mono p₂) ry))
theorem Ev.binopE1 {l r : Expr} {op : Operator} {pos : Pos} {C : Exn} (h1 : Ev c fr l m st (.exc C) st₁) : Ev c fr (.BinOp l op r pos) m st (.exc C) st₁ := fun ρ => by
  rw [eval_BinOp]
  exact (h1 ρ).bindE
theorem Ev.binopE2 {l r : Expr} {op : Operator} {pos : Pos} {a : V} {C : Exn} (h1 : Ev c fr l m st (.ok a) st₁) (h2 : Ev c fr r m st₁ (.exc C) st₂) : Ev c fr (.BinOp l op r pos) m st (.exc C) st₂ := fun ρ => by
  rw [eval_BinOp]
  exact (h1 ρ).bind fun ρ₁ x p rx => (TriAt.holding (h2 ρ₁)).bindE

/-- operators on ints, bools -/
def Bin2 (c : Wd) (fr : Fx) (op : Operator) (a b v : V) : Prop := ∀ m st ρ x y, Rep ρ x a → Rep ρ y b → TriAt c fr Rep ρ (binaryOp op x y) m st (.ok v) m st
theorem Bin2.add {a b : Int} : Bin2 c fr .Add (.int a) (.int b) (.int (a + b)) := fun m st ρ x y rx ry => by
  obtain ⟨t, rfl⟩ := rx; obtain ⟨u, rfl⟩ := ry
  exact .look fun A s Q E _ _ h => PyProof.Rows.add_int (h _ _ ⟨_, rfl⟩)
theorem Bin2.sub {a b : Int} : Bin2 c fr .Sub (.int a) (.int b) (.int (a - b)) := fun m st ρ x y rx ry => by
  obtain ⟨t, rfl⟩ := rx; obtain ⟨u, rfl⟩ := ry
  exact .look fun A s Q E _ _ h => PyProof.Rows.sub_int' (h _ _ ⟨_, rfl⟩)
theorem Bin2.mul {a b : Int} (hm : IntMulOk a b) : Bin2 c fr .Mult (.int a) (.int b) (.int (a * b)) := fun m st ρ x y rx ry => by
  obtain ⟨t, rfl⟩ := rx; obtain ⟨u, rfl⟩ := ry
  exact .look fun A s Q E _ _ h => PyProof.Rows.mul_int (h _ _ ⟨_, rfl⟩) hm
theorem Bin2.fdiv {a b : Int} (hb : b ≠ 0) (hp : Builtin.divisionGoesByPylong a b = false) : Bin2 c fr .FloorDiv (.int a) (.int b) (.int (a.fdiv b)) := fun m st ρ x y rx ry => by
  obtain ⟨t, rfl⟩ := rx; obtain ⟨u, rfl⟩ := ry
  exact .look fun A s Q E _ _ h => PyProof.Rows.floordiv_int hb (h _ _ ⟨_, rfl⟩) (.inl hp)
theorem Bin2.mod {a b : Int} (hb : b ≠ 0) : Bin2 c fr .Mod (.int a) (.int b) (.int (a.fmod b)) := fun m st ρ x y rx ry => by
  obtain ⟨t, rfl⟩ := rx; obtain ⟨u, rfl⟩ := ry
  exact .look fun A s Q E _ _ h => PyProof.Rows.mod_int' hb (h _ _ ⟨_, rfl⟩)
theorem Bin2.pow {a n : Int} (hn : 0 ≤ n) (hsz : (Builtin.Int.intBits a : Int) * n ≤ 2 ^ 27) : Bin2 c fr .Pow (.int a) (.int n) (.int (a ^ n.toNat)) := fun m st ρ x y rx ry => by
  obtain ⟨t, rfl⟩ := rx; obtain ⟨u, rfl⟩ := ry
  exact .look fun A s Q E _ _ h => PyProof.Rows.pow_int hn hsz (h _ _ ⟨_, rfl⟩)
theorem Bin2.addB {a : Int} {b : Bool} : Bin2 c fr .Add (.int a) (.bool b) (.int (a + if b = true then 1 else 0)) := fun m st ρ x y rx ry => by
  obtain ⟨t, rfl⟩ := rx; subst ry
  exact .look fun A s Q E _ _ h => add_int_bool (h _ _ ⟨_, rfl⟩)
theorem Bin2.cat {a b : Str} (hs : a.length + b.length ≤ sizeLine) : Bin2 c fr .Add (.str a) (.str b) (.str (a ++ b)) := fun m st ρ x y rx ry => by
  obtain ⟨t, rfl⟩ := rx; obtain ⟨u, rfl⟩ := ry
  exact .look fun A s Q E _ _ h => PyProof.Rows.add_str (fun t' tk => h _ tk ⟨_, rfl⟩) hs
theorem Ev.bin {l r : Expr} {op : Operator} {pos : Pos} {a b v : V} (h1 : Ev c fr l m st (.ok a) st₁) (h2 : Ev c fr r m st₁ (.ok b) st₂) (h3 : Bin2 c fr op a b v) : Ev c fr (.BinOp l op r pos) m st (.ok v) st₂ :=
  .binop h1 h2 fun ρ x y rx ry => h3 m st₂ ρ x y rx ry

theorem Ev.not {e : Expr} {pos : Pos} {b : Bool} {v : V} (h : Ev c fr e m st (.ok v) st₁) (ht : ∀ ρ x, Rep ρ x v → TriAt c fr RepB ρ (truthy x) m st₁ (.ok b) m st₁) : Ev c fr (.UnaryOp .Not e pos) m st (.ok (.bool (!b))) st₁ := fun ρ => by
  rw [eval_UnaryOp]
  refine (h ρ).bind fun ρ₁ x p rx => TriAt.standThen (TriAt.holding ?_)
  intro A s Q E hA I post
  exact not_of (ht ρ₁ x rx A s _ E hA I fun ρ' s' y p' n' I' ry => post ρ' s' _ p' n' I' (by rw [show y = b from ry]; rfl))
theorem Ev.neg {e : Expr} {pos : Pos} {i : Int} (h : Ev c fr e m st (.ok (.int i)) st₁) : Ev c fr (.UnaryOp .USub e pos) m st (.ok (.int (-i))) st₁ := fun ρ => by
  rw [eval_UnaryOp]
  refine (h ρ).bind fun ρ₁ x p rx => TriAt.standThen (TriAt.holding ?_)
  obtain ⟨t, rfl⟩ := rx
  exact .look fun A s Q E _ _ h => P.neg_int (h _ _ ⟨_, rfl⟩)

-- comparisons
def Cmp2 (c : Wd) (fr : Fx) (st : Sto) (op : CmpOp) (a b v : V) : Prop := ∀ m ρ x y, Rep ρ x a → Rep ρ y b → TriAt c fr Rep ρ (compareOp op x y) m st (.ok v) m st
theorem Cmp2.eqI {a b : Int} : Cmp2 c fr st .Eq (.int a) (.int b) (.bool (a == b)) := fun m ρ x y rx ry => by
  obtain ⟨t, rfl⟩ := rx; obtain ⟨u, rfl⟩ := ry
  exact .look fun A s Q E _ _ h => P.eq_int (h _ s.toks rfl)
theorem Cmp2.neI {a b : Int} : Cmp2 c fr st .NotEq (.int a) (.int b) (.bool (a != b)) := fun m ρ x y rx ry => by
  obtain ⟨t, rfl⟩ := rx; obtain ⟨u, rfl⟩ := ry
  exact .look fun A s Q E _ _ h => P.ne_int (h _ s.toks rfl)
theorem Cmp2.ltI {a b : Int} : Cmp2 c fr st .Lt (.int a) (.int b) (.bool (decide (a < b))) := fun m ρ x y rx ry => by
  obtain ⟨t, rfl⟩ := rx; obtain ⟨u, rfl⟩ := ry
  exact .look fun A s Q E _ _ h => P.lt_int (h _ s.toks rfl)
theorem Cmp2.leI {a b : Int} : Cmp2 c fr st .LtE (.int a) (.int b) (.bool (decide (a ≤ b))) := fun m ρ x y rx ry => by
  obtain ⟨t, rfl⟩ := rx; obtain ⟨u, rfl⟩ := ry
  exact .look fun A s Q E _ _ h => P.le_int (h _ s.toks rfl)
theorem Cmp2.gtI {a b : Int} : Cmp2 c fr st .Gt (.int a) (.int b) (.bool (decide (a > b))) := fun m ρ x y rx ry => by
  obtain ⟨t, rfl⟩ := rx; obtain ⟨u, rfl⟩ := ry
  exact .look fun A s Q E _ _ h => P.gt_int (h _ s.toks rfl)
theorem Cmp2.geI {a b : Int} : Cmp2 c fr st .GtE (.int a) (.int b) (.bool (decide (a ≥ b))) := fun m ρ x y rx ry => by
  obtain ⟨t, rfl⟩ := rx; obtain ⟨u, rfl⟩ := ry
  exact .look fun A s Q E _ _ h => P.ge_int (h _ s.toks rfl)
theorem Cmp2.neBB {a b : Bool} : Cmp2 c fr st .NotEq (.bool a) (.bool b) (.bool (a != b)) := fun m ρ x y rx ry => by
  subst rx ry
  exact .look fun A s Q E _ _ h => PyProof.Rows.ne_bool (h _ s.toks rfl)
theorem Cmp2.eqBy {a b : Array UInt8} : Cmp2 c fr st .Eq (.bytes a) (.bytes b) (.bool (a.toList == b.toList)) := fun m ρ x y rx ry => by
  obtain ⟨t, rfl⟩ := rx; obtain ⟨u, rfl⟩ := ry
  exact .look fun A s Q E _ _ h => PySem.W.eq_bytes (h _ s.toks rfl)
theorem Cmp2.neBy {a b : Array UInt8} : Cmp2 c fr st .NotEq (.bytes a) (.bytes b) (.bool (a.toList != b.toList)) := fun m ρ x y rx ry => by
  obtain ⟨t, rfl⟩ := rx; obtain ⟨u, rfl⟩ := ry
  exact .look fun A s Q E _ _ h => PySem.W.ne_bytes (h _ s.toks rfl)
theorem Cmp2.eqS {a b : Str} : Cmp2 c fr st .Eq (.str a) (.str b) (.bool (a == b)) := fun m ρ x y rx ry => by
  obtain ⟨t, rfl⟩ := rx; obtain ⟨u, rfl⟩ := ry
  exact .look fun A s Q E _ _ h => PyProof.Rows.eq_str (h _ s.toks rfl)
theorem Cmp2.isNN : Cmp2 c fr st .Is .none .none (.bool true) := fun m ρ x y rx ry => by
  subst rx ry
  exact .look fun A s Q E _ _ h => wpAny_is_self (by rfl) (h _ s.toks rfl)
theorem Cmp2.isNotNN : Cmp2 c fr st .IsNot .none .none (.bool false) := fun m ρ x y rx ry => by
  subst rx ry
  exact .look fun A s Q E _ _ h => wpAny_isNot_self (by rfl) (h _ s.toks rfl)
def V.some : V → Bool
  | .none => false
  | .glob _ => false
  | .undef => false
  | _ => true
theorem Rep.ne_none {x : Value} {v : V} (h : v.some = true) (r : Rep ρ x v) : x ≠ .none := by
  cases v <;> first | (cases h; done) | (obtain ⟨t, rfl⟩ := r; intro e; cases e; done) | (obtain ⟨p, _, rfl⟩ := r; intro e; cases e; done) | (obtain rfl := r; intro e; cases e; done)
theorem Rep.plainIs {x : Value} {v : V} (h : v.some = true) (r : Rep ρ x v) : plainIs x .none = true := by
  cases v <;> first | (cases h; done) | (obtain ⟨t, rfl⟩ := r; rfl) | (obtain ⟨p, _, rfl⟩ := r; rfl) | (obtain rfl := r; rfl)
theorem Cmp2.isN {a : V} (ha : a.some = true) : Cmp2 c fr st .Is a .none (.bool false) := fun m ρ x y rx ry => by
  subst ry
  exact .look fun A s Q E _ _ h => wpAny_is_other (rx.plainIs ha) (rx.ne_none ha) (h _ s.toks rfl)
theorem Cmp2.isNotN {a : V} (ha : a.some = true) : Cmp2 c fr st .IsNot a .none (.bool true) := fun m ρ x y rx ry => by
  subst ry
  exact .look fun A s Q E _ _ h => wpAny_isNot_other (rx.plainIs ha) (rx.ne_none ha) (h _ s.toks rfl)
theorem Ev.cmp {l r : Expr} {op : CmpOp} {pos : Pos} {a b v : V} (h1 : Ev c fr l m st (.ok a) st₁) (h2 : Ev c fr r m st₁ (.ok b) st₂) (h3 : Cmp2 c fr st₂ op a b v) (hm : behindInMarks op r = false := by rfl) :
    Ev c fr (.Compare l [op] [r] pos) m st (.ok v) st₂ := fun ρ => by
  rw [eval_Compare1, markedBehindIn_of_false hm]
  exact (h1 ρ).bind fun ρ₁ x p rx => (TriAt.holding (h2 ρ₁)).bind fun ρ₂ y p₂ ry => TriAt.standThen (TriAt.operate (h3 m ρ₂ x y (rx.mono p₂) ry))

-- truth
def Truth (c : Wd) (fr : Fx) (st : Sto) (v : V) (b : Bool) : Prop := ∀ m ρ x, Rep ρ x v → TriAt c fr RepB ρ (truthy x) m st (.ok b) m st
theorem Truth.bool {b : Bool} : Truth c fr st (.bool b) b := fun m ρ x rx => by
  subst rx
  exact .look fun A s Q E _ _ h => wpAny_truthy_bool (h _ s.toks rfl)
theorem Truth.none : Truth c fr st .none false := fun m ρ x rx => by
  subst rx
  exact .look fun A s Q E _ _ h => truthy_none (h _ s.toks rfl)
theorem Truth.int {i : Int} : Truth c fr st (.int i) (i != 0) := fun m ρ x rx => by
  obtain ⟨t, rfl⟩ := rx
  exact .look fun A s Q E _ _ h => P.truthy_int (h _ s.toks rfl)
theorem Truth.str {a : Str} (hs : a.length ≤ 1099511627776) : Truth c fr st (.str a) ((a.length : Int) != 0) := fun m ρ x rx => by
  obtain ⟨t, rfl⟩ := rx
  exact .look fun A s Q E _ _ h => P.truthy_str (by omega) (h _ _ rfl)
theorem Truth.bytes {a : Array UInt8} (hs : a.size ≤ 1099511627776) : Truth c fr st (.bytes a) ((a.size : Int) != 0) := fun m ρ x rx => by
  obtain ⟨t, rfl⟩ := rx
  exact .look fun A s Q E _ _ h => truthy_bytes hs (h _ _ rfl)

theorem Bt.conv {e : Expr} {b b' : Bool} (h : Bt c fr e m st (.ok b) st₁) (q : b = b') : Bt c fr e m st (.ok b') st₁ := q ▸ h
theorem Bt.plain {e : Expr} {v : V} {b : Bool} (h : Ev c fr e m st (.ok v) st₁) (ht : Truth c fr st₁ v b) (he : ∀ whole, isTrue e fr.env whole = (do let v ← whole; standAt e.pos; holding [v] (truthy v)) := by intro _; rfl) : Bt c fr e m st (.ok b) st₁ := fun ρ => by
  rw [he]
  exact (h ρ).bind fun ρ₁ x p rx => TriAt.standThen (TriAt.holding (ht m ρ₁ x rx))
theorem Bt.not {e : Expr} {pos : Pos} {b : Bool} (h : Bt c fr e m st (.ok b) st₁) : Bt c fr (.UnaryOp .Not e pos) m st (.ok (!b)) st₁ := fun ρ => by
  show TriAt c fr RepB ρ (do return !(← isTrue e fr.env (eval e fr.env))) m st _ m st₁
  exact (h ρ).bind fun ρ₁ x p rx => by rw [show x = b from rx]; exact .pure rfl
theorem Bt.notE {e : Expr} {pos : Pos} {C : Exn} (h : Bt c fr e m st (.exc C) st₁) : Bt c fr (.UnaryOp .Not e pos) m st (.exc C) st₁ := fun ρ => by
  show TriAt c fr RepB ρ (do return !(← isTrue e fr.env (eval e fr.env))) m st _ m st₁
  exact (h ρ).bindE
theorem Bt.cmp {l r : Expr} {op : CmpOp} {pos : Pos} {a b : V} {v : V} {t : Bool} (h1 : Ev c fr l m st (.ok a) st₁) (h2 : Ev c fr r m st₁ (.ok b) st₂) (h3 : Cmp2 c fr st₂ op a b (.bool t)) (hm : behindInMarks op r = false := by rfl) :
    Bt c fr (.Compare l [op] [r] pos) m st (.ok t) st₂ := fun ρ => by
  rw [isTrue_Compare1, markedBehindIn_of_false hm]
  exact (h1 ρ).bind fun ρ₁ x p rx => (TriAt.holding (h2 ρ₁)).bind fun ρ₂ y p₂ ry => TriAt.standThen ((TriAt.operate (h3 m ρ₂ x y (rx.mono p₂) ry)).bind fun ρ₃ z p₃ rz => TriAt.holding (Truth.bool m ρ₃ z rz))
theorem Bt.cmpE1 {l r : Expr} {op : CmpOp} {pos : Pos} {C : Exn} (h1 : Ev c fr l m st (.exc C) st₁) (hm : behindInMarks op r = false := by rfl) : Bt c fr (.Compare l [op] [r] pos) m st (.exc C) st₁ := fun ρ => by
  rw [isTrue_Compare1, markedBehindIn_of_false hm]
  exact (h1 ρ).bindE
theorem Bt.cmpE2 {l r : Expr} {op : CmpOp} {pos : Pos} {C : Exn} {a : V} (h1 : Ev c fr l m st (.ok a) st₁) (h2 : Ev c fr r m st₁ (.exc C) st₂) (hm : behindInMarks op r = false := by rfl) : Bt c fr (.Compare l [op] [r] pos) m st (.exc C) st₂ := fun ρ => by
  rw [isTrue_Compare1, markedBehindIn_of_false hm]
  exact (h1 ρ).bind fun ρ₁ x p rx => (TriAt.holding (h2 ρ₁)).bindE
/-- a < b < c -/
theorem Bt.chain {l r r' : Expr} {op op' : CmpOp} {pos : Pos} {a b d : V} {t t' : Bool} (h1 : Ev c fr l m st (.ok a) st₁) (h2 : Ev c fr r m st₁ (.ok b) st₂) (h3 : Cmp2 c fr st₂ op a b (.bool t))
    (h4 : t = true → Ev c fr r' m st₂ (.ok d) st₂) (h5 : t = true → Cmp2 c fr st₂ op' b d (.bool t')) (hm : lastMarks [op, op'] [r, r'] = false := by rfl) : Bt c fr (.Compare l [op, op'] [r, r'] pos) m st (.ok (t && t')) st₂ := fun ρ => by
  have e : isTrue (.Compare l [op, op'] [r, r'] pos) fr.env (eval (.Compare l [op, op'] [r, r'] pos) fr.env) = (do testChain pos (← eval l fr.env) [op, op'] [eval r fr.env, eval r' fr.env]) := by
    show (do testChain pos (← eval l fr.env) [op, op'] [eval r fr.env, markedBehindIn op' r' (eval r' fr.env)]) = _
    rw [markedBehindIn_of_false (show behindInMarks op' r' = false from hm)]
  rw [e]
  refine (h1 ρ).bind fun ρ₁ x p rx => ?_
  show TriAt c fr RepB ρ₁ (do
    let rv ← holding [x] (eval r fr.env)
    standAt pos
    let c ← holding [x, rv] (compareOp op x rv)
    release [x, rv] [c]
    if ← holding [c, rv] (truthy c) then testChain pos rv [op'] [eval r' fr.env] else pure false) _ _ _ _ _
  refine (TriAt.holding (h2 ρ₁)).bind fun ρ₂ y p₂ ry => TriAt.standThen ((TriAt.holding (h3 m ρ₂ x y (rx.mono p₂) ry)).bind fun ρ₃ z p₃ rz => ?_)
  have rel : ∀ {vs ks : List Value} {u : Sem Bool} {r : Out Bool}, TriAt c fr RepB ρ₃ u m st₂ r m st₂ → TriAt c fr RepB ρ₃ (release vs ks >>= fun _ => u) m st₂ r m st₂ := fun h A s Q E hA I post Γ p hΓ => by
    rw [Sem.wp_bind', Sem.wp_release]
    exact h A s Q E hA I post Γ p hΓ
  refine rel ((TriAt.holding (Truth.bool m ρ₃ z rz)).bind fun ρ₄ w p₄ rw' => ?_)
  rw [show w = t from rw']
  cases t with
  | false => exact .pure rfl
  | true =>
    show TriAt c fr RepB ρ₄ (do
      let rv ← holding [y] (eval r' fr.env)
      standAt pos
      let c ← operate [y, rv] (compareOp op' y rv)
      holding [c] (truthy c)) _ _ _ _ _
    exact (TriAt.holding (h4 rfl ρ₄)).bind fun ρ₅ v p₅ rv => TriAt.standThen ((TriAt.operate (h5 rfl m ρ₅ y v ((ry.mono (p₃.trans p₄)).mono p₅) rv)).bind fun ρ₆ q p₆ rq => TriAt.holding (Truth.bool m ρ₆ q rq))
theorem Bt.and2 {e f : Expr} {pos : Pos} {b d : Bool} (h1 : Bt c fr e m st (.ok b) st₁) (h2 : b = true → Bt c fr f m st₁ (.ok d) st₁) : Bt c fr (.BoolOp .And [e, f] pos) m st (.ok (b && d)) st₁ := fun ρ => by
  show TriAt c fr RepB ρ (do
    match BoolOp.And, ← isTrue e fr.env (eval e fr.env) with
    | .And, false => pure false
    | .Or, true => pure true
    | _, _ => allTrue .And [f] fr.env) _ _ _ _ _
  refine (h1 ρ).bind fun ρ₁ x p rx => ?_
  rw [show x = b from rx]
  cases b with
  | false => exact .pure rfl
  | true =>
    show TriAt c fr RepB ρ₁ (do
      match BoolOp.And, ← isTrue f fr.env (eval f fr.env) with
      | .And, false => pure false
      | .Or, true => pure true
      | _, _ => allTrue .And [] fr.env) _ _ _ _ _
    refine (h2 rfl ρ₁).bind fun ρ₂ y p₂ ry => ?_
    rw [show y = d from ry]
    cases d <;> exact .pure rfl
theorem Bt.or2 {e f : Expr} {pos : Pos} {b d : Bool} (h1 : Bt c fr e m st (.ok b) st₁) (h2 : b = false → Bt c fr f m st₁ (.ok d) st₁) : Bt c fr (.BoolOp .Or [e, f] pos) m st (.ok (b || d)) st₁ := fun ρ => by
  show TriAt c fr RepB ρ (do
    match BoolOp.Or, ← isTrue e fr.env (eval e fr.env) with
    | .And, false => pure false
    | .Or, true => pure true
    | _, _ => allTrue .Or [f] fr.env) _ _ _ _ _
  refine (h1 ρ).bind fun ρ₁ x p rx => ?_
  rw [show x = b from rx]
  cases b with
  | true => exact .pure rfl
  | false =>
    show TriAt c fr RepB ρ₁ (do
      match BoolOp.Or, ← isTrue f fr.env (eval f fr.env) with
      | .And, false => pure false
      | .Or, true => pure true
      | _, _ => allTrue .Or [] fr.env) _ _ _ _ _
    refine (h2 rfl ρ₁).bind fun ρ₂ y p₂ ry => ?_
    rw [show y = d from ry]
    cases d <;> exact .pure rfl
/-- and | or of many tests, as a chain of two: the test of the rest -/
theorem Bt.andN {e f g : Expr} {r : List Expr} {pos : Pos} {b d : Bool} (h1 : Bt c fr e m st (.ok b) st₁) (h2 : b = true → Bt c fr (.BoolOp .And (f :: g :: r) pos) m st₁ (.ok d) st₁) : Bt c fr (.BoolOp .And (e :: f :: g :: r) pos) m st (.ok (b && d)) st₁ := fun ρ => by
  show TriAt c fr RepB ρ (do
    match BoolOp.And, ← isTrue e fr.env (eval e fr.env) with
    | .And, false => pure false
    | .Or, true => pure true
    | _, _ => allTrue .And (f :: g :: r) fr.env) _ _ _ _ _
  refine (h1 ρ).bind fun ρ₁ x p rx => ?_
  rw [show x = b from rx]
  cases b with
  | false => exact .pure rfl
  | true => exact h2 rfl ρ₁
theorem Bt.orN {e f g : Expr} {r : List Expr} {pos : Pos} {b d : Bool} (h1 : Bt c fr e m st (.ok b) st₁) (h2 : b = false → Bt c fr (.BoolOp .Or (f :: g :: r) pos) m st₁ (.ok d) st₁) : Bt c fr (.BoolOp .Or (e :: f :: g :: r) pos) m st (.ok (b || d)) st₁ := fun ρ => by
  show TriAt c fr RepB ρ (do
    match BoolOp.Or, ← isTrue e fr.env (eval e fr.env) with
    | .And, false => pure false
    | .Or, true => pure true
    | _, _ => allTrue .Or (f :: g :: r) fr.env) _ _ _ _ _
  refine (h1 ρ).bind fun ρ₁ x p rx => ?_
  rw [show x = b from rx]
  cases b with
  | true => exact .pure rfl
  | false => exact h2 rfl ρ₁
/-- the value of e and f, e or f -/
theorem Ev.and2 {e f : Expr} {pos : Pos} {a b : V} {t : Bool} (h1 : Ev c fr e m st (.ok a) st₁) (ht : Truth c fr st₁ a t) (h2 : t = true → Ev c fr f m st₁ (.ok b) st₁) : Ev c fr (.BoolOp .And [e, f] pos) m st (.ok (if t then b else a)) st₁ := fun ρ => by
  show TriAt c fr Rep ρ (do
    let v ← eval e fr.env
    standAt pos
    let t ← holding [v] (truthy v)
    match BoolOp.And, t with
    | .And, false | .Or, true => pure v
    | _, _ => boolOp pos .And [eval f fr.env]) _ _ _ _ _
  refine (h1 ρ).bind fun ρ₁ x p rx => TriAt.standThen ((TriAt.holding (ht m ρ₁ x rx)).bind fun ρ₂ y p₂ ry => ?_)
  rw [show y = t from ry]
  cases t with
  | false => exact .pure (rx.mono p₂)
  | true => exact h2 rfl ρ₂
theorem Ev.or2 {e f : Expr} {pos : Pos} {a b : V} {t : Bool} (h1 : Ev c fr e m st (.ok a) st₁) (ht : Truth c fr st₁ a t) (h2 : t = false → Ev c fr f m st₁ (.ok b) st₁) : Ev c fr (.BoolOp .Or [e, f] pos) m st (.ok (if t then a else b)) st₁ := fun ρ => by
  show TriAt c fr Rep ρ (do
    let v ← eval e fr.env
    standAt pos
    let t ← holding [v] (truthy v)
    match BoolOp.Or, t with
    | .And, false | .Or, true => pure v
    | _, _ => boolOp pos .Or [eval f fr.env]) _ _ _ _ _
  refine (h1 ρ).bind fun ρ₁ x p rx => TriAt.standThen ((TriAt.holding (ht m ρ₁ x rx)).bind fun ρ₂ y p₂ ry => ?_)
  rw [show y = t from ry]
  cases t with
  | true => exact .pure (rx.mono p₂)
  | false => exact h2 rfl ρ₂
theorem Ev.ifexp {e f g : Expr} {pos : Pos} {t : Bool} {r : Out V} (h1 : Bt c fr e m st (.ok t) st₁) (h2 : t = true → Ev c fr f m st₁ r st₂) (h3 : t = false → Ev c fr g m st₁ r st₂) : Ev c fr (.IfExp e f g pos) m st r st₂ := fun ρ => by
  show TriAt c fr Rep ρ (do if ← isTrue e fr.env (eval e fr.env) then eval f fr.env else eval g fr.env) _ _ _ _ _
  refine (h1 ρ).bind fun ρ₁ x p rx => ?_
  rw [show x = t from rx]
  cases t with
  | true => exact h2 rfl ρ₁
  | false => exact h3 rfl ρ₁

-- statements
theorem Ex.nil : Ex c fr [] m st (.ok .next) m st := fun ρ => .pure trivial
theorem Ex.cons {b : Stmt} {r : List Stmt} {o : Out FV} (h1 : Ex1 c fr b m st (.ok .next) m₁ st₁) (h2 : Ex c fr r m₁ st₁ o m₂ st₂) : Ex c fr (b :: r) m st o m₂ st₂ := fun ρ => by
  rw [execs_cons]
  refine (h1 ρ).bind fun ρ₁ x p rx => ?_
  cases x <;> first | exact (h2 ρ₁) | exact rx.elim
theorem Ex.stop {b : Stmt} {r : List Stmt} {f : FV} (hf : f ≠ .next) (h1 : Ex1 c fr b m st (.ok f) m₁ st₁) : Ex c fr (b :: r) m st (.ok f) m₁ st₁ := fun ρ => by
  rw [execs_cons]
  refine (h1 ρ).bind fun ρ₁ x p rx => ?_
  cases x with
  | next => cases f <;> first | exact (hf rfl).elim | exact rx.elim
  | brk => exact .pure rx
  | cont => exact .pure rx
  | ret v => exact .pure rx
theorem Ex.stopE {b : Stmt} {r : List Stmt} {C : Exn} (h1 : Ex1 c fr b m st (.exc C) m₁ st₁) : Ex c fr (b :: r) m st (.exc C) m₁ st₁ := fun ρ => by
  rw [execs_cons]
  exact (h1 ρ).bindE
theorem Ex1.pass {pos : Pos} : Ex1 c fr (.Pass pos) m st (.ok .next) m st := fun ρ => TriAt.standThen (.pure trivial)
theorem Ex1.brk {pos : Pos} : Ex1 c fr (.Break pos) m st (.ok .brk) m st := fun ρ => TriAt.standThen (.pure trivial)
theorem Ex1.cont {pos : Pos} : Ex1 c fr (.Continue pos) m st (.ok .cont) m st := fun ρ => TriAt.standThen (.pure trivial)
theorem Ex1.ret {e : Expr} {pos : Pos} {v : V} (h : Ev c fr e m st (.ok v) st₁) : Ex1 c fr (.Return (some e) pos) m st (.ok (.ret v)) m st₁ := fun ρ => by
  rw [exec_Return_some]
  exact TriAt.standThen ((h ρ).bind fun ρ₁ x p rx => .pure rx)
theorem Ex1.retE {e : Expr} {pos : Pos} {C : Exn} (h : Ev c fr e m st (.exc C) st₁) : Ex1 c fr (.Return (some e) pos) m st (.exc C) m st₁ := fun ρ => by
  rw [exec_Return_some]
  exact TriAt.standThen (h ρ).bindE
theorem Ex1.ite {e : Expr} {b d : List Stmt} {pos : Pos} {t : Bool} {o : Out FV} (h1 : Bt c fr e m st (.ok t) st₁) (h2 : t = true → Ex c fr b m st₁ o m₂ st₂) (h3 : t = false → Ex c fr d m st₁ o m₂ st₂) : Ex1 c fr (.If e b d pos) m st o m₂ st₂ := fun ρ => by
  rw [exec_If]
  refine TriAt.standThen ((h1 ρ).bind fun ρ₁ x p rx => ?_)
  rw [show x = t from rx]
  cases t with
  | true => exact h2 rfl ρ₁
  | false => exact h3 rfl ρ₁
theorem Ex1.iteE {e : Expr} {b d : List Stmt} {pos : Pos} {C : Exn} (h1 : Bt c fr e m st (.exc C) st₁) : Ex1 c fr (.If e b d pos) m st (.exc C) m st₁ := fun ρ => by
  rw [exec_If]
  exact TriAt.standThen (h1 ρ).bindE
end
end Mine
end
section
set_option Elab.async false
set_option maxRecDepth 100000
set_option linter.unusedVariables false
namespace Mine
open PySem PySem.Spec PySem.Calls PyProof.Rows PySem.W

section
variable {c : Wd} {fr : Fx} {m m' m₁ m₂ : Loc} {st st₁ st₂ st₃ : Sto} {ρ : Rho}

theorem getElem?_set_cases {α : Type} {l : List α} {i j : Nat} {a b : α} (h : (l.set i a)[j]? = some b) : (i = j ∧ b = a) ∨ (i ≠ j ∧ l[j]? = some b) := by
  rw [List.getElem?_set] at h
  split at h
  · rename_i e
    split at h
    · cases h; exact .inl ⟨e, rfl⟩
    · cases h
  · rename_i e; exact .inr ⟨e, h⟩

/-- a local name is stored -/
theorem Inv.setLoc {s : Shared} (ow : fr.Own) (I : Inv c fr ρ m st s) {x : Str} {y : Value} {v : V} (hu : Up fr.names m x v m') (r : Rep ρ y v) {h' : Heap} {mm : Str → Option Value}
    (hn : s.heap.Ns fr.env.locals mm) (hm : ∀ (i : Nat) (x : Str) (v : V), fr.names[i]? = some x → m[i]? = some v → v.isDef = true → ∃ y, mm x = some y ∧ Rep ρ y v)
    (hn' : h'.Ns fr.env.locals (fun z => if z = x then some y else mm z)) (hs : Heap.SameBut fr.env.locals s.heap h') {tk : Nat} : Inv c fr ρ m' st { s with heap := h', toks := tk } := by
  have k : ∀ b o, s.heap.get? b = some o → b ≠ fr.env.locals → h'.get? b = some o := fun b o e n => (hs.2 b n).trans e
  obtain ⟨i, u1, u2, rfl⟩ := hu.at
  obtain ⟨oL, es, ep, hL, hLd, _⟩ := id hn'
  refine ⟨fun b o e => k b o (I.stays b o e) (fun q => by rw [q, I.locals.1] at e; cases e), ?_, ⟨_, hn', ?_⟩, I.cells, I.len, ?_, I.sep, I.fresh, I.locals, I.low, ?_, I.head, I.bare, ?_, I.out.keep fun o e => k _ o e I.out.locals⟩
  · have h1 := I.ff
    have h2 := I.head
    revert h1 h2
    generalize fr.frames = l
    intro h1 h2
    induction l with
    | nil => trivial
    | cons env r ih =>
      obtain ⟨a1, ⟨L, o, a2, a3, a4, a5⟩, a6⟩ := h1
      refine ⟨a1, ?_, ih a6 fun e he => h2 e (.tail _ he)⟩
      by_cases q : L = fr.env.locals
      · subst q
        exact ⟨_, oL, a2, a3, hL, fun vs e => by rw [hLd] at e; cases e⟩
      · exact ⟨L, o, a2, a3, k L o a4 q, a5⟩
  · intro j z w h1 h2 h3
    rcases getElem?_set_cases h2 with ⟨rfl, rfl⟩ | ⟨e, h2⟩
    · rw [u1] at h1; cases h1
      exact ⟨y, if_pos rfl, r⟩
    · obtain ⟨y', e1, e2⟩ := hm j z w h1 h2 h3
      refine ⟨y', ?_, e2⟩
      show (if z = x then some y else mm z) = some y'
      rw [if_neg ?_]
      · exact e1
      · rintro rfl
        exact e ((List.getElem?_inj (List.getElem?_eq_some_iff.mp u1).1 ow.nodup).mp (u1.trans h1.symm))
  · intro j o p h1 h2
    have n1 := I.fresh p.1 (mem_ads.mpr ⟨p, List.mem_of_getElem? h2, .inl rfl⟩)
    have n2 := I.fresh p.2 (mem_ads.mpr ⟨p, List.mem_of_getElem? h2, .inr rfl⟩)
    exact (I.store j o p h1 h2).keep (fun ob e => k _ _ e n1.2.1) (fun ob e => k _ _ e n2.2.1)
  · intro b hb
    obtain ⟨⟨ob, h1, h2⟩, h3⟩ := I.below b hb
    exact ⟨⟨ob, k b _ h1 (fun q => I.locals.2 (q ▸ hb)), h2⟩, h3⟩
  · intro rr e he
    obtain ⟨a, ob, vs, h1, h2, h3, h4⟩ := I.hd rr e he
    refine ⟨a, ob, vs, h1, k _ _ h2 ?_, h3, h4⟩
    intro q
    obtain ⟨ob', e1, e2⟩ := I.locals_there
    rw [q, e1] at h2; cases h2; exact e2 _ h3
theorem Nxt.setLoc {s : Shared} {h' : Heap} (hs : Heap.SameBut fr.env.locals s.heap h') (hd : ∃ o, h'.get? fr.env.locals = some o) {tk : Nat} : Nxt fr ρ ρ s { s with heap := h', toks := tk } :=
  ⟨fun b o h h1 h2 h3 => by
    have : h'.get? b = some o := (hs.2 b h2).trans h
    exact ⟨fun _ => this, fun _ => ⟨o.slots, this⟩⟩, fun b o h => by
    by_cases q : b = fr.env.locals
    · subst q; exact hd
    · exact ⟨o, (hs.2 b q).trans h⟩, fun _ h => .inl h, rfl⟩
theorem TriAt.storeLoc (ow : fr.Own) {x : Str} {y : Value} {v : V} (hu : Up fr.names m x v m') (r : Rep ρ y v) : TriAt c fr RepU ρ (storeName fr.env x y) m st (.ok ()) m' st := fun A s Q E hA I post => by
  obtain ⟨mm, hn, hm⟩ := I.ns
  obtain ⟨i, u1, _, _⟩ := hu.at
  refine wpAny_storeName_local (ow.loc (List.mem_of_getElem? u1)).1 hn (fun h' hn' hs => ?_) ow.scopeOk
  refine post ρ _ () (List.prefix_refl ρ) (Nxt.setLoc hs ?_) (I.setLoc ow hu r hn hm hn' hs) trivial
  obtain ⟨o, _, _, h1, _⟩ := hn'
  exact ⟨o, h1⟩
theorem TriAt.bindLoc (ow : fr.Own) {x : Str} {y : Value} {v : V} (hu : Up fr.names m x v m') (r : Rep ρ y v) : TriAt c fr RepU ρ (bindName fr.env x y) m st (.ok ()) m' st := fun A s Q E hA I post =>
  wpAny_bindName (TriAt.storeLoc ow hu r A s Q E hA I post)
theorem Ex1.assign {x : Str} {pos' pos : Pos} {e : Expr} {v : V} (ow : fr.Own) (h : Ev c fr e m st (.ok v) st₁) (hu : Up fr.names m x v m') (hs : swapsWith e (some (.Name x pos')) pos.line fr.env = pure false := by rfl) :
    Ex1 c fr (.Assign [.Name x pos'] e pos) m st (.ok .next) m' st₁ := fun ρ => by
  rw [exec_Assign_Name fr.env x pos' e pos hs]
  exact TriAt.standThen ((h ρ).bind fun ρ₁ y p ry => TriAt.standThen ((TriAt.bindLoc ow hu ry).bind fun _ _ _ _ => .pure trivial))
theorem Ex1.assignE {x : Str} {pos' pos : Pos} {e : Expr} {C : Exn} (h : Ev c fr e m st (.exc C) st₁) (hs : swapsWith e (some (.Name x pos')) pos.line fr.env = pure false := by rfl) :
    Ex1 c fr (.Assign [.Name x pos'] e pos) m st (.exc C) m st₁ := fun ρ => by
  rw [exec_Assign_Name fr.env x pos' e pos hs]
  exact TriAt.standThen (h ρ).bindE
def Aug2 (c : Wd) (fr : Fx) (st : Sto) (op : Operator) (a b v : V) (st' : Sto) : Prop := ∀ m ρ x y, Rep ρ x a → Rep ρ y b → TriAt c fr Rep ρ (inplaceOp op x y) m st (.ok v) m st'
theorem Aug2.addI {a b : Int} : Aug2 c fr st .Add (.int a) (.int b) (.int (a + b)) st := fun m ρ x y rx ry => by
  obtain ⟨t, rfl⟩ := rx; obtain ⟨u, rfl⟩ := ry
  exact .look fun A s Q E _ _ h => P.iadd_int (h _ _ ⟨_, rfl⟩)
theorem Aug2.addB {a : Int} {b : Bool} : Aug2 c fr st .Add (.int a) (.bool b) (.int (a + if b = true then 1 else 0)) st := fun m ρ x y rx ry => by
  obtain ⟨t, rfl⟩ := rx; subst ry
  exact .look fun A s Q E _ _ h => iadd_int_bool (h _ _ ⟨_, rfl⟩)
theorem Ex1.aug {x : Str} {pos' pos : Pos} {op : Operator} {e : Expr} {a b v : V} (ow : fr.Own) (h0 : Lk fr.names m x a) (hd : a.isDef = true) (h : Ev c fr e m st (.ok b) st₁) (h2 : Aug2 c fr st₁ op a b v st₂) (hu : Up fr.names m x v m') :
    Ex1 c fr (.AugAssign (.Name x pos') op e pos) m st (.ok .next) m' st₂ := fun ρ => by
  rw [exec_AugAssign_Name]
  refine TriAt.standThen ?_
  have l : TriAt c fr Rep ρ (loadName fr.env x) m st (.ok a) m st := .look fun A s Q E _ I h => by
    obtain ⟨i, h1, h2⟩ := h0.at
    obtain ⟨mm, hn, hm⟩ := I.ns
    obtain ⟨y, hy, hr⟩ := hm i x a h1 h2 hd
    exact wpAny_loadName_local ow.kind (ow.loc (List.mem_of_getElem? h1)).1 hn hy (h y s.toks hr)
  exact l.bind fun ρ₁ x p rx => (TriAt.holding (h ρ₁)).bind fun ρ₂ y p₂ ry => TriAt.standThen ((TriAt.operate (h2 m ρ₂ x y (rx.mono p₂) ry)).bind fun ρ₃ z p₃ rz => TriAt.standThen ((TriAt.bindLoc ow hu rz).bind fun _ _ _ _ => .pure trivial))
theorem Ex1.augE {x : Str} {pos' pos : Pos} {op : Operator} {e : Expr} {a : V} {C : Exn} (ow : fr.Own) (h0 : Lk fr.names m x a) (hd : a.isDef = true) (h : Ev c fr e m st (.exc C) st₁) :
    Ex1 c fr (.AugAssign (.Name x pos') op e pos) m st (.exc C) m st₁ := fun ρ => by
  rw [exec_AugAssign_Name]
  refine TriAt.standThen ?_
  have l : TriAt c fr Rep ρ (loadName fr.env x) m st (.ok a) m st := .look fun A s Q E _ I h => by
    obtain ⟨i, h1, h2⟩ := h0.at
    obtain ⟨mm, hn, hm⟩ := I.ns
    obtain ⟨y, hy, hr⟩ := hm i x a h1 h2 hd
    exact wpAny_loadName_local ow.kind (ow.loc (List.mem_of_getElem? h1)).1 hn hy (h y s.toks hr)
  exact l.bind fun ρ₁ x p rx => (TriAt.holding (h ρ₁)).bindE
end
end Mine
end
section
set_option Elab.async false
set_option maxRecDepth 100000
set_option linter.unusedVariables false
namespace Mine
open PySem PySem.Spec PySem.Calls PyProof.Rows PySem.W

/-- frames may get slots; young records may change; all else is kept -/
structure Soft (fs : List Addr) (B₀ h h' : Heap) : Prop where
  kept : ∀ b o, h.get? b = some o → b ∉ fs → (B₀.get? b ≠ none ∨ ∀ vs, o.data ≠ .fields vs) → h'.get? b = some o
  slots : ∀ b o, h.get? b = some o → b ∈ fs → (∀ vs, o.data ≠ .fields vs) → ∃ sl, h'.get? b = some { o with slots := sl }
theorem Soft.refl {fs : List Addr} {B₀ h : Heap} : Soft fs B₀ h h := ⟨fun _ _ e _ _ => e, fun _ o e _ _ => ⟨o.slots, e⟩⟩
theorem Soft.trans {fs : List Addr} {B₀ h h₁ h₂ : Heap} (x : Soft fs B₀ h h₁) (y : Soft fs B₀ h₁ h₂) : Soft fs B₀ h h₂ :=
  ⟨fun b o e n k => y.kept b o (x.kept b o e n k) n k, fun b o e n k => by
    obtain ⟨sl, e1⟩ := x.slots b o e n k
    obtain ⟨sl', e2⟩ := y.slots b _ e1 n k
    exact ⟨sl', e2⟩⟩
/-- the frames of fr are among its namespaces -/
def frs (fr : Fx) : List Addr := fr.frames.filterMap (·.frame)
section
variable {c : Wd} {fr : Fx} {m m' m₁ m₂ : Loc} {st st₁ st₂ st₃ : Sto} {ρ ρ₀ : Rho} {s s₀ : Shared}
theorem Inv.frs_mem (I : Inv c fr ρ m st s) {b : Addr} (h : b ∈ frs fr) : b = fr.env.locals ∨ b ∈ fr.below := by
  obtain ⟨e, he, hf⟩ := List.mem_filterMap.mp h
  exact I.head e he b hf
theorem FunFrames.same {h h' base : Heap} : ∀ {l : List Env}, h.FunFrames base l → (∀ b o, h.get? b = some o → b ∈ l.filterMap (·.frame) → (∀ vs, o.data ≠ .fields vs) → ∃ o', h'.get? b = some o' ∧ ∀ vs, o'.data ≠ .fields vs) → h'.FunFrames base l
  | [], _, _ => trivial
  | env :: r, ⟨a1, ⟨L, o, a2, a3, a4, a5⟩, a6⟩, k => by
    obtain ⟨o', e1, e2⟩ := k L o a4 (List.mem_filterMap.mpr ⟨env, .head _, a2⟩) a5
    exact ⟨a1, ⟨L, o', a2, a3, e1, e2⟩, FunFrames.same a6 fun b o e m f => k b o e (by
      obtain ⟨x, hx, hf⟩ := List.mem_filterMap.mp m
      exact List.mem_filterMap.mpr ⟨x, .tail _ hx, hf⟩) f⟩
theorem FunFrames.rebase {h base base' : Heap} : ∀ {l : List Env}, h.FunFrames base l → (∀ b ∈ l.filterMap (·.frame), base'.get? b = none) → h.FunFrames base' l
  | [], _, _ => trivial
  | env :: r, ⟨a1, ⟨L, o, a2, a3, a4, a5⟩, a6⟩, k => ⟨a1, ⟨L, o, a2, k L (List.mem_filterMap.mpr ⟨env, .head _, a2⟩), a4, a5⟩, FunFrames.rebase a6 fun b m => k b (by
      obtain ⟨x, hx, hf⟩ := List.mem_filterMap.mp m
      exact List.mem_filterMap.mpr ⟨x, .tail _ hx, hf⟩)⟩

theorem Inv.soft (I : Inv c fr ρ m st s) {B₀ h' : Heap} (S : Soft (frs fr) B₀ s.heap h') (hb : c.base.StaysIn B₀) (hh : fr.rs = true → ∀ a, fr.hd = some (.ref a) → B₀.get? a ≠ none) (ho : B₀.get? fr.out ≠ none) : Inv c fr ρ m st { s with heap := h' } := by
  have nf : ∀ b, c.base.get? b ≠ none → b ∉ frs fr := fun b h q => by
    rcases I.frs_mem q with rfl | q
    · exact h I.locals.1
    · exact h (I.below b q).2
  have up : ∀ b o, s.heap.get? b = some o → (∀ vs, o.data ≠ .fields vs) → ∃ sl, h'.get? b = some { o with slots := sl } := fun b o e f => by
    by_cases q : b ∈ frs fr
    · exact S.slots b o e q f
    · exact ⟨o.slots, S.kept b o e q (.inr f)⟩
  refine ⟨fun b o e => S.kept b o (I.stays b o e) (nf b (by rw [e]; simp)) (.inl (by rw [hb b o e]; simp)), ?_, ?_, I.cells, I.len, ?_, I.sep, I.fresh, I.locals, I.low, ?_, I.head, I.bare, ?_, I.out.keep fun o e => S.kept _ o e (fun q => by
    rcases I.frs_mem q with q | q
    · exact I.out.locals q
    · exact I.out.below q) (.inl ho)⟩
  · exact FunFrames.same I.ff fun b o e q f => by
      obtain ⟨sl, e'⟩ := S.slots b o e q f
      exact ⟨_, e', f⟩
  · obtain ⟨mm, ⟨o, es, ep, h1, h2, h3⟩, h4⟩ := I.ns
    obtain ⟨sl, e⟩ := up _ o h1 (fun vs q => by rw [h2] at q; cases q)
    exact ⟨mm, ⟨_, es, ep, e, h2, h3⟩, h4⟩
  · intro i o p h1 h2
    have H := I.store i o p h1 h2
    have mem : ∀ b, b = p.1 ∨ b = p.2 → b ∈ ads ρ := fun b hb => mem_ads.mpr ⟨p, List.mem_of_getElem? h2, hb⟩
    have go : ∀ b, b = p.1 ∨ b = p.2 → ∀ ob, s.heap.get? b = some ob → h'.get? b = some ob := fun b hb ob e => by
      obtain ⟨ob', e1, e2⟩ := I.there (mem b hb)
      rw [e] at e1; cases e1
      refine S.kept b ob e (fun q => ?_) (.inr e2)
      have f := I.fresh b (mem b hb)
      rcases I.frs_mem q with q | q
      · exact f.2.1 q
      · exact f.2.2 q
    exact H.keep (go _ (.inl rfl)) (go _ (.inr rfl))
  · intro b hb'
    obtain ⟨⟨ob, h1, h2⟩, h3⟩ := I.below b hb'
    obtain ⟨sl, e⟩ := up b ob h1 h2
    exact ⟨⟨_, e, h2⟩, h3⟩
  · intro rr e he
    obtain ⟨a, ob, vs, h1, h2, h3, h4⟩ := I.hd rr e he
    refine ⟨a, ob, vs, h1, S.kept a ob h2 (fun q => ?_) (.inl (hh rr a (by rw [he, h1]))), h3, h4⟩
    have : ∃ o, s.heap.get? a = some o ∧ ∀ vs, o.data ≠ .fields vs := by
      rcases I.frs_mem q with q | q
      · rw [q]; exact I.locals_there
      · exact (I.below a q).1
    obtain ⟨o, e1, e2⟩ := this
    rw [h2] at e1; cases e1; exact e2 _ h3
theorem Inv.hasOut (I : Inv c fr ρ m st s) : s.heap.get? fr.out ≠ none := by
  obtain ⟨ps, q1, _⟩ := I.out.tab
  rw [q1]; simp
theorem Nxt.soft (I : Inv c fr ρ m st s) (N : Nxt fr ρ₀ ρ s₀ s) {h' : Heap} (S : Soft (frs fr) s₀.heap s.heap h') : Nxt fr ρ₀ ρ s₀ { s with heap := h' } := by
  refine ⟨fun b o e h1 h2 h3 => ?_, fun b o e => ?_, N.new, N.os⟩
  · have k := N.keep b o e h1 h2 h3
    constructor
    · intro hb
      exact S.kept b o (k.1 hb) (fun q => by rcases I.frs_mem q with q | q; exact h2 q; exact hb q) (.inl (by rw [e]; simp))
    · intro hb
      obtain ⟨sl, e'⟩ := k.2 hb
      have nf : ∀ vs, o.data ≠ .fields vs := by
        obtain ⟨ob, a1, a2⟩ := (I.below b hb).1
        rw [e'] at a1; cases a1; exact a2
      by_cases q : b ∈ frs fr
      · obtain ⟨sl', e2⟩ := S.slots b _ e' q nf
        exact ⟨sl', e2⟩
      · exact ⟨sl, S.kept b _ e' q (.inr nf)⟩
  · obtain ⟨o', e'⟩ := N.dom b o e
    by_cases q : b ∈ frs fr
    · have nf : ∃ ob, s.heap.get? b = some ob ∧ ∀ vs, ob.data ≠ .fields vs := by
        rcases I.frs_mem q with q | q
        · rw [q]; exact I.locals_there
        · exact (I.below b q).1
      obtain ⟨ob, a1, a2⟩ := nf
      rw [e'] at a1; cases a1
      obtain ⟨sl, e2⟩ := S.slots b _ e' q a2
      exact ⟨_, e2⟩
    · exact ⟨o', S.kept b o' e' q (.inl (by rw [e]; simp))⟩


variable {M : Model} {A : Around} {E : Value → Shared → Prop} {B₀ : Heap} {e L : Addr} {C : String} {env : Env} {outer : List Env} {Q : Unit → Shared → Prop} {k : Bool}
theorem frame_plain (I : Inv c fr ρ m st s) {b : Addr} (z : b ∈ frs fr) : ∃ ob, s.heap.get? b = some ob ∧ ∀ vs, ob.data ≠ .fields vs := by
  rcases I.frs_mem z with z | z
  · rw [z]; exact I.locals_there
  · exact (I.below b z).1
theorem set_none_traced {h : Heap} {T e : Addr} {oe oT : Obj} {vs ts : Array Value} {x : Value} (h1 : h.get? e = some oe) (h2 : T ≠ e) (h3 : h.get? T = some oT) (h4 : oT.data = .fields ts) (h5 : 3 < ts.size) :
    (h.update T (Obj.mapFields (·.setIfInBounds 3 x))).get? e = some oe ∧ ∃ oT' ts', (h.update T (Obj.mapFields (·.setIfInBounds 3 x))).get? T = some oT' ∧ oT'.data = .fields ts' ∧ ts'[3]? = some x ∧ oT'.cls = oT.cls :=
  ⟨by rw [Heap.get?_update_other _ _ h2]; exact h1, _, _, Heap.get?_update_self _ h3 (Obj.isFreed_of_fields (Obj.data_mapFields h4 _)), Obj.data_mapFields h4 _, by simp [h5], Obj.cls_mapFields _ _⟩
theorem soft_upd {fs : List Addr} {h : Heap} {T : Addr} {oT : Obj} {ts : Array Value} {f : Obj → Obj} (hT : h.get? T = some oT) (hd : oT.data = .fields ts) (hB : B₀.get? T = none) : Soft fs B₀ h (h.update T f) := by
  have ne : ∀ b o, h.get? b = some o → (B₀.get? b ≠ none ∨ ∀ vs, o.data ≠ .fields vs) → T ≠ b := fun b o e1 e2 q => by
    subst q
    rcases e2 with e2 | e2
    · exact e2 hB
    · rw [hT] at e1; cases e1; exact e2 _ hd
  exact ⟨fun b o e1 _ e2 => by rw [Heap.get?_update_other _ _ (ne b o e1 e2)]; exact e1, fun b o e1 _ e2 => ⟨o.slots, by rw [Heap.get?_update_other _ _ (ne b o e1 (.inr e2))]; exact e1⟩⟩
/-- a new entry of the trace, at a heap that differs softly -/
theorem exc_entry {hh : Heap} {g : Array GenState} {d : Drawn} {tk : Nat} {os : OsState} (hA : A.frames = some fr.frames) (hfs : fr.frames = env :: outer) (hf : env.frame = some L) (hff : hh.FunFrames c.base fr.frames) (hB : ∀ b o, B₀.get? b = some o → ∃ o', hh.get? b = some o')
    {oe : Obj} {vs : Array Value} (h1 : hh.get? e = some oe) (h2 : oe.cls = .type C) (h3 : oe.data = .fields vs) (h4 : Ctx2 vs k) (hsz : 1 < vs.size) (hn : B₀.get? e = none) {head : Value} {hadNext : Bool}
    (hQ : ∀ h', Soft (frs fr) B₀ hh h' → Traced h' B₀ e C (rawInt L) k → Q () ⟨h', g, d, tk, os⟩) :
    wpAny M A (do let a ← frameOf env; let pl ← entryPlaceOf L hadNext; let b ← EntryCells.newEntry head a .none (rawInt L) .none pl; setField (.ref e) 1 b) Q E ⟨hh, g, d, tk, os⟩ := by
  have mem : ∀ {b}, b ∈ frs fr → ∃ o, hh.get? b = some o ∧ ∀ vs, o.data ≠ .fields vs := fun hb => (hff.mem hb).2
  have hen : e ∉ frs fr := fun q => by
    obtain ⟨o, a1, a2⟩ := mem q
    rw [h1] at a1; cases a1; exact a2 _ h3
  refine wpAny_bind (wpAny_frameOf_fun (hA.trans (by rw [hfs])) (hfs ▸ hff) hf fun h₁ S1 => ?_)
  rw [← hfs] at S1
  refine wpAny_bind (wpAny_entryPlaceOf fun pl hpl => ?_)
  unfold EntryCells.newEntry newFields
  refine wpAny_bind (wpAny_newObj_type ?_ (hpl.sizeOk5 _ _ _ _ _))
  have e1 : h₁.get? e = some oe := (S1.2.1 e hen).trans h1
  have tb : ∀ T : Obj, (h₁.push T).get? e = some oe := fun T => Heap.get?_push_of_some _ e1
  refine wpAny_setField (tb _) h3 hsz (hQ _ ?_ ?_)
  · have ne : ∀ b o, hh.get? b = some o → (B₀.get? b ≠ none ∨ ∀ vs, o.data ≠ .fields vs) → e ≠ b := fun b o a1 a2 q => by
      subst q
      rcases a2 with a2 | a2
      · exact a2 hn
      · rw [h1] at a1; cases a1; exact a2 _ h3
    refine ⟨fun b o a1 a2 a3 => ?_, fun b o a1 a2 a3 => ?_⟩
    · rw [Heap.get?_update_other _ _ (ne b o a1 a3)]
      exact Heap.get?_push_of_some _ ((S1.2.1 b a2).trans a1)
    · obtain ⟨sl, a4⟩ := S1.2.2 b o a1
      refine ⟨sl, ?_⟩
      rw [Heap.get?_update_other _ _ (ne b o a1 (.inr a3))]
      exact Heap.get?_push_of_some _ a4
  · have hTe : e ≠ h₁.objs.size := Nat.ne_of_lt (Heap.lt_size e1)
    have hBT : B₀.get? h₁.objs.size = none := by
      cases q : B₀.get? h₁.objs.size with
      | none => rfl
      | some o =>
        obtain ⟨o', a1⟩ := hB _ o q
        obtain ⟨sl, a2⟩ := S1.2.2 _ o' a1
        exact absurd (Heap.lt_size a2) (Nat.lt_irrefl _)
    have d3 := Obj.data_mapFields h3 (·.setIfInBounds 1 (Value.ref h₁.objs.size))
    have hT := Heap.get?_push_size h₁ (o := { cls := .type "traceback", dict := none, data := .fields ([head, .ref L, .none, rawInt L, .none] ++ (if pl.isEmpty then List.replicate 6 Value.none else pl)).toArray }) rfl
    refine ⟨_, _, h₁.objs.size, _, _, Heap.get?_update_self _ (tb _) (Obj.isFreed_of_fields d3), (Obj.cls_mapFields _ _).trans h2, d3, fun q => ?_, by simp [hsz], hBT, Ne.symm hTe, (by rw [Heap.get?_update_other _ _ hTe]; exact hT), rfl, ?_⟩
    · rw [Array.getElem?_setIfInBounds_ne (by decide)]
      exact h4 q
    · refine ⟨by rcases hpl with rfl | ⟨_, _, _, _, _, _, _, rfl⟩ <;> simp, fun q => nomatch q⟩
theorem exc_note (I : Inv c fr ρ m st s) (hA : A.frames = some fr.frames) (hfs : fr.frames = env :: outer) (hf : env.frame = some L) (hB : ∀ b o, B₀.get? b = some o → ∃ o', s.heap.get? b = some o') (hn : B₀.get? e = none) (hx : ExcAt B₀ s.heap e C L k)
    (hQ : ∀ h', Soft (frs fr) B₀ s.heap h' → Traced h' B₀ e C (rawInt L) k → Q () { s with heap := h' }) : wpAny M A (noteFrame (.ref e) env) Q E s := by
  obtain ⟨hh, g, d, tk, os⟩ := s
  unfold noteFrame
  simp only [hf]
  rcases hx with ⟨ob, vs, h1, h2, h3, h4, h5⟩ | ⟨fl, ⟨oe, vs, T, oT, ts, h1, h2, h3, h4, h5, h6, h7, h8, h9, h10, h11⟩, hfl⟩
  · refine wpAny_bind (wpAny_field h1 h3 h5 ?_)
    rw [if_neg (by decide)]
    exact exc_entry hA hfs hf I.ff hB h1 h2 h3 h4 (Array.getElem?_eq_some_iff.mp h5).1 hn hQ
  · refine wpAny_bind (wpAny_field h1 h3 h5 ?_)
    rw [if_pos (show (Value.ref T != Value.none) = true from by simp)]
    refine wpAny_bind (wpAny_field h8 h9 h10 ?_)
    rcases hfl with rfl | rfl
    · rw [if_neg (show ¬ ((Value.none == rawInt L) = true) from by simp [rawInt])]
      have h3s : 3 < ts.size := (Array.getElem?_eq_some_iff.mp h10).1
      refine wpAny_bind (wpAny_setField h8 h9 h3s ?_)
      obtain ⟨k1, k2⟩ := set_none_traced (vs := vs) (x := .none) h1 h7 h8 h9 h3s
      have S : Soft (frs fr) B₀ hh (hh.update T (Obj.mapFields (·.setIfInBounds 3 Value.none))) := soft_upd h8 h9 h6
      have up : ∀ b o, hh.get? b = some o → ∃ o', (hh.update T (Obj.mapFields (·.setIfInBounds 3 Value.none))).get? b = some o' := fun b o a1 => by
        by_cases q : T = b
        · subst q
          obtain ⟨oT', ts', a2, _⟩ := k2
          exact ⟨oT', a2⟩
        · exact ⟨o, by rw [Heap.get?_update_other _ _ q]; exact a1⟩
      refine exc_entry (c := c) hA hfs hf (FunFrames.same I.ff fun b o a1 a2 a3 => ?_) (fun b o a1 => ?_) k1 h2 h3 h4 (Array.getElem?_eq_some_iff.mp h5).1 hn fun h' S' ht => hQ h' (S.trans S') ht
      · obtain ⟨sl, a4⟩ := S.slots b o a1 a2 a3
        exact ⟨_, a4, a3⟩
      · obtain ⟨o', a2⟩ := hB b o a1
        exact up b o' a2
    · rw [if_pos (show (rawInt L == rawInt L) = true from by simp)]
      exact wpAny_pure (hQ hh .refl ⟨oe, vs, T, oT, ts, h1, h2, h3, h4, h5, h6, h7, h8, h9, h10, h11⟩)
theorem exc_land {fs : List Addr} {fl : Value} (ht : Traced s.heap B₀ e C fl k) (hQ : ∀ h', Soft fs B₀ s.heap h' → Traced h' B₀ e C .none k → Q () { s with heap := h' }) : wpAny M A (setFlight (.ref e) none) Q E s := by
  obtain ⟨oe, vs, T, oT, ts, h1, h2, h3, h4, h5, h6, h7, h8, h9, h10, h11⟩ := ht
  have h3s : 3 < ts.size := (Array.getElem?_eq_some_iff.mp h10).1
  obtain ⟨k1, oT', ts', k2, k3, k4, k5⟩ := set_none_traced (vs := vs) (x := (none : Option Addr).elim Value.none fun f => rawInt f) h1 h7 h8 h9 h3s
  unfold setFlight
  refine wpAny_bind (wpAny_field h1 h3 h5 ?_)
  rw [if_pos (show (Value.ref T != Value.none) = true from by simp)]
  exact wpAny_setField h8 h9 h3s (hQ _ (soft_upd h8 h9 h6) ⟨oe, vs, T, oT', ts', k1, h2, h3, h4, h5, h6, h7, k2, k3, k4, by rw [k5]; exact h11⟩)
/-- set to this frame -/
theorem exc_fly {fs : List Addr} {fl : Value} (ht : Traced s.heap B₀ e C fl k) (hQ : ∀ h', Soft fs B₀ s.heap h' → Traced h' B₀ e C (rawInt L) k → Q () { s with heap := h' }) : wpAny M A (setFlight (.ref e) (some L)) Q E s := by
  obtain ⟨oe, vs, T, oT, ts, h1, h2, h3, h4, h5, h6, h7, h8, h9, h10, h11⟩ := ht
  have h3s : 3 < ts.size := (Array.getElem?_eq_some_iff.mp h10).1
  obtain ⟨k1, oT', ts', k2, k3, k4, k5⟩ := set_none_traced (vs := vs) (x := (some L : Option Addr).elim Value.none fun f => rawInt f) h1 h7 h8 h9 h3s
  unfold setFlight
  refine wpAny_bind (wpAny_field h1 h3 h5 ?_)
  rw [if_pos (show (Value.ref T != Value.none) = true from by simp)]
  exact wpAny_setField h8 h9 h3s (hQ _ (soft_upd h8 h9 h6) ⟨oe, vs, T, oT', ts', k1, h2, h3, h4, h5, h6, h7, k2, k3, k4, by rw [k5]; exact h11⟩)
theorem soft_dom (I : Inv c fr ρ m st s) {h' : Heap} (S : Soft (frs fr) B₀ s.heap h') (hB : ∀ b o, B₀.get? b = some o → ∃ o', s.heap.get? b = some o') : ∀ b o, B₀.get? b = some o → ∃ o', h'.get? b = some o' := fun b o q => by
  obtain ⟨o', e'⟩ := hB b o q
  by_cases z : b ∈ frs fr
  · obtain ⟨ob, a1, a2⟩ := frame_plain I z
    obtain ⟨sl, a3⟩ := S.slots b ob a1 z a2
    exact ⟨_, a3⟩
  · exact ⟨o', S.kept b o' e' z (.inl (by rw [q]; simp))⟩
theorem exc_leave (I : Inv c fr ρ m st s) (hA : A.frames = some fr.frames) (hfs : fr.frames = env :: outer) (hf : env.frame = some L) (hB : ∀ b o, B₀.get? b = some o → ∃ o', s.heap.get? b = some o') (hn : B₀.get? e = none) (hx : ExcAt B₀ s.heap e C L k)
    (hQ : ∀ h', Soft (frs fr) B₀ s.heap h' → Traced h' B₀ e C .none k → Q () { s with heap := h' }) : wpAny M A (leaving env (.ref e)) Q E s := by
  unfold leaving
  exact wpAny_bind (exc_note I hA hfs hf hB hn hx fun h' S ht => exc_land ht fun h'' S' ht' => hQ h'' (S.trans S') ht')
end
end Mine
end
section
set_option Elab.async false
set_option maxRecDepth 100000
set_option linter.unusedVariables false
namespace Mine
open PySem PySem.Spec PySem.Calls PyProof.Rows PySem.W

theorem lookup_of_mem {α : Type} : ∀ {l : List (Str × α)} {x : Str} {y : α}, (l.map (·.1)).Nodup → (x, y) ∈ l → l.lookup x = some y
  | (z, w) :: r, x, y, hn, hm => by
    rw [List.map_cons, List.nodup_cons] at hn
    rw [List.lookup_cons]
    rcases List.mem_cons.mp hm with e | e
    · cases e; simp
    · have : x ≠ z := fun q => hn.1 (List.mem_map.mpr ⟨(x, y), e, q⟩)
      simp only [beq_eq_false_iff_ne.mpr this]
      exact lookup_of_mem hn.2 e
theorem nodup_reverse' {α : Type} {l : List α} (h : l.Nodup) : l.reverse.Nodup := by
  unfold List.Nodup at *
  rw [List.pairwise_reverse]
  exact h.imp fun h => Ne.symm h
/-- the parameters' names and values -/
theorem lookup_zip {ps : List Str} {xs : List Value} (hn : ps.Nodup) (hl : ps.length = xs.length) {i : Nat} {x : Str} {y : Value} (h1 : ps[i]? = some x) (h2 : xs[i]? = some y) : ((ps.zip xs).reverse).lookup x = some y := by
  refine lookup_of_mem ?_ (List.mem_reverse.mpr ?_)
  · rw [List.map_reverse]
    refine nodup_reverse' ?_
    have : (ps.zip xs).map (·.1) = ps := by rw [List.map_fst_zip]; omega
    rw [this]; exact hn
  · have : (ps.zip xs)[i]? = some (x, y) := by rw [List.getElem?_zip_eq_some]; exact ⟨h1, h2⟩
    exact List.mem_of_getElem? this

/-- the callee's frame -/
structure Sub (fr fr' : Fx) : Prop where
  frames : fr'.frames = fr'.env :: fr.frames
  below : fr'.below = fr.env.locals :: fr.below
  hd : fr'.hd = fr.hd
  rs : fr'.rs = fr.rs
  frame : fr'.env.frame = some fr'.env.locals
  kind : fr'.env.scope.kind ≠ .module
  out : fr'.out = fr.out
section
variable {c : Wd} {fr fr' : Fx} {m m' m₀ m₁ m₂ : Loc} {st st' st₁ st₂ st₃ : Sto} {ρ ρ' ρ₀ : Rho} {s s₁ s' : Shared}

theorem Inv.enter (I : Inv c fr ρ m st s) (sb : Sub fr fr') {h₁ : Heap} (hL : s.heap.get? fr'.env.locals = none) (hlow : s.heap.objs.size ≤ fr'.env.locals) (k : ∀ b o, s.heap.get? b = some o → h₁.get? b = some o) {mm : Str → Option Value} (hns : h₁.Ns fr'.env.locals mm)
    (hm : ∀ (i : Nat) (x : Str) (v : V), fr'.names[i]? = some x → m₀[i]? = some v → v.isDef = true → ∃ y, mm x = some y ∧ Rep ρ y v) (hc : ∀ x n, (x, n) ∈ fr'.cells → ∃ p, ρ[n]? = some p ∧ fr'.env.cells.lookup x = some p.1) {g' : Array GenState} (hg : AllBare g') {d' : Drawn} {tk : Nat} {os' : OsState} :
    Inv c fr' ρ m₀ st ⟨h₁, g', d', tk, os'⟩ := by
  have y := I.grow k hg (d' := d') (tk' := tk) (os' := os')
  have hb0 : c.base.get? fr'.env.locals = none := by
    cases q : c.base.get? fr'.env.locals with
    | none => rfl
    | some o => have := I.stays _ o q; rw [hL] at this; cases this
  have ne : ∀ b, (∃ o, s.heap.get? b = some o) → b ≠ fr'.env.locals := fun b h e => by obtain ⟨o, h⟩ := h; rw [e, hL] at h; cases h
  obtain ⟨oL, es, ep, e1, e2, e3⟩ := id hns
  have LT := I.locals_there
  refine ⟨y.stays, ?_, ⟨mm, hns, hm⟩, hc, I.len, y.store, I.sep, fun b hb => ?_, ⟨hb0, fun q => ?_⟩, ?_, fun b hb => ?_, fun e he b hf => ?_, hg, fun rr e he => y.hd (by rw [← sb.rs]; exact rr) e (by rw [← sb.hd]; exact he), ?_⟩
  · rw [sb.frames]
    exact ⟨sb.kind, ⟨_, oL, sb.frame, hb0, e1, fun vs e => by rw [e2] at e; cases e⟩, y.ff⟩
  · have f := I.fresh b hb
    obtain ⟨ob, e, _⟩ := I.there hb
    refine ⟨f.1, ne b ⟨ob, e⟩, fun q => ?_⟩
    rw [sb.below] at q
    rcases List.mem_cons.mp q with q | q
    · exact f.2.1 q
    · exact f.2.2 q
  · rw [sb.below] at q
    rcases List.mem_cons.mp q with q | q
    · obtain ⟨o, h, _⟩ := LT
      exact ne _ ⟨o, h⟩ q.symm
    · obtain ⟨⟨o, h, _⟩, _⟩ := I.below _ q
      exact ne _ ⟨o, h⟩ rfl
  · obtain ⟨o, h, _⟩ := LT
    exact Nat.le_trans (Nat.le_trans I.low (Nat.le_of_lt (Heap.lt_size h))) hlow
  · rw [sb.below] at hb
    rcases List.mem_cons.mp hb with rfl | hb
    · obtain ⟨o, h, f⟩ := LT
      exact ⟨⟨o, k _ _ h, f⟩, I.locals.1⟩
    · exact y.below b hb
  · rw [sb.frames] at he
    rcases List.mem_cons.mp he with rfl | he
    · rw [sb.frame] at hf; cases hf; exact .inl rfl
    · rw [sb.below]
      rcases I.head e he b hf with rfl | q
      · exact .inr (.head _)
      · exact .inr (.tail _ q)
  · have x := I.out
    obtain ⟨ps, q1, q2⟩ := x.tab
    refine ⟨by rw [sb.out]; exact x.eq, by rw [sb.out]; exact x.ads, fun q => ?_, fun q => ?_, by rw [sb.out]; exact x.base, ps, by rw [sb.out]; exact k _ _ q1, q2⟩
    · rw [← q, sb.out, q1] at hL; cases hL
    · rw [sb.out, sb.below] at q
      rcases List.mem_cons.mp q with q | q
      · exact x.locals q
      · exact x.below q
/-- back in the caller -/
theorem Inv.back (I : Inv c fr ρ m st s) (sb : Sub fr fr') (hL : s.heap.get? fr'.env.locals = none) {h₁ : Heap} (k : ∀ b o, s.heap.get? b = some o → h₁.get? b = some o) {tk : Nat} {g' : Array GenState} {d' : Drawn} {os' : OsState}
    (p : ρ <+: ρ') (N : Nxt fr' ρ ρ' ⟨h₁, g', d', tk, os'⟩ s') (I' : Inv c fr' ρ' m' st' s') (hos : os' = s.os) : Inv c fr ρ' m st' s' ∧ Nxt fr ρ ρ' s s' := by
  have ne : ∀ b, (∃ o, s.heap.get? b = some o) → b ≠ fr'.env.locals := fun b h e => by obtain ⟨o, h⟩ := h; rw [e, hL] at h; cases h
  have out : fr.env.locals ∉ ads ρ := fun q => (I.fresh _ q).2.1 rfl
  obtain ⟨oL, eL, fL⟩ := I.locals_there
  have bm : fr.env.locals ∈ fr'.below := by rw [sb.below]; exact .head _
  obtain ⟨slL, eL'⟩ := (N.keep _ oL (k _ _ eL) out (ne _ ⟨_, eL⟩) (by rw [sb.out]; exact Ne.symm I.out.locals)).2 bm
  have hdk : fr.rs = true → ∀ e, fr.hd = some e → ∃ a ob vs, e = .ref a ∧ s'.heap.get? a = some ob ∧ ob.data = .fields vs ∧ vs[2]? = some .none ∧ ob.cls ≠ .none := fun rr e he => I'.hd (by rw [sb.rs]; exact rr) e (by rw [sb.hd]; exact he)
  refine ⟨⟨I'.stays, ?_, ?_, ?_, I'.len, I'.store, I'.sep, fun b hb => ?_, I.locals, I.low, fun b hb => ?_, I.head, I'.bare, hdk, ?_⟩, ⟨fun b o h h1 h2 h3 => ?_, fun b o h => N.dom b o (k b o h), fun b hb => ?_, N.os.trans hos⟩⟩
  · have := I'.ff
    rw [sb.frames] at this
    exact this.2.2
  · obtain ⟨mm, ⟨o, es, ep, h1, h2, h3⟩, h4⟩ := I.ns
    rw [eL] at h1; cases h1
    exact ⟨mm, ⟨_, es, ep, eL', h2, h3⟩, fun i x v a1 a2 a3 => by obtain ⟨y, b1, b2⟩ := h4 i x v a1 a2 a3; exact ⟨y, b1, b2.mono p⟩⟩
  · intro x n hx
    obtain ⟨q, h1, h2⟩ := I.cells x n hx
    obtain ⟨l, rfl⟩ := p
    exact ⟨q, by rw [List.getElem?_append_left (List.getElem?_eq_some_iff.mp h1).1]; exact h1, h2⟩
  · have f := I'.fresh b hb
    rw [sb.below] at f
    exact ⟨f.1, fun q => f.2.2 (by rw [q]; exact .head _), fun q => f.2.2 (.tail _ q)⟩
  · exact I'.below b (by rw [sb.below]; exact .tail _ hb)
  · have x := I'.out
    exact ⟨I.out.eq, (by have := x.ads; rwa [sb.out] at this), I.out.locals, I.out.below, I.out.base, (by have := x.tab; rwa [sb.out] at this)⟩
  · have kk := N.keep b o (k b o h) h1 (ne b ⟨o, h⟩) (by rw [sb.out]; exact h3)
    constructor
    · intro hb
      refine kk.1 ?_
      rw [sb.below]
      intro q
      rcases List.mem_cons.mp q with q | q
      · exact h2 q
      · exact hb q
    · intro hb
      exact kk.2 (by rw [sb.below]; exact .tail _ hb)
  · rcases N.new b hb with q | q
    · exact .inl q
    · refine .inr ?_
      cases z : s.heap.get? b with
      | none => rfl
      | some o => have := k b o z; rw [q] at this; cases this

def retOf : Out FV → Option (Out V)
  | .ok (.ret v) => some (.ok v)
  | .ok .next => some (.ok .none)
  | .exc C => some (.exc C)
  | _ => none

/-- what a def's body knows of its frame -/
structure FrI (c : Wd) (fr : Fx) (names : List Str) (globs : List (Str × Value)) : Prop where
  own : fr.Own
  nm : fr.names = names
  glb : ∀ p ∈ globs, fr.env.kindOf p.1 = some .globalImplicit ∧ (nsIn c.K mainGlobals p.1 = some (some p.2) ∨ (nsIn c.K mainGlobals p.1 = some none ∧ bootBuiltins p.1 = some p.2 ∧ p.1 ≠ "__name__")) ∧ (p.1 == ("__debug__" : Str)) = false
def globOk (K : Frag) (sc : Scope) (p : Str × Value) : Bool :=
  sc.names.lookup p.1 == some .globalImplicit && (nsIn K mainGlobals p.1 == some (some p.2) || (nsIn K mainGlobals p.1 == some none && bootBuiltins p.1 == some p.2 && !(p.1 == ("__name__" : Str)))) && !(p.1 == ("__debug__" : Str))
/-- looks at a def's scope: its locals, its globals -/
def scopeOk (K : Frag) (sc : Scope) (names : List Str) (globs : List (Str × Value)) : Bool :=
  sc.kind == .function && !sc.isCoroutine && !sc.isGenerator && (names.all fun x => sc.names.lookup x == some .local && !(x == ("__debug__" : Str))) && decide names.Nodup && globs.all (globOk K sc)

theorem Ev.lc {names : List Str} {globs : List (Str × Value)} {x : Str} {pos : Pos} {v : V} (F : FrI c fr names globs) (hv : Lk names m x v) (hd : v.isDef = true := by rfl) : Ev c fr (.Name x pos) m st (.ok v) st :=
  .loc F.own (by rw [F.nm]; exact hv) hd
theorem Ev.gl {names : List Str} {globs : List (Str × Value)} {x : Str} {pos : Pos} {v : Value} (ok : c.Ok) (F : FrI c fr names globs) (hv : (x, v) ∈ globs) : Ev c fr (.Name x pos) m st (.ok (.glob v)) st := by
  obtain ⟨h1, h2, h3⟩ := F.glb _ hv
  rcases h2 with h2 | ⟨h2, h4, h5⟩
  · exact .glob ok F.own h2 h1 h3
  · exact .built ok F.own h2 h4 h5 h1 h3
theorem Ex1.asg {names : List Str} {globs : List (Str × Value)} {x : Str} {pos' pos : Pos} {e : Expr} {v : V} (F : FrI c fr names globs) (h : Ev c fr e m st (.ok v) st₁) (hu : Up names m x v m') (hs : swapsWith e (some (.Name x pos')) pos.line fr.env = pure false := by rfl) :
    Ex1 c fr (.Assign [.Name x pos'] e pos) m st (.ok .next) m' st₁ := .assign F.own h (by rw [F.nm]; exact hu) hs
theorem Ex1.augm {names : List Str} {globs : List (Str × Value)} {x : Str} {pos' pos : Pos} {op : Operator} {e : Expr} {a b v : V} (F : FrI c fr names globs) (h0 : Lk names m x a) (h : Ev c fr e m st (.ok b) st₁) (h2 : Aug2 c fr st₁ op a b v st₂) (hu : Up names m x v m') (hd : a.isDef = true := by rfl) :
    Ex1 c fr (.AugAssign (.Name x pos') op e pos) m st (.ok .next) m' st₂ := .aug F.own (by rw [F.nm]; exact h0) hd h h2 (by rw [F.nm]; exact hu)

/-- a body at its own code -/
def ExC (c : Wd) (fr : Fx) (code : Code) (b : List Stmt) (m : Loc) (st : Sto) (o : Out FV) (m' : Loc) (st' : Sto) : Prop :=
  ∀ (ρ : Rho) (A : Around) (s : Shared) (Q : Flow → Shared → Prop) (E : Value → Shared → Prop), fr.At A → Inv c fr ρ m st s → Post c fr RepF ρ s o m' st' Q E → _root_.PySem.wpAt (model c.prog c.w) A code (execs b fr.env) Q E s
theorem Ex.toC {code : Code} {b : List Stmt} {o : Out FV} (h : Ex c fr b m st o m' st') : ExC c fr code b m st o m' st' := fun ρ A s Q E hA I post => wpAt_of_wpAny (h ρ A s Q E hA I post)
theorem Calls.defAt {z : Bool} {k : Nat} {f : Addr} {oc : Value} {od : Option Addr} {osl : Array (Option Value)} {fd : FuncData} {body : List Stmt}
    {names : List Str} {globs : List (Str × Value)} {args binds : List V} {kw : List (Str × V)} {o : Out FV} {r : Out V} (n : Nat) (ok : c.Ok)
    (hK : c.K.lookup f = some ⟨oc, od, .func fd, osl⟩) (hfb : fd.body = .stmts body) (hfg : fd.globals = mainGlobals) (hfi : fd.builtins = builtinsNs) (hcd : codeIn c.K fd.code fd.qualname = true) (hsc : scopeOk c.K fd.scope names globs = true) (hcell : (fd.scope.names.all fun x => !(x.2 == .cell)) = true)
    (hbind : ∀ (s : Shared) (ρ : Rho) (xs ks : List Value), c.K.In s.heap → RepL ρ xs args → RepL ρ ks (kw.map (·.2)) → ∃ ys, BindsTo s fd ⟨xs, (kw.map (·.1)).zip ks⟩ ((names.take n).zip ys) ∧ RepL ρ ys binds)
    (hn : binds.length = n) (hn' : n ≤ names.length) (hret : retOf o = some r)
    (hbody : ∀ fr' : Fx, FrI c fr' names globs → fr'.fit z k → fr'.Head → (∃ L, fr'.env = callEnv fd L f) → ExC c fr' (.func body fr'.env) body (binds ++ List.replicate (names.length - n) .undef) st o m' st') : Calls c z (k + 1) (.glob (.ref f)) args kw st r st' := by
  intro fr m ρ x xs ks hlv rx rxs rks A s Q E hA I post
  subst rx
  simp only [scopeOk, Bool.and_eq_true, beq_iff_eq, Bool.not_eq_true', decide_eq_true_eq] at hsc
  obtain ⟨⟨⟨⟨⟨s1, s2⟩, s3⟩, s4⟩, s5⟩, s6⟩ := hsc
  have X := I.kin ok
  have T := I.top ok
  obtain ⟨ys, hb, rys⟩ := hbind s ρ xs ks X rxs rks
  have hlen : (names.take n).length = ys.length := by rw [rys.length, hn, List.length_take]; omega
  have fstz : ((names.take n).zip ys).map (·.1) = names.take n := by rw [List.map_fst_zip]; omega
  refine ks_codeAny_call_defAt (fd := fd) (body := body) (binds := (names.take n).zip ys) ?_ (X _ _ hK) rfl T.nolimit (codeRec_of X hcd) hfb hb ?_ ?_ (fun h₁ hns hk₁ => ?_) s2 s3 s1
  · have := hA.depth
    have := hlv.lv
    show A.depth < 1000
    omega
  · intro y hy
    have := List.all_eq_true.mp hcell y hy
    intro e
    rw [e] at this
    cases this
  · intro y hy
    have hm : y.1 ∈ names.take n := by rw [← fstz]; exact List.mem_map_of_mem hy
    have := List.all_eq_true.mp s4 y.1 (List.mem_of_mem_take hm)
    simp only [Bool.and_eq_true, beq_iff_eq] at this
    exact this.1
  · let fr' : Fx := { env := callEnv fd s.heap.objs.size f, names := names, frames := callEnv fd s.heap.objs.size f :: fr.frames, below := fr.env.locals :: fr.below, cells := [], hd := fr.hd, rs := fr.rs, lv := fr.lv + 3, out := fr.out }
    have sb : Sub fr fr' := ⟨rfl, rfl, rfl, rfl, rfl, (by show fd.scope.kind ≠ .module; rw [s1]; decide), rfl⟩
    have FI : FrI c fr' names globs := by
      refine ⟨⟨s1, hfg, hfi, ?_, s5, ?_⟩, rfl, fun p hp => ?_⟩
      · exact s4
      · show (fd.scope.kind == .class || (fd.scope.kind == .module && _)) = false
        rw [s1]; rfl
      · have := List.all_eq_true.mp s6 p hp
        simp only [globOk, Bool.and_eq_true, beq_iff_eq, Bool.not_eq_true', Bool.or_eq_true, beq_eq_false_iff_ne] at this
        exact ⟨this.1.1, this.1.2.imp id fun q => ⟨q.1.1, q.1.2, q.2⟩, beq_eq_false_iff_ne.mpr this.2⟩
    have hL : s.heap.get? s.heap.objs.size = none := Heap.get?_none_of_le (Nat.le_refl _)
    have I₁ : Inv c fr' ρ (binds ++ List.replicate (names.length - n) .undef) st { s with heap := h₁, toks := s.toks + ((names.take n).zip ys).length } := by
      refine I.enter sb hL (Nat.le_refl _) hk₁ hns (fun i x v h1 h2 h3 => ?_) (fun x n h => nomatch h) I.bare
      by_cases hi : i < n
      · rw [List.getElem?_append_left (by omega)] at h2
        obtain ⟨y, h4, h5⟩ := rys.get h2
        exact ⟨y, lookup_zip (List.Nodup.sublist (List.take_sublist n names) s5) hlen (by rw [List.getElem?_take, if_pos hi]; exact h1) h4, h5⟩
      · rw [List.getElem?_append_right (by omega)] at h2
        have := List.mem_of_getElem? h2
        rw [List.mem_replicate] at this
        rw [this.2] at h3; cases h3
    have hA' : fr'.At (A.deeper fr'.env) := ⟨by show A.frames.map _ = _; rw [hA.frames]; rfl, hA.handled, by have := hA.depth; show A.depth + 1 ≤ fr.lv + 3; omega, by have := hA.units; show A.units + 3 ≤ fr.lv + 3; omega⟩
    refine hbody fr' FI ⟨(by show fr.lv + 3 + 20 * k ≤ 900; have := hlv.lv; omega), hlv.rs, hlv.z⟩ ⟨⟨_, rfl⟩, rfl⟩ ⟨_, rfl⟩ ρ (A.deeper fr'.env) _ _ _ hA' I₁ ?_
    cases o with
    | ok f =>
      intro ρ' s' fl p N I' rf
      have B := I.back sb hL hk₁ p N I' rfl
      cases f with
      | next =>
        cases hret
        cases fl <;> first | exact rf.elim | exact post ρ' s' _ p B.2 B.1 rfl
      | ret v =>
        cases hret
        cases fl <;> first | exact rf.elim | exact post ρ' s' _ p B.2 B.1 rf
      | brk => cases hret
      | cont => cases hret
    | exc C =>
      cases hret
      intro ρ' s' e p N I' hn' hx
      have hB : ∀ b o, h₁.get? b = some o → ∃ o', s'.heap.get? b = some o' := N.dom
      refine exc_leave (C := C.cls) (B₀ := h₁) I' (hA'.frames) rfl rfl hB hn' hx fun h' S ht => ?_
      have I'' := I'.soft S (fun b o q => hk₁ b o (I.stays b o q)) (fun rr a ha => by
        obtain ⟨a', ob, vs, h1, h2, _⟩ := I.hd rr _ ha
        cases h1
        rw [hk₁ _ _ h2]; simp) (by
        obtain ⟨ps, q1, _⟩ := I.out.tab
        show h₁.get? fr.out ≠ none
        rw [hk₁ _ _ q1]; simp)
      have N' := N.soft I' S
      have B := I.back sb hL hk₁ p N' I'' rfl
      have old : ∀ b, h₁.get? b = none → s.heap.get? b = none := fun b q => by
        cases z : s.heap.get? b with
        | none => rfl
        | some o => have := hk₁ b o z; rw [q] at this; cases this
      exact post ρ' _ e p B.2 B.1 (old e hn') (.inr ⟨.none, ht.sooner old, .inl rfl⟩)
theorem Calls.def_ {z : Bool} {k : Nat} {f : Addr} {oc : Value} {od : Option Addr} {osl : Array (Option Value)} {name qual : Str} {params : Arguments} {body : List Stmt} {scope : Scope} {dV kV doc pm cdv ct : Value} {an : Option Addr}
    {names : List Str} {globs : List (Str × Value)} {args binds : List V} {kw : List (Str × V)} {o : Out FV} {r : Out V} (n : Nat) (ok : c.Ok)
    (hK : c.K.lookup f = some ⟨oc, od, .func (fnOf name qual params body scope dV kV doc pm an cdv ct), osl⟩) (hcd : codeIn c.K cdv qual = true) (hsc : scopeOk c.K scope names globs = true) (hcell : (scope.names.all fun x => !(x.2 == .cell)) = true)
    (hbind : ∀ (s : Shared) (ρ : Rho) (xs ks : List Value), c.K.In s.heap → RepL ρ xs args → RepL ρ ks (kw.map (·.2)) → ∃ ys, BindsTo s (fnOf name qual params body scope dV kV doc pm an cdv ct) ⟨xs, (kw.map (·.1)).zip ks⟩ ((names.take n).zip ys) ∧ RepL ρ ys binds)
    (hn : binds.length = n) (hn' : n ≤ names.length) (hret : retOf o = some r)
    (hbody : ∀ fr' : Fx, FrI c fr' names globs → fr'.fit z k → fr'.Head → Ex c fr' body (binds ++ List.replicate (names.length - n) .undef) st o m' st') : Calls c z (k + 1) (.glob (.ref f)) args kw st r st' := by
  exact .defAt n ok hK rfl rfl rfl hcd hsc hcell hbind hn hn' hret fun fr' F hl hd _ => (hbody fr' F hl hd).toC
end
end Mine
end
section
set_option Elab.async false
set_option maxRecDepth 100000
set_option linter.unusedVariables false
namespace Mine
open PySem PySem.Spec PySem.Calls PyProof.Rows PySem.W

/-- arguments by place -/
def EvL (c : Wd) (fr : Fx) (es : List Expr) (m : Loc) (st : Sto) (rs : List V) (st' : Sto) : Prop := ∀ ρ pos, TriAt c fr RepL ρ (spliced (backTo pos (starEach es fr.env))) m st (.ok rs) m st'
def EvLE (c : Wd) (fr : Fx) (es : List Expr) (m : Loc) (st : Sto) (C : Exn) (st' : Sto) : Prop := ∀ ρ pos, TriAt c fr RepL ρ (spliced (backTo pos (starEach es fr.env))) m st (.exc C) m st'
def EvK (c : Wd) (fr : Fx) (ks : List Keyword) (m : Loc) (st : Sto) (rs : List (Str × V)) (st' : Sto) : Prop :=
  (∀ pos, (backToKw pos (keywordEach ks fr.env)).all (·.1.isSome) = true ∧ (backToKw pos (keywordEach ks fr.env)).any (·.1.isNone) = false ∧ (backToKw pos (keywordEach ks fr.env)).filterMap (·.1) = rs.map (·.1)) ∧ ∀ ρ pos, TriAt c fr RepL ρ (evalAll ((backToKw pos (keywordEach ks fr.env)).map (·.2))) m st (.ok (rs.map (·.2))) m st'
def starred : Expr → Bool
  | .Starred .. => true
  | _ => false
theorem starEach_plain {e : Expr} {r : List Expr} {env : Env} (h : starred e = false) : starEach (e :: r) env = (false, eval e env) :: starEach r env := by
  cases e <;> first | rfl | cases h
theorem spliced_cons {pos : Pos} {t : Sem Value} {r : List (Bool × Sem Value)} : spliced (backTo pos ((false, t) :: r)) = (do let v ← t; let vs ← holding [v] (spliced (backTo pos r)); return [v] ++ vs) := rfl
section
variable {c : Wd} {fr : Fx} {m m' m₁ m₂ : Loc} {st st' st₁ st₂ st₃ : Sto} {ρ : Rho}
theorem EvL.nil : EvL c fr [] m st [] st := fun ρ pos => .pure .nil
theorem EvL.cons {e : Expr} {r : List Expr} {v : V} {vs : List V} (h1 : Ev c fr e m st (.ok v) st₁) (h2 : EvL c fr r m st₁ vs st₂) (hs : starred e = false := by rfl) : EvL c fr (e :: r) m st (v :: vs) st₂ := fun ρ pos => by
  rw [starEach_plain hs, spliced_cons]
  refine (h1 ρ).bind fun ρ₁ x p rx => ?_
  exact (TriAt.holding (h2 ρ₁ pos)).bind fun ρ₂ xs p₂ rxs => .pure (.cons (rx.mono p₂) rxs)
theorem EvLE.head {e : Expr} {r : List Expr} {C : Exn} (h1 : Ev c fr e m st (.exc C) st₁) (hs : starred e = false := by rfl) : EvLE c fr (e :: r) m st C st₁ := fun ρ pos => by
  rw [starEach_plain hs, spliced_cons]
  exact (h1 ρ).bindE
theorem EvLE.tail {e : Expr} {r : List Expr} {v : V} {C : Exn} (h1 : Ev c fr e m st (.ok v) st₁) (h2 : EvLE c fr r m st₁ C st₂) (hs : starred e = false := by rfl) : EvLE c fr (e :: r) m st C st₂ := fun ρ pos => by
  rw [starEach_plain hs, spliced_cons]
  refine (h1 ρ).bind fun ρ₁ x p rx => ?_
  exact (TriAt.holding (h2 ρ₁ pos)).bindE
theorem EvK.nil : EvK c fr [] m st [] st := ⟨fun _ => ⟨rfl, rfl, rfl⟩, fun ρ pos => .pure .nil⟩
theorem EvK.cons {n : Str} {e : Expr} {p : Pos} {r : List Keyword} {v : V} {vs : List (Str × V)} (h1 : Ev c fr e m st (.ok v) st₁) (h2 : EvK c fr r m st₁ vs st₂) : EvK c fr (⟨some n, e, p⟩ :: r) m st ((n, v) :: vs) st₂ := by
  refine ⟨fun pos => ?_, fun ρ pos => ?_⟩
  · obtain ⟨a, b, d⟩ := h2.1 pos
    refine ⟨?_, ?_, ?_⟩
    · show (true && _) = true; rw [Bool.true_and]; exact a
    · show (false || _) = false; rw [Bool.false_or]; exact b
    · show n :: _ = n :: _; exact congrArg _ d
  · show TriAt c fr RepL ρ (do
      let v ← (do let v ← eval e fr.env; standAt pos; pure v)
      return v :: (← holding [v] (evalAll ((backToKw pos (keywordEach r fr.env)).map (·.2))))) _ _ _ _ _
    exact TriAt.bind ((h1 ρ).bind fun ρ₁ x p rx => TriAt.standThen (.pure rx)) fun ρ₁ x p rx => (TriAt.holding (h2.2 ρ₁ pos)).bind fun ρ₂ xs p₂ rxs => .pure (.cons (rx.mono p₂) rxs)

theorem evalArgs_gen {M : Model} {A : Around} {E : Value → Shared → Prop} {s : Shared} {f : Value} {args : List (Bool × Sem Value)} {kws : List (Option Str × Sem Value)} {Q : Args → Shared → Prop} (hs : args.any (·.1) = false) (hall : kws.all (·.1.isSome) = true)
    (h : wpAny M A (spliced args) (fun vs s₁ => wpAny M A (evalAll (kws.map (·.2))) (fun ks s₂ => Q ⟨vs, (kws.filterMap (·.1)).zip ks⟩ s₂) E s₁) E s) : wpAny M A (evalArgs f true args kws) Q E s := by
  match args, hs, h with
  | [], _, h =>
    refine evalArgs_kw_nil hall ?_
    exact fun Γ p hΓ => (h Γ p hΓ : wpAny M A _ _ _ _) Γ p hΓ
  | (b, x) :: r, hs, h =>
    rw [List.any_cons, Bool.or_eq_false_iff] at hs
    obtain ⟨rfl, _⟩ := hs
    exact evalArgs_kw hall h

/-- what may be called by name -/
inductive KeepOk (c : Wd) : Value → Prop
  | builtin {id} : KeepOk c (.builtin id)
  | type {n} : KeepOk c (.type n)
  | own {f} : keepIn c.K f = true → KeepOk c f
theorem KeepOk.looks {f : Value} (k : KeepOk c f) (M : Model) (h : Heap) (X : c.K.In h) : ∃ k, (k = Keeper.frame ∨ k = Keeper.machine ∨ k = Keeper.boundFrame) ∧ Looks M h (keeperOf f) k := by
  cases k with
  | builtin => exact ⟨.machine, .inr (.inl rfl), Looks.of_pure rfl⟩
  | type => exact ⟨.machine, .inr (.inl rfl), Looks.of_pure rfl⟩
  | own hk => exact keeps_K hk h X
theorem backTo_any {pos : Pos} {es : List Expr} {env : Env} (h : es.any starred = false) : (backTo pos (starEach es env)).any (·.1) = false := by
  induction es with
  | nil => rfl
  | cons e r ih =>
    rw [List.any_cons, Bool.or_eq_false_iff] at h
    rw [starEach_plain h.1]
    show (false || _) = false
    rw [Bool.false_or]
    exact ih h.2
theorem TriAt.callWith (ok : c.Ok) {z : Bool} {k : Nat} {f : Value} {first : List Value} {rf vs : List V} {ks : List (Str × V)} {es : List Expr} {kws : List Keyword} {pos : Pos} {r : Out V} (hk : KeepOk c f) (hf : RepL ρ first rf)
    (ha : EvL c fr es m st vs st₁) (hkw : EvK c fr kws m st₁ ks st₂) (hc : Calls c z k (.glob f) (rf ++ vs) ks st₂ r st₃) (hlv : fr.fit z k) (hs : es.any starred = false := by rfl) :
    TriAt c fr Rep ρ (PySem.callWith pos f first (backTo pos (starEach es fr.env)) (backToKw pos (keywordEach kws fr.env))) m st r m st₃ := fun A s Q E hA I post => by
  obtain ⟨k1, k2, k3⟩ := hkw.1 pos
  have b1 := backTo_any (pos := pos) (env := fr.env) hs
  refine callWith_of (P := c.K.In) (by rw [b1, k2]; rfl) (fun h X => hk.looks _ h X) (evalArgs_gen b1 k1 ?_)
  refine ha ρ pos A s _ E hA I fun ρ₁ s₁ xs p n I₁ rxs => ?_
  refine hkw.2 ρ₁ pos A s₁ _ E hA I₁ fun ρ₂ s₂ ys p₂ n₂ I₂ rys => ⟨I₂.kin ok, ?_⟩
  rw [k3]
  exact wpAny_call (hc fr m ρ₂ f _ ys hlv rfl ((hf.mono (p.trans p₂)).append (rxs.mono p₂)) rys A s₂ Q E hA I₂ (post.after (p.trans p₂) (n.trans n₂)))
theorem TriAt.callWithE1 (ok : c.Ok) {f : Value} {first : List Value} {es : List Expr} {kws : List Keyword} {pos : Pos} {C : Exn} (hk : KeepOk c f)
    (ha : EvLE c fr es m st C st₁) (hkw : ∀ pos, (backToKw pos (keywordEach kws fr.env)).all (·.1.isSome) = true ∧ (backToKw pos (keywordEach kws fr.env)).any (·.1.isNone) = false) (hs : es.any starred = false := by rfl) :
    TriAt c fr Rep ρ (PySem.callWith pos f first (backTo pos (starEach es fr.env)) (backToKw pos (keywordEach kws fr.env))) m st (.exc C) m st₁ := fun A s Q E hA I post => by
  obtain ⟨k1, k2⟩ := hkw pos
  have b1 := backTo_any (pos := pos) (env := fr.env) hs
  exact callWith_of (P := c.K.In) (by rw [b1, k2]; rfl) (fun h X => hk.looks _ h X) (evalArgs_gen b1 k1 (ha ρ pos A s _ E hA I post))

/-- f(args) -/
theorem Ev.call (ok : c.Ok) {z : Bool} {k : Nat} {fn : Expr} {f : Value} {vs : List V} {ks : List (Str × V)} {es : List Expr} {kws : List Keyword} {pos : Pos} {r : Out V} (h1 : Ev c fr fn m st (.ok (.glob f)) st) (hk : KeepOk c f)
    (ha : EvL c fr es m st vs st₁) (hkw : EvK c fr kws m st₁ ks st₂) (hc : Calls c z k (.glob f) vs ks st₂ r st₃) (hlv : fr.fit z k) (hs : es.any starred = false := by rfl)
    (he : eval (.Call fn es kws pos) fr.env = (do PySem.callWith pos (← eval fn fr.env) [] (backTo pos (starEach es fr.env)) (backToKw pos (keywordEach kws fr.env))) := by rfl) :
    Ev c fr (.Call fn es kws pos) m st r st₃ := fun ρ => by
  rw [he]
  refine (h1 ρ).bind fun ρ₁ x p rx => ?_
  rw [show x = f from rx]
  exact TriAt.callWith ok hk .nil ha hkw hc hlv hs
theorem Ev.callE (ok : c.Ok) {fn : Expr} {f : Value} {es : List Expr} {kws : List Keyword} {pos : Pos} {C : Exn} (h1 : Ev c fr fn m st (.ok (.glob f)) st) (hk : KeepOk c f)
    (ha : EvLE c fr es m st C st₁) (hkw : ∀ pos, (backToKw pos (keywordEach kws fr.env)).all (·.1.isSome) = true ∧ (backToKw pos (keywordEach kws fr.env)).any (·.1.isNone) = false) (hs : es.any starred = false := by rfl)
    (he : eval (.Call fn es kws pos) fr.env = (do PySem.callWith pos (← eval fn fr.env) [] (backTo pos (starEach es fr.env)) (backToKw pos (keywordEach kws fr.env))) := by rfl) :
    Ev c fr (.Call fn es kws pos) m st (.exc C) st₁ := fun ρ => by
  rw [he]
  refine (h1 ρ).bind fun ρ₁ x p rx => ?_
  rw [show x = f from rx]
  exact TriAt.callWithE1 ok hk ha hkw hs

/-- o.name(..): what is called -/
def RepM (ρ : Rho) (x : Value × List Value) (y : Value × List V) : Prop := x.1 = y.1 ∧ RepL ρ x.2 y.2
def Meth (c : Wd) (fr : Fx) (st : Sto) (v : V) (name : Str) (f : Value) (first : List V) : Prop := ∀ m ρ x pl, Rep ρ x v → TriAt c fr RepM ρ (getMethod x name pl) m st (.ok (f, first)) m st
theorem Ev.meth (ok : c.Ok) {z : Bool} {k : Nat} {o : Expr} {name : Str} {apos : Pos} {v : V} {f : Value} {first vs : List V} {ks : List (Str × V)} {es : List Expr} {kws : List Keyword} {pos : Pos} {r : Out V} (h1 : Ev c fr o m st (.ok v) st₁) (hm : Meth c fr st₁ v name f first) (hk : KeepOk c f)
    (ha : EvL c fr es m st₁ vs st₂) (hkw : EvK c fr kws m st₂ ks st₃) (hc : Calls c z k (.glob f) (first ++ vs) ks st₃ r st') (hlv : fr.fit z k) (hs : es.any starred = false := by rfl)
    (he : ∃ pl : Sem Bool, eval (.Call (.Attribute o name apos) es kws pos) fr.env = (do
      let ov ← eval o fr.env
      standAt apos.atName
      let (f, first) ← holding [ov] (getMethod ov name pl)
      PySem.callWith pos f first (backTo pos (starEach es fr.env)) (backToKw pos (keywordEach kws fr.env))) := by exact ⟨_, rfl⟩) :
    Ev c fr (.Call (.Attribute o name apos) es kws pos) m st r st' := fun ρ => by
  obtain ⟨pl, he⟩ := he
  rw [he]
  refine (h1 ρ).bind fun ρ₁ x p rx => TriAt.standThen ((TriAt.holding (hm m ρ₁ x pl rx)).bind fun ρ₂ y p₂ ry => ?_)
  obtain ⟨g, fs⟩ := y
  obtain ⟨rfl, ry⟩ : g = f ∧ RepL ρ₂ fs first := ry
  exact TriAt.callWith ok hk ry ha hkw hc hlv hs
theorem Ev.methE (ok : c.Ok) {o : Expr} {name : Str} {apos : Pos} {v : V} {f : Value} {first : List V} {es : List Expr} {kws : List Keyword} {pos : Pos} {C : Exn} (h1 : Ev c fr o m st (.ok v) st₁) (hm : Meth c fr st₁ v name f first) (hk : KeepOk c f)
    (ha : EvLE c fr es m st₁ C st₂) (hkw : ∀ pos, (backToKw pos (keywordEach kws fr.env)).all (·.1.isSome) = true ∧ (backToKw pos (keywordEach kws fr.env)).any (·.1.isNone) = false) (hs : es.any starred = false := by rfl)
    (he : ∃ pl : Sem Bool, eval (.Call (.Attribute o name apos) es kws pos) fr.env = (do
      let ov ← eval o fr.env
      standAt apos.atName
      let (f, first) ← holding [ov] (getMethod ov name pl)
      PySem.callWith pos f first (backTo pos (starEach es fr.env)) (backToKw pos (keywordEach kws fr.env))) := by exact ⟨_, rfl⟩) :
    Ev c fr (.Call (.Attribute o name apos) es kws pos) m st (.exc C) st₂ := fun ρ => by
  obtain ⟨pl, he⟩ := he
  rw [he]
  refine (h1 ρ).bind fun ρ₁ x p rx => TriAt.standThen ((TriAt.holding (hm m ρ₁ x pl rx)).bind fun ρ₂ y p₂ ry => ?_)
  obtain ⟨g, fs⟩ := y
  obtain ⟨rfl, ry⟩ : g = f ∧ RepL ρ₂ fs first := ry
  exact TriAt.callWithE1 ok hk ha hkw hs

-- instances
theorem getL_of {es : List DictEntry} {fs : List (Str × V)} (r : RepE ρ es fs) {name : Str} : (∀ v, fs.lookup name = some v → ∃ x, getL name es = some (some x) ∧ Rep ρ x v) ∧ (fs.lookup name = none → getL name es = some none) := by
  have key : ∀ v, fs.lookup name = some v → ∃ e, es.find? (·.key.isStr name) = some e ∧ Rep ρ e.val v := by
    induction r with
    | nil => intro v h; cases h
    | @cons e n t v₀ es fs h1 h2 _ ih =>
      intro v h
      rw [List.lookup_cons] at h
      rw [List.find?_cons, h1]
      show ∃ e', (match (n == name) with | true => some e | false => _) = some e' ∧ _
      by_cases q : name = n
      · subst q
        simp only [beq_self_eq_true] at h ⊢
        cases h
        exact ⟨e, rfl, h2⟩
      · rw [beq_eq_false_iff_ne.mpr q] at h
        rw [beq_eq_false_iff_ne.mpr (Ne.symm q)]
        exact ih v h
  have nokey : fs.lookup name = none → es.find? (·.key.isStr name) = none ∧ es.any (·.refKey) = false := by
    clear key
    induction r with
    | nil => intro _; exact ⟨rfl, rfl⟩
    | @cons e n t v₀ es fs h1 h2 _ ih =>
      intro h
      rw [List.lookup_cons] at h
      have hr : e.refKey = false := by unfold DictEntry.refKey; rw [h1]
      rw [List.find?_cons, List.any_cons, h1, hr]
      show (match (n == name) with | true => some e | false => _) = none ∧ _
      by_cases q : name = n
      · subst q; simp at h
      · rw [beq_eq_false_iff_ne.mpr q] at h
        rw [beq_eq_false_iff_ne.mpr (Ne.symm q)]
        exact ⟨(ih h).1, by rw [Bool.false_or]; exact (ih h).2⟩
  constructor
  · intro v h
    obtain ⟨e, h1, h2⟩ := key v h
    exact ⟨e.val, by unfold getL; rw [h1], h2⟩
  · intro h
    obtain ⟨h1, h2⟩ := nokey h
    unfold getL
    rw [h1, h2]
    rfl
theorem Inv.inst {s : Shared} (I : Inv c fr ρ m st s) {n : Nat} {C : Addr} {fs : List (Str × V)} (h : st[n]? = some (.inst C fs)) {p : Addr × Addr} (hp : ρ[n]? = some p) :
    ∃ sl es k, InstAt s.heap p.1 ⟨.ref C, some p.2, .plain, sl⟩ C (some (dictOf es k)) ∧ RepE ρ es fs := by
  obtain ⟨sl, es, k, h1, h2, h3⟩ := I.store n _ p h hp
  exact ⟨sl, es, k, ⟨h1, rfl, rfl, h2⟩, h3⟩
theorem Meth.inst (ok : c.Ok) {n : Nat} {C f : Addr} {fs : List (Str × V)} {name : Str} (h : st[n]? = some (.inst C fs)) (hg : plainGet c.K C name = true) (hf : findIn c.K (.ref C) name = some (some (.ref f))) (ht : isFn c.K (.ref f) = true) (hl : fs.lookup name = none) :
    Meth c fr st (.obj n) name (.ref f) [.obj n] := fun m ρ x pl rx => by
  obtain ⟨p, hp, rfl⟩ := rx
  refine .look fun A s Q E _ I hQ => ?_
  obtain ⟨sl, es, k, IA, re⟩ := I.inst h hp
  exact method_fn (I.kin ok) IA (plainGet_of hg).1 (plainGet_of hg).2 hf (beq_iff_eq.mp ht) (by show (lookIn name (dictOf es k)).map _ = _; rw [lookIn_dict, (getL_of re).2 hl]; rfl) (hQ _ s.toks ⟨rfl, .cons ⟨p, hp, rfl⟩ .nil⟩)
def V.plain : V → Bool
  | .glob v => handedIn v
  | .undef => false
  | _ => true
theorem Rep.handed {x : Value} {v : V} (hv : v.plain = true) (r : Rep ρ x v) : handedIn x = true := by
  cases v <;> first | (cases hv; done) | (obtain ⟨t, rfl⟩ := r; rfl) | (obtain ⟨p, _, rfl⟩ := r; rfl) | (obtain rfl := r; first | rfl | exact hv)
/-- what o.name gives -/
def Get (c : Wd) (fr : Fx) (st : Sto) (v : V) (name : Str) (r : V) : Prop := ∀ m ρ x expr, Rep ρ x v → TriAt c fr Rep ρ (getAttr x name expr) m st (.ok r) m st
theorem Get.own (ok : c.Ok) {n : Nat} {C : Addr} {fs : List (Str × V)} {name : Str} {v : V} {attr : Option Value} (h : st[n]? = some (.inst C fs)) (hl : fs.lookup name = some v) (hg : plainGet c.K C name = true) (hh : hasDictIn c.K C = true) (ha : findIn c.K (.ref C) name = some attr) (hn : noGet c.K attr = true) (hv : v.plain = true := by rfl) :
    Get c fr st (.obj n) name v := fun m ρ x expr rx => by
  obtain ⟨p, hp, rfl⟩ := rx
  refine .look fun A s Q E _ I hQ => ?_
  obtain ⟨sl, es, k, IA, re⟩ := I.inst h hp
  obtain ⟨y, h1, h2⟩ := (getL_of re).1 v hl
  exact get_value (I.kin ok) IA (plainGet_of hg).1 (findObj_own hh ha hn h1) (h2.handed hv) (hQ _ _ h2)
theorem Get.cls (ok : c.Ok) {n : Nat} {C : Addr} {fs : List (Str × V)} {name : Str} {a : Value} {v : V} (h : st[n]? = some (.inst C fs)) (hl : fs.lookup name = none) (hg : plainGet c.K C name = true) (hh : hasDictIn c.K C = true) (ha : findIn c.K (.ref C) name = some (some a)) (hn : specialIn c.K a "__get__" = some none)
    (hv : handedIn a = true) (hc : copiedNames.contains name = false) (hr : ∀ ρ, Rep ρ a v) : Get c fr st (.obj n) name v := fun m ρ x expr rx => by
  obtain ⟨p, hp, rfl⟩ := rx
  refine .look fun A s Q E _ I hQ => ?_
  obtain ⟨sl, es, k, IA, re⟩ := I.inst h hp
  exact get_value (I.kin ok) IA (plainGet_of hg).1 (findObj_cls hh ha hn hv hc ((lookIn_dict name es k).trans ((getL_of re).2 hl))) hv (hQ _ _ (hr ρ))
theorem Ev.attr {o : Expr} {name : Str} {pos : Pos} {v r : V} (h1 : Ev c fr o m st (.ok v) st₁) (hg : Get c fr st₁ v name r) (he : attributeBase o name fr.env (eval o fr.env) = eval o fr.env := by rfl) : Ev c fr (.Attribute o name pos) m st (.ok r) st₁ := fun ρ => by
  rw [arm_eval_Attribute, he]
  refine (h1 ρ).bind fun ρ₁ x p rx => TriAt.standThen ((TriAt.holding (hg m ρ₁ x true rx)).bind fun ρ₂ y p₂ ry => ?_)
  intro A s Q E hA I post
  have := post ρ₂ s y (List.prefix_refl _) (Nxt.refl ..) I ry
  exact wpAny_bind (wpAny_letTemporaryGo (wpAny_pure this))
end
end Mine
end
section
set_option Elab.async false
set_option maxRecDepth 100000
set_option linter.unusedVariables false
namespace Mine
open PySem PySem.Spec PySem.Calls PyProof.Rows PySem.W

section
variable {c : Wd} {fr : Fx} {m m' m₁ m₂ : Loc} {st st' st₁ st₂ st₃ : Sto} {ρ : Rho} {s : Shared}

/-- an object is changed; the heap keeps the frame's names alone -/
theorem Inv.putNs (x : Inv c fr ρ m st s) {i : Nat} {o' : MObj} {p : Addr × Addr} (hp : ρ[i]? = some p) {h' : Heap} {mm : Str → Option Value}
    (hns : h'.Ns fr.env.locals mm) (hm : ∀ (i : Nat) (x : Str) (v : V), fr.names[i]? = some x → m[i]? = some v → v.isDef = true → ∃ y, mm x = some y ∧ Rep ρ y v)
    (k : ∀ b o, s.heap.get? b = some o → b ≠ p.1 → b ≠ p.2 → b ≠ fr.env.locals → h'.get? b = some o) (ho : HoldsAt h' ρ p.1 p.2 o') {tk' : Nat} : Inv c fr ρ m (st.set i o') { s with heap := h', toks := tk' } := by
  have mem : ∀ b, b = p.1 ∨ b = p.2 → b ∈ ads ρ := fun b hb => mem_ads.mpr ⟨p, List.mem_of_getElem? hp, hb⟩
  have kb : ∀ b o, s.heap.get? b = some o → b ∉ ads ρ → b ≠ fr.env.locals → h'.get? b = some o := fun b o e n1 n2 => k b o e (fun q => n1 (mem b (.inl q))) (fun q => n1 (mem b (.inr q))) n2
  have nb : ∀ b, c.base.get? b ≠ none → b ∉ ads ρ := fun b h q => h (x.fresh b q).1
  have nl : ∀ b ∈ fr.below, b ∉ ads ρ ∧ b ≠ fr.env.locals := fun b h => ⟨fun q => (x.fresh b q).2.2 h, fun q => x.locals.2 (q ▸ h)⟩
  refine ⟨fun b o e => kb b o (x.stays b o e) (nb b (by rw [e]; simp)) (fun q => by rw [q, x.locals.1] at e; cases e), ?_, ⟨mm, hns, hm⟩, x.cells, by simp [x.len], ?_, x.sep, x.fresh, x.locals, x.low, ?_, x.head, x.bare, ?_, x.out.keep fun o e => kb _ o e x.out.ads x.out.locals⟩
  · refine FunFrames.same x.ff fun b o e q f => ?_
    rcases x.frs_mem (fr := fr) q with rfl | q
    · obtain ⟨oL, es, ep, h1, h2, _⟩ := id hns
      exact ⟨oL, h1, fun vs e => by rw [h2] at e; cases e⟩
    · exact ⟨o, kb b o e (nl b q).1 (nl b q).2, f⟩
  · intro j o q h1 h2
    rcases getElem?_set_cases h1 with ⟨rfl, rfl⟩ | ⟨e, h1⟩
    · rw [hp] at h2; cases h2
      exact ho
    · have sp := x.sep i j p q hp h2 e
      have n1 := x.fresh q.1 (mem_ads.mpr ⟨q, List.mem_of_getElem? h2, .inl rfl⟩)
      have n2 := x.fresh q.2 (mem_ads.mpr ⟨q, List.mem_of_getElem? h2, .inr rfl⟩)
      exact (x.store j o q h1 h2).keep (fun ob e => k _ _ e (Ne.symm sp.1) (Ne.symm sp.2.2.1) n1.2.1) (fun ob e => k _ _ e (Ne.symm sp.2.1) (Ne.symm sp.2.2.2) n2.2.1)
  · intro b hb
    obtain ⟨⟨ob, h1, h2⟩, h3⟩ := x.below b hb
    exact ⟨⟨ob, kb b _ h1 (nl b hb).1 (nl b hb).2, h2⟩, h3⟩
  · intro rr e he
    obtain ⟨a, ob, vs, h1, h2, h3, h4⟩ := x.hd rr e he
    have no : ∀ b, (∃ o, s.heap.get? b = some o ∧ ∀ vs, o.data ≠ .fields vs) → a ≠ b := fun b h q => by
      obtain ⟨o, e1, e2⟩ := h
      rw [← q, h2] at e1; cases e1; exact e2 _ h3
    exact ⟨a, ob, vs, h1, kb _ _ h2 (fun q => no a (x.there q) rfl) (no _ x.locals_there), h3, h4⟩
theorem Nxt.putNs (x : Inv c fr ρ m st s) {i : Nat} {p : Addr × Addr} (hp : ρ[i]? = some p) {h' : Heap} (hns : ∃ o, h'.get? fr.env.locals = some o)
    (k : ∀ b o, s.heap.get? b = some o → b ≠ p.1 → b ≠ p.2 → b ≠ fr.env.locals → h'.get? b = some o) (k1 : ∃ o, h'.get? p.1 = some o) (k2 : ∃ o, h'.get? p.2 = some o) {tk' : Nat} : Nxt fr ρ ρ s { s with heap := h', toks := tk' } := by
  refine ⟨fun b o h h1 h2 h3 => ?_, fun b o h => ?_, fun _ h => .inl h, rfl⟩
  · have : h'.get? b = some o := k b o h (fun e => h1 (mem_ads.mpr ⟨p, List.mem_of_getElem? hp, .inl e⟩)) (fun e => h1 (mem_ads.mpr ⟨p, List.mem_of_getElem? hp, .inr e⟩)) h2
    exact ⟨fun _ => this, fun _ => ⟨o.slots, this⟩⟩
  · by_cases q1 : b = p.1
    · subst q1; exact k1
    by_cases q2 : b = p.2
    · subst q2; exact k2
    by_cases q3 : b = fr.env.locals
    · subst q3; exact hns
    exact ⟨o, k b o h q1 q2 q3⟩

/-- all that stands beside the base, the frame's names and d -/
def others (h base : Heap) (L d : Addr) : List (Addr × Obj) :=
  (List.range h.objs.size).filterMap fun b => if b = L ∨ b = d ∨ (base.get? b).isSome = true then none else (h.get? b).map fun o => (b, o)
theorem mem_others {h base : Heap} {L d : Addr} {q : Addr × Obj} : q ∈ others h base L d ↔ h.get? q.1 = some q.2 ∧ q.1 ≠ L ∧ q.1 ≠ d ∧ base.get? q.1 = none := by
  unfold others
  rw [List.mem_filterMap]
  constructor
  · rintro ⟨b, hb, e⟩
    split at e
    · cases e
    · rename_i n
      obtain ⟨o, h1, h2⟩ := Option.map_eq_some_iff.mp e
      subst h2
      refine ⟨h1, fun q => n (.inl q), fun q => n (.inr (.inl q)), ?_⟩
      cases z : base.get? b with
      | none => rfl
      | some o => exact absurd (.inr (.inr (by rw [z]; rfl))) n
  · rintro ⟨h1, h2, h3, h4⟩
    refine ⟨q.1, List.mem_range.mpr (Heap.lt_size h1), ?_⟩
    rw [if_neg (by rintro (e | e | e); exact h2 e; exact h3 e; rw [h4] at e; cases e), h1]
    rfl

/-- x.name = v -/
theorem putL_rep {es : List DictEntry} {fs : List (Str × V)} (r : RepE ρ es fs) {name : Str} {hsh : Int} {tk : Tok} {x : Value} {v : V} (rx : Rep ρ x v) (hn : fs.lookup name = none) : RepE ρ (putL name hsh (.str name tk) x es) (fs ++ [(name, v)]) := by
  induction r with
  | nil => exact .cons rfl rx .nil
  | @cons e n t v₀ es fs h1 h2 _ ih =>
    rw [List.lookup_cons] at hn
    by_cases q : name = n
    · subst q; simp at hn
    · rw [beq_eq_false_iff_ne.mpr q] at hn
      unfold putL
      rw [h1]
      rw [if_neg (show ¬ ((Value.str n t).isStr name = true) from by show ¬ ((n == name) = true); rw [beq_eq_false_iff_ne.mpr (Ne.symm q)]; decide)]
      exact .cons h1 h2 (ih hn)
theorem RepE.len {es : List DictEntry} {fs : List (Str × V)} (r : RepE ρ es fs) : es.length = fs.length := by
  induction r with
  | nil => rfl
  | cons _ _ _ ih => simp [ih]
theorem putL_len (name : Str) (hsh : Int) (key v : Value) : ∀ es : List DictEntry, (putL name hsh key v es).length ≤ es.length + 1
  | [] => Nat.le_refl _
  | e :: r => by
    unfold putL
    split
    · simp
    · simpa using putL_len name hsh key v r
theorem TriAt.setNew (ok : c.Ok) {n : Nat} {C : Addr} {fs : List (Str × V)} {name : Str} {x y : Value} {v : V} (h : st[n]? = some (.inst C fs)) (hl : fs.lookup name = none) (hz : fs.length ≤ 900)
    (hs : findIn c.K (.ref C) "__setattr__" = some (some (.builtin "object.__setattr__"))) (hp : plainOver c.K C = true) (ht : takerIn c.K C name = some none) (hh : hasDictIn c.K C = true) (rx : Rep ρ x (.obj n)) (ry : Rep ρ y v) :
    TriAt c fr RepU ρ (setAttr x name y) m st (.ok ()) m (st.set n (.inst C (fs ++ [(name, v)]))) := fun A s Q E hA I post => by
  obtain ⟨p, hp', rfl⟩ := rx
  obtain ⟨sl, es, k, IA, re⟩ := I.inst h hp'
  obtain ⟨mm, hn, hm⟩ := I.ns
  have F : Fr c.base fr.env.locals s.heap mm := ⟨hn, I.stays, I.low⟩
  have f1 := I.fresh p.1 (mem_ads.mpr ⟨p, List.mem_of_getElem? hp', .inl rfl⟩)
  have f2 := I.fresh p.2 (mem_ads.mpr ⟨p, List.mem_of_getElem? hp', .inr rfl⟩)
  have hd2 : s.heap.get? p.2 = some (dictOf es k) := IA.dict
  have N : News c.base fr.env.locals s.heap ((p.2, dictOf es k) :: others s.heap c.base fr.env.locals p.2) := fun q hq => by
    rcases List.mem_cons.mp hq with rfl | hq
    · exact ⟨hd2, f2.2.1, f2.1⟩
    · have z := mem_others.mp hq
      exact ⟨z.1, z.2.1, z.2.2.2⟩
  have ne12 : p.1 ≠ p.2 := fun e => by
    have a := IA.at_
    rw [e, hd2] at a
    cases a
  refine set_dict F ok.kin N IA rfl hs hp ht hh (by rw [(getL_of re).2 hl]; rfl) rfl (.head fun q hq => (mem_others.mp hq).2.2.1) ?_ fun h' F' N' => ?_
  · have := putL_len name (PyData.keyHash c.w.params name) (.str name (s.toks + 1)) y es
    rw [re.len] at this
    omega
  · have kk : ∀ b o, s.heap.get? b = some o → b ≠ p.2 → b ≠ fr.env.locals → h'.get? b = some o := fun b o e n2 n3 => by
      cases z : c.base.get? b with
      | none => exact (N' (b, o) (.tail _ (mem_others.mpr ⟨e, n3, n2, z⟩))).1
      | some o' => have e' := I.stays b o' z; rw [e] at e'; cases e'; exact F'.keep b o z
    have d' := (N' _ (.head _)).1
    have a' : h'.get? p.1 = some ⟨.ref C, some p.2, .plain, sl⟩ := kk p.1 _ IA.at_ ne12 f1.2.1
    obtain ⟨oL, es', ep', e1, e2, e3⟩ := id F'.ns
    exact post ρ _ () (List.prefix_refl ρ) (Nxt.putNs I hp' ⟨oL, e1⟩ (fun b o e n1 n2 n3 => kk b o e n2 n3) ⟨_, a'⟩ ⟨_, d'⟩)
      (I.putNs (o' := .inst C (fs ++ [(name, v)])) hp' F'.ns hm (fun b o e n1 n2 n3 => kk b o e n2 n3) ⟨sl, _, _, a', d', putL_rep re ry hl⟩) trivial

/-- the class's own looks -/
def setOk (K : Frag) (C : Addr) (name : Str) : Bool :=
  findIn K (.ref C) "__setattr__" == some (some (.builtin "object.__setattr__")) && plainOver K C && takerIn K C name == some none && hasDictIn K C
theorem Ex1.setNew (ok : c.Ok) {o e : Expr} {name : Str} {apos pos : Pos} {n : Nat} {C : Addr} {fs : List (Str × V)} {v : V} (h1 : Ev c fr e m st (.ok v) st₁) (h2 : Ev c fr o m st₁ (.ok (.obj n)) st₁) (h : st₁[n]? = some (.inst C fs)) (hl : fs.lookup name = none) (hz : fs.length ≤ 900)
    (hs : setOk c.K C name = true) (hsw : swapsWith e (some (.Attribute o name apos)) pos.line fr.env = pure false := by rfl) (hss : swappedStores [.Attribute o name apos] e fr.env = pure none := by rfl) : Ex1 c fr (.Assign [.Attribute o name apos] e pos) m st (.ok .next) m (st₁.set n (.inst C (fs ++ [(name, v)]))) := fun ρ => by
  simp only [setOk, Bool.and_eq_true, beq_iff_eq] at hs
  obtain ⟨⟨⟨s1, s2⟩, s3⟩, s4⟩ := hs
  rw [arm_exec_Assign]
  show TriAt c fr RepF ρ (standAt pos >>= fun _ => swapsWith e (some (.Attribute o name apos)) pos.line fr.env >>= fun b => if b = true then _ else _) _ _ _ _ _
  rw [hsw]
  refine TriAt.standThen ?_
  show TriAt c fr RepF ρ (eval e fr.env >>= fun v => swappedStores [.Attribute o name apos] e fr.env >>= fun sw => assignStores fr.env v sw ((assignEach [.Attribute o name apos] fr.env).map (·.2))) _ _ _ _ _
  rw [hss]
  refine (h1 ρ).bind fun ρ₁ y p ry => ?_
  show TriAt c fr RepF ρ₁ ((do
    let ov ← holding [y] (eval o fr.env)
    standAt apos.atName
    holding [y, ov] (setAttr ov name y)
    release [y, ov] []) >>= fun _ => pure .next) _ _ _ _ _
  refine TriAt.bind (rep := RepU) (b := ()) ((TriAt.holding (h2 ρ₁)).bind fun ρ₂ x p₂ rx => TriAt.standThen ((TriAt.holding (TriAt.setNew ok h hl hz s1 s2 s3 s4 rx (ry.mono p₂))).bind fun ρ₃ _ p₃ _ => ?_)) fun ρ₄ _ _ _ => .pure trivial
  intro A s Q E hA I post Γ p hΓ
  rw [Sem.wp_release]
  exact post ρ₃ s () (List.prefix_refl _) (Nxt.refl ..) I trivial

/-- C(args): __init__ is a def -/
theorem Calls.make (ok : c.Ok) {z : Bool} {k : Nat} {C fI : Addr} {args : List V} {kw : List (Str × V)} {r : Out V} {r' : Out V} (hm : makesIn c.K C = true) (hi : findIn c.K (.ref C) "__init__" = some (some (.ref fI))) (hf : isFn c.K (.ref fI) = true)
    (hc : Calls c z k (.glob (.ref fI)) (.obj st.length :: args) kw (st ++ [.inst C []]) r st') (hr : (r = .ok .none ∧ r' = .ok (.obj st.length)) ∨ ∃ X, r = .exc X ∧ r' = .exc X) : Calls c z (k + 1) (.glob (.ref C)) args kw st r' st' := by
  intro fr m ρ x xs ks hlv rx rxs rks A s Q E hA I post
  obtain rfl : x = .ref C := rx
  obtain ⟨hh, g, d, t, os⟩ := s
  have X := I.kin ok
  have e1 : hh.get? hh.objs.size = none := Heap.get?_none_of_le (Nat.le_refl _)
  have e2 : hh.get? (hh.objs.size + 1) = none := Heap.get?_none_of_le (Nat.le_succ _)
  have kp : ∀ b o, hh.get? b = some o → ((hh.push emptyDict).push (instObj C hh.objs.size)).get? b = some o := fun b o e => Heap.get?_push_of_some _ (Heap.get?_push_of_some _ e)
  have g1 : ((hh.push emptyDict).push (instObj C hh.objs.size)).get? hh.objs.size = some emptyDict := Heap.get?_push_of_some _ (Heap.get?_push_size _ rfl)
  have g2 : ((hh.push emptyDict).push (instObj C hh.objs.size)).get? (hh.objs.size + 1) = some (instObj C hh.objs.size) := by
    have := Heap.get?_push_size (hh.push emptyDict) (o := instObj C hh.objs.size) rfl
    rwa [Heap.size_push] at this
  have ho : HoldsAt ((hh.push emptyDict).push (instObj C hh.objs.size)) (ρ ++ [(hh.objs.size + 1, hh.objs.size)]) (hh.objs.size + 1) hh.objs.size (.inst C []) := ⟨_, [], 0, g2, g1, .nil⟩
  have I' := I.make kp e2 e1 ho I.bare (d' := d) (tk' := t) (os' := os)
  have N' : Nxt fr ρ (ρ ++ [(hh.objs.size + 1, hh.objs.size)]) ⟨hh, g, d, t, os⟩ ⟨(hh.push emptyDict).push (instObj C hh.objs.size), g, d, t, os⟩ := Nxt.make kp e2 e1
  have pp := prefix_add ρ (hh.objs.size + 1, hh.objs.size)
  refine make_core (makes_of X hm) (looks_findIn X hi) (fun self => bind_fn X self (beq_iff_eq.mp hf)) (.inl rfl) ?_
  have hA' : ({ fr with lv := fr.lv + 2 } : Fx).At (A.under (.builtin "type.__call__" ⟨.ref C :: xs, (kw.map (·.1)).zip ks⟩)) := by
    refine ⟨?_, hA.handled, ?_, ?_⟩
    · show pushEnvs [] A.frames = _
      exact hA.frames
    · have := hA.depth
      have w : (Code.builtin "type.__call__" ⟨.ref C :: xs, (kw.map (·.1)).zip ks⟩).weight = 1 := by
        show 0 + 1 + (if (Code.builtin "type.__call__" ⟨.ref C :: xs, (kw.map (·.1)).zip ks⟩).isGuard then 1 else 0) + 0 = 1
        rw [show (Code.builtin "type.__call__" ⟨.ref C :: xs, (kw.map (·.1)).zip ks⟩).isGuard = false from by show guardIds.contains "type.__call__" = false; decide +kernel]
        rfl
      show A.depth + (Code.builtin "type.__call__" ⟨.ref C :: xs, (kw.map (·.1)).zip ks⟩).weight ≤ fr.lv + 2
      rw [w]; omega
    · have := hA.units
      show A.units + 1 ≤ fr.lv + 2
      omega
  have ln : (ρ ++ [(hh.objs.size + 1, hh.objs.size)])[st.length]? = some (hh.objs.size + 1, hh.objs.size) := by rw [← I.len]; simp
  refine codeAny_mono (hc { fr with lv := fr.lv + 2 } m (ρ ++ [(hh.objs.size + 1, hh.objs.size)]) (.ref fI) (.ref (hh.objs.size + 1) :: xs) ks ⟨(by show fr.lv + 2 + 20 * k ≤ 900; have := hlv.lv; omega), hlv.rs, hlv.z⟩ rfl (.cons ⟨_, ln, rfl⟩ (rxs.mono pp)) (rks.mono pp) _ _ (fun v s' => v = .none ∧ Q (.ref (hh.objs.size + 1)) s') E hA' I'.toLv ?_) fun r s' z => ?_
  · rcases hr with ⟨rfl, rfl⟩ | ⟨X, rfl, rfl⟩
    · intro ρ' s' y p n I'' ry
      refine ⟨ry, ?_⟩
      obtain ⟨l, rfl⟩ := p
      exact post _ s' _ (pp.trans ⟨l, rfl⟩) (N'.trans n.lv) I''.lv ⟨_, by rw [List.getElem?_append_left (List.getElem?_eq_some_iff.mp ln).1]; exact ln, rfl⟩
    · intro ρ' s' e p n I'' h1 h2
      exact post ρ' s' e (pp.trans p) (N'.trans n.lv) I''.lv (N'.noneOf h1) (h2.sooner fun b hb => N'.noneOf hb)
  · rcases r with e | (_ | _ | _ | v)
    · exact z
    · exact z
    · exact z
    · exact z
    · exact z
end
end Mine
end
section
set_option Elab.async false
set_option maxRecDepth 100000
set_option linter.unusedVariables false
namespace Mine
open PySem PySem.Spec PySem.Calls PyProof.Rows PySem.W

section
variable {c : Wd} {fr : Fx} {m m' m₁ m₂ : Loc} {st st' st₁ st₂ st₃ : Sto} {ρ : Rho} {s : Shared}

-- a body and what comes behind
theorem execs_append (env : Env) : ∀ (b r : List Stmt), execs (b ++ r) env = (do match ← execs b env with | .next => execs r env | f => pure f)
  | [], r => rfl
  | x :: b, r => by
    show execs (x :: (b ++ r)) env = _
    rw [execs_cons, execs_cons]
    show _ = (exec x env >>= fun f => (match f with | .next => execs b env | f => pure f)) >>= _
    rw [LawfulMonad.bind_assoc]
    refine congrArg _ (funext fun f => ?_)
    cases f with
    | next => exact execs_append env b r
    | _ => rfl
theorem Ex.ofAppend {b r : List Stmt} {e : Expr} {d : List Stmt} {pos : Pos} {o : Out FV} {t : Bool} (h1 : Bt c fr e m st (.ok t) st₁) (h2 : Ex c fr ((if t then b else d) ++ r) m st₁ o m₂ st₂) : Ex c fr (.If e b d pos :: r) m st o m₂ st₂ := fun ρ => by
  have e : execs (.If e b d pos :: r) fr.env = (standAt pos >>= fun _ => isTrue e fr.env (eval e fr.env) >>= fun t => execs ((if t then b else d) ++ r) fr.env) := by
    rw [execs_cons, exec_If]
    show (standAt pos >>= fun _ => isTrue e fr.env (eval e fr.env) >>= fun t => if t = true then execs b fr.env else execs d fr.env) >>= _ = _
    rw [LawfulMonad.bind_assoc]
    refine congrArg _ (funext fun _ => ?_)
    rw [LawfulMonad.bind_assoc]
    refine congrArg _ (funext fun t => ?_)
    cases t with
    | true => exact (execs_append fr.env b r).symm
    | false => exact (execs_append fr.env d r).symm
  rw [e]
  refine TriAt.standThen ((h1 ρ).bind fun ρ₁ x p rx => ?_)
  rw [show x = t from rx]
  exact h2 ρ₁
/-- what a body comes to -/
def ExP (c : Wd) (fr : Fx) (b : List Stmt) (m : Loc) (st : Sto) (P : Out FV → Loc → Sto → Prop) : Prop := ∃ o m' st', Ex c fr b m st o m' st' ∧ P o m' st'
variable {P : Out FV → Loc → Sto → Prop}
theorem ExP.nil (h : P (.ok .next) m st) : ExP c fr [] m st P := ⟨_, _, _, .nil, h⟩
theorem ExP.step {b : Stmt} {r : List Stmt} (h1 : Ex1 c fr b m st (.ok .next) m₁ st₁) (h2 : ExP c fr r m₁ st₁ P) : ExP c fr (b :: r) m st P := by
  obtain ⟨o, m', st', h, hP⟩ := h2
  exact ⟨o, m', st', .cons h1 h, hP⟩
theorem ExP.ret {e : Expr} {pos : Pos} {r : List Stmt} {v : V} (h : Ev c fr e m st (.ok v) st₁) (hP : P (.ok (.ret v)) m st₁) : ExP c fr (.Return (some e) pos :: r) m st P := ⟨_, _, _, .stop (by intro e; cases e) (.ret h), hP⟩
theorem ExP.retE {e : Expr} {pos : Pos} {r : List Stmt} {C : Exn} (h : Ev c fr e m st (.exc C) st₁) (hP : P (.exc C) m st₁) : ExP c fr (.Return (some e) pos :: r) m st P := ⟨_, _, _, .stopE (.retE h), hP⟩
theorem ExP.stop {b : Stmt} {r : List Stmt} {f : FV} (h : Ex1 c fr b m st (.ok f) m₁ st₁) (hf : f ≠ .next) (hP : P (.ok f) m₁ st₁) : ExP c fr (b :: r) m st P := ⟨_, _, _, .stop hf h, hP⟩
theorem ExP.exc {b : Stmt} {r : List Stmt} {C : Exn} (h : Ex1 c fr b m st (.exc C) m₁ st₁) (hP : P (.exc C) m₁ st₁) : ExP c fr (b :: r) m st P := ⟨_, _, _, .stopE h, hP⟩
theorem ExP.ite {e : Expr} {b d r : List Stmt} {pos : Pos} {t : Bool} (h : Bt c fr e m st (.ok t) st₁) (h1 : t = true → ExP c fr (b ++ r) m st₁ P) (h2 : t = false → ExP c fr (d ++ r) m st₁ P) : ExP c fr (.If e b d pos :: r) m st P := by
  cases t with
  | true =>
    obtain ⟨o, m', st', q, hP⟩ := h1 rfl
    exact ⟨o, m', st', .ofAppend h q, hP⟩
  | false =>
    obtain ⟨o, m', st', q, hP⟩ := h2 rfl
    exact ⟨o, m', st', .ofAppend h q, hP⟩
theorem ExP.mono {b : List Stmt} {P' : Out FV → Loc → Sto → Prop} (h : ExP c fr b m st P) (k : ∀ o m st, P o m st → P' o m st) : ExP c fr b m st P' := by
  obtain ⟨o, m', st', h, hP⟩ := h
  exact ⟨o, m', st', h, k _ _ _ hP⟩


-- displays
theorem holds_new {h : Heap} {xs : List Value} {o : Obj} (ho : o.isFreed = false) : (h.push o).get? h.objs.size = some o := Heap.get?_push_size _ ho
theorem TriAt.newTuple {xs : List Value} {vs : List V} (r : RepL ρ xs vs) (hz : vs.length ≤ sizeLine) : TriAt c fr Rep ρ (newTuple xs) m st (.ok (.obj st.length)) m (st ++ [.tuple vs]) :=
  .makes fun A s Q E hA I h => wpAny_newTuple (h (s.heap.objs.size, s.heap.objs.size) _ _ (fun b o e => Heap.get?_push_of_some _ e) (Heap.get?_none_of_le (Nat.le_refl _)) (Heap.get?_none_of_le (Nat.le_refl _))
    ⟨xs, ⟨_, Heap.get?_push_size _ rfl, rfl, _, rfl⟩, r.mono (prefix_add _ _), rfl⟩) (by rw [r.length]; exact hz)
theorem TriAt.newList {xs : List Value} {vs : List V} (r : RepL ρ xs vs) (hz : vs.length ≤ sizeLine) : TriAt c fr Rep ρ (newList xs) m st (.ok (.obj st.length)) m (st ++ [.list vs]) :=
  .makes fun A s Q E hA I h => wpAny_newList (h (s.heap.objs.size, s.heap.objs.size) _ _ (fun b o e => Heap.get?_push_of_some _ e) (Heap.get?_none_of_le (Nat.le_refl _)) (Heap.get?_none_of_le (Nat.le_refl _))
    ⟨xs, ⟨_, Heap.get?_push_size _ rfl, rfl, _, rfl⟩, r.mono (prefix_add _ _), rfl⟩) (by rw [r.length]; exact hz)
theorem Ev.tuple {es : List Expr} {x1 : Nat} {pos : Pos} {vs : List V} (h : EvL c fr es m st vs st₁) (hz : vs.length ≤ 1000) : Ev c fr (.Tuple es x1 pos) m st (.ok (.obj st₁.length)) (st₁ ++ [.tuple vs]) := fun ρ => by
  rw [arm_eval_Tuple]
  exact TriAt.standThen ((h ρ pos).bind fun ρ₁ xs p rxs => .newTuple rxs (Nat.le_trans hz (by decide)))
theorem Ev.tupleE {es : List Expr} {x1 : Nat} {pos : Pos} {C : Exn} (h : EvLE c fr es m st C st₁) : Ev c fr (.Tuple es x1 pos) m st (.exc C) st₁ := fun ρ => by
  rw [arm_eval_Tuple]
  exact TriAt.standThen ((h ρ pos).bindE)
theorem Ev.list {es : List Expr} {pos : Pos} {vs : List V} (h : EvL c fr es m st vs st₁) (hz : vs.length ≤ 1000) : Ev c fr (.List es pos) m st (.ok (.obj st₁.length)) (st₁ ++ [.list vs]) := fun ρ => by
  rw [arm_eval_List]
  exact TriAt.standThen ((h ρ pos).bind fun ρ₁ xs p rxs => .newList rxs (Nat.le_trans hz (by decide)))

-- o[i]
def Item (c : Wd) (fr : Fx) (st : Sto) (o i : V) (r : Out V) (st' : Sto) : Prop := ∀ m ρ x y value slice, Rep ρ x o → Rep ρ y i → (∀ l u p, slice ≠ .Slice l u none p) → TriAt c fr Rep ρ (subscriptTail value slice x y) m st r m st'
def noSlice : Expr → Bool
  | .Slice _ _ none _ => false
  | _ => true
theorem noSlice_of {e : Expr} (h : noSlice e = true) : ∀ l u p, e ≠ .Slice l u none p := fun l u p q => by subst q; cases h
theorem subscripted_plain {e : Expr} (h : ∀ l u p, e ≠ .Slice l u none p) (o i : Value) : subscripted e false o i = operate [o, i] (getItem o i) := by
  unfold subscripted
  split
  · exact absurd rfl (h _ _ _)
  · rename_i q; cases q
  · rfl
theorem Ev.sub {e i : Expr} {pos : Pos} {o k : V} {r : Out V} (h1 : Ev c fr e m st (.ok o) st₁) (h2 : Ev c fr i m st₁ (.ok k) st₂) (h3 : Item c fr st₂ o k r st₃) (hs : noSlice i = true := by rfl) : Ev c fr (.Subscript e i pos) m st r st₃ := fun ρ => by
  rw [eval_Subscript]
  refine (h1 ρ).bind fun ρ₁ x p rx => (TriAt.holding (h2 ρ₁)).bind fun ρ₂ y p₂ ry => TriAt.standThen ?_
  exact h3 m ρ₂ x y e i (rx.mono p₂) ry (noSlice_of hs)
theorem Item.gtup {t : Addr} {ob : Obj} {n' : Nat} {items : Array Value} {i : Int} {v : Value} {r : V} (ok : c.Ok) (hK : c.K.lookup t = some ob) (hc : ob.cls = .type "tuple") (hd : ob.data = .seq items n') (h0 : 0 ≤ i) (h1 : i < 2 ^ 63) (h2 : i < items.size) (hx : items[i.toNat]? = some v) (hr : ∀ ρ, Rep ρ v r) :
    Item c fr st (.glob (.ref t)) (.int i) (.ok r) st := fun m ρ x y value slice rx ry hs => by
  obtain rfl : x = .ref t := rx
  obtain ⟨u, rfl⟩ := ry
  refine .look fun A s Q E _ I h => ?_
  have ht : IsTup s.heap t items := ⟨ob, I.kin ok _ _ hK, hc, _, hd⟩
  exact tail_any ht.typeIs slot_tuple_getitem.lookup (getItem_tuple ht (by omega) h1 (seqIndex_of h0 h2) hx (h _ s.toks (hr ρ))) (subscripted_plain hs _ _)
theorem Item.list {n : Nat} {l : List V} {i : Int} {v : V} (ho : st[n]? = some (.list l)) (h0 : 0 ≤ i) (h1 : i < 2 ^ 63) (hx : l[i.toNat]? = some v) : Item c fr st (.obj n) (.int i) (.ok v) st := fun m ρ x y value slice rx ry hs => by
  obtain ⟨p, hp, rfl⟩ := rx
  obtain ⟨u, rfl⟩ := ry
  refine .look fun A s Q E _ I h => ?_
  obtain ⟨xs, hl, rl, _⟩ := I.store n _ p ho hp
  obtain ⟨y, hy, ry⟩ := rl.get hx
  exact tail_any hl.typeIs slot_list_getitem.lookup (wpAny_getItem_list hl h0 h1 (by simpa using hy) (h y s.toks ry)) (subscripted_plain hs _ _)
theorem Item.tuple {n : Nat} {l : List V} {i : Int} {v : V} (ho : st[n]? = some (.tuple l)) (h0 : 0 ≤ i) (h1 : i < 2 ^ 63) (hx : l[i.toNat]? = some v) : Item c fr st (.obj n) (.int i) (.ok v) st := fun m ρ x y value slice rx ry hs => by
  obtain ⟨p, hp, rfl⟩ := rx
  obtain ⟨u, rfl⟩ := ry
  refine .look fun A s Q E _ I h => ?_
  obtain ⟨xs, hl, rl, _⟩ := I.store n _ p ho hp
  obtain ⟨y, hy, ry⟩ := rl.get hx
  have hlt : i.toNat < xs.length := (List.getElem?_eq_some_iff.mp hy).1
  exact tail_any hl.typeIs slot_tuple_getitem.lookup (getItem_tuple hl (by omega) h1 (seqIndex_of h0 (by simp; omega)) (by simpa using hy) (h y s.toks ry)) (subscripted_plain hs _ _)

-- o[a:b]
def Part : V → Option Int → Prop
  | .none, none => True
  | .int i, some j => i = j
  | _, _ => False
theorem Part.is {x : Value} {v : V} {o : Option Int} (h : Part v o) (r : Rep ρ x v) : IsPart x o := by
  cases v <;> cases o <;> first | exact h.elim | skip
  · rw [show x = .none from r]; exact .none
  · obtain ⟨t, rfl⟩ := r
    have e : _ = _ := h
    subst e
    exact .int _ _
def EvO (c : Wd) (fr : Fx) (e : Option Expr) (m : Loc) (st : Sto) (r : V) (st' : Sto) : Prop := ∀ ρ, TriAt c fr Rep ρ (valueOrNone (evalOpt e fr.env)) m st (.ok r) m st'
theorem EvO.none : EvO c fr Option.none m st .none st := fun ρ => .pure rfl
theorem EvO.some {e : Expr} {v : V} (h : Ev c fr e m st (.ok v) st₁) : EvO c fr (Option.some e) m st v st₁ := fun ρ => h ρ
/-- the slice at hand is a new record of three -/
def Cut (c : Wd) (fr : Fx) (st : Sto) (o lo hi : V) (r : Out V) (st' : Sto) : Prop := ∀ m ρ x y z value slice (A : Around) (s : Shared) (Q : Value → Shared → Prop) (E : Value → Shared → Prop) (sl : Addr), Rep ρ x o → Rep ρ y lo → Rep ρ z hi → (∀ i b, subscripted slice b x i = operate [i, x] (getItem x i)) → fr.At A → Inv c fr ρ m st s → s.heap.IsSliceOf sl y z .none →
  Post c fr Rep ρ s r m st' Q E → wpAny (model c.prog c.w) A (subscriptTail value slice x (.ref sl)) Q E s
theorem Ev.cut {e : Expr} {lo hi : Option Expr} {pos p : Pos} {o a b : V} {r : Out V} (h1 : Ev c fr e m st (.ok o) st₁) (h2 : EvO c fr lo m st₁ a st₂) (h3 : EvO c fr hi m st₂ b st₂) (h4 : Cut c fr st₂ o a b r st₃) : Ev c fr (.Subscript e (.Slice lo hi Option.none p) pos) m st r st₃ := fun ρ => by
  rw [eval_Subscript, arm_eval_Slice]
  refine (h1 ρ).bind fun ρ₁ x p rx => ?_
  intro A s Q E hA I post
  refine wpAny_bind (wpAny_holding ?_)
  refine wpAny_bind (h2 ρ₁ A s _ E hA I fun ρ₂ s₂ y p₂ n₂ I₂ ry => ?_)
  refine wpAny_bind (wpAny_holding (h3 ρ₂ A s₂ _ E hA I₂ fun ρ₃ s₃ z p₃ n₃ I₃ rz => ?_))
  refine wpAny_bind (wpAny_holding (wpAny_pure ?_))
  have k : ∀ b o, s₃.heap.get? b = some o → (s₃.heap.push { cls := .type "slice", data := .fields #[y, z, .none] }).get? b = some o := fun b o e => Heap.get?_push_of_some _ e
  refine wpAny_newObj_type (wpAny_bind (wpAny_standAt ?_))
  exact h4 m ρ₃ x y z e _ A _ Q E s₃.heap.objs.size ((rx.mono p₂).mono p₃) (ry.mono p₃) rz (fun i b => rfl) hA (I₃.grow k I₃.bare) (Heap.IsSliceOf.new _ _ _ _) (post.after (p₂.trans p₃) (n₂.trans (n₃.trans (Nxt.grow k))))
def cutB (b : Array UInt8) (lo hi : Option Int) : Array UInt8 := KBy.picked b lo hi
theorem Cut.bytes {b : Array UInt8} {lo hi : V} {i j : Option Int} (hi' : Part lo i) (hj : Part hi j) (hz : b.size ≤ 100000) : Cut c fr st (.bytes b) lo hi (.ok (.bytes (cutB b i j))) st := fun m ρ x y z value slice A s Q E sl rx ry rz hs hA I hsl post => by
  obtain ⟨t, rfl⟩ := rx
  refine tail_any (typeIs_bytes _ _ _) FB.slot_bytes_getitem.lookup (getItem_meets (typeIs_bytes _ _ _) (by decide) FB.slot_bytes_getitem FB.entry_bytes_getitem (FB.args_bytes_getitem_2 _ _) (KBc.meets_slice2 b t _ (hi'.is ry) (hj.is rz)) ⟨hsl, ?_, fun t' k => ?_⟩) (hs _ _)
  · exact Nat.le_trans (KBc.size_picked_le b i j) (Nat.le_trans hz (by decide))
  · exact post ρ _ _ (List.prefix_refl _) (Nxt.grow fun _ _ e => e) (I.grow (fun _ _ e => e) I.bare) ⟨t', rfl⟩

theorem Part.opt {x : Value} {v : V} {o : Option Int} (h : Part v o) (r : Rep ρ x v) : ∃ q : Option (Int × Tok), x = partValue q ∧ q.map (·.1) = o := by
  cases v <;> cases o <;> first | exact h.elim | skip
  · rw [show x = .none from r]; exact ⟨none, rfl, rfl⟩
  · obtain ⟨t, rfl⟩ := r
    have e : _ = _ := h
    subst e
    exact ⟨some (_, t), rfl, rfl⟩
theorem Cut.str {b : Str} {lo hi : V} {i j : Option Int} (hi' : Part lo i) (hj : Part hi j) (hz : b.length ≤ 100000) : Cut c fr st (.str b) lo hi (.ok (.str (Txt.slice b i j))) st := fun m ρ x y z value slice A s Q E sl rx ry rz hs hA I hsl post => by
  obtain ⟨t, rfl⟩ := rx
  obtain ⟨q, rfl, rfl⟩ := hi'.opt ry
  obtain ⟨q', rfl, rfl⟩ := hj.opt rz
  refine tail_any (typeIs_str _ _ _) F.slot_str_getitem.lookup (wpAny_getItem_str_slice (l := q) (u := q') (st := none) hsl rfl (post_val_or_str ⟨Nat.le_trans (Txt.slice_le b _ _) (Nat.le_trans hz (by decide)), fun t' k => ?_⟩)) (hs _ _)
  exact post ρ _ _ (List.prefix_refl _) (Nxt.grow fun _ _ e => e) (I.grow (fun _ _ e => e) I.bare) ⟨t', rfl⟩
theorem RepL.toArray {xs : List Value} {vs : List V} (r : RepL ρ xs vs) : RepL ρ xs.toArray.toList vs := by simpa using r
/-- a list's part -/
theorem Cut.list {n : Nat} {l : List V} {lo hi : V} {i j : Option Int} (ho : st[n]? = some (.list l)) (hi' : Part lo i) (hj : Part hi j) (hz : l.length ≤ 100000) :
    Cut c fr st (.obj n) lo hi (.ok (.obj st.length)) (st ++ [.list ((l.drop (i.elim 0 (clipAt l.length))).take (j.elim l.length (clipAt l.length) - i.elim 0 (clipAt l.length)))]) := fun m ρ x y z value slice A s Q E sl rx ry rz hs hA I hsl post => by
  obtain ⟨p, hp, rfl⟩ := rx
  obtain ⟨xs, hl, rl, _⟩ := I.store n _ p ho hp
  refine tail_any hl.typeIs slot_list_getitem.lookup (wpAny_getItem_list_slice hl hsl (hi'.is ry) (hj.is rz) .none (fun e => nomatch e) ?_ (by simp only [List.size_toArray]; rw [rl.length]; exact Nat.le_trans hz (by decide))) (hs _ _)
  have k : ∀ b o, s.heap.get? b = some o → (s.heap.push { cls := .type "list", data := .seq (slicePick xs.toArray i j none) }).get? b = some o := fun b o e => Heap.get?_push_of_some _ e
  have n1 : s.heap.get? s.heap.objs.size = none := Heap.get?_none_of_le (Nat.le_refl _)
  have e : slicePick xs.toArray i j none = ((xs.drop (i.elim 0 (clipAt l.length))).take (j.elim l.length (clipAt l.length) - i.elim 0 (clipAt l.length))).toArray := by
    rw [← rl.length]
    have := slicePick_plain xs.toArray i j
    simpa using this
  refine post (ρ ++ [(s.heap.objs.size, s.heap.objs.size)]) _ _ (prefix_add _ _) (Nxt.make (p := (s.heap.objs.size, s.heap.objs.size)) k n1 n1) (I.make (p := (s.heap.objs.size, s.heap.objs.size)) (o' := .list _) k n1 n1 ⟨_, ⟨_, Heap.get?_push_size _ rfl, rfl, _, by rw [e]⟩, ((rl.drop _).take _).mono (prefix_add _ _), rfl⟩ I.bare) ⟨(s.heap.objs.size, s.heap.objs.size), by rw [← I.len]; simp, rfl⟩
end
end Mine
end
section
set_option Elab.async false
set_option maxRecDepth 100000
set_option linter.unusedVariables false
namespace Mine
open PySem PySem.Spec PySem.Calls PyProof.Rows PySem.W

section
variable {c : Wd} {fr : Fx} {m m' m₁ m₂ : Loc} {st st' st₁ st₂ st₃ : Sto} {ρ : Rho} {s : Shared}
theorem Bin2.fdivP {a b : Int} (hb : 0 < b) (hs : b.natAbs < 1073741824) : Bin2 c fr .FloorDiv (.int a) (.int b) (.int (a / b)) := by
  rw [← Int.fdiv_eq_ediv_of_nonneg a (Int.le_of_lt hb)]
  exact .fdiv (by omega) (PyProof.noPylong_small hs)
theorem Bin2.modP {a b : Int} (hb : 0 < b) : Bin2 c fr .Mod (.int a) (.int b) (.int (a % b)) := by
  rw [← Int.fmod_eq_emod_of_nonneg a (Int.le_of_lt hb)]
  exact .mod (by omega)
theorem Bin2.mulR {a b : Int} (h : Builtin.Int.intBits b ≤ 64) : Bin2 c fr .Mult (.int a) (.int b) (.int (a * b)) := .mul (.of_right h)
theorem Bin2.mulL {a b : Int} (h : Builtin.Int.intBits a ≤ 64) : Bin2 c fr .Mult (.int a) (.int b) (.int (a * b)) := .mul (.of_left h)

theorem RepL.nilRho {xs : List Value} {l : List Int} (h : RepL [] xs (l.map V.int)) : ∀ i : Nat, i < l.length → ∃ t, xs[i]? = some (.int (l.getD i 0) t) := fun i hi => by
  obtain ⟨x, h1, t, h2⟩ := h.get (i := i) (v := .int (l.getD i 0)) (by simp [hi])
  exact ⟨t, by rw [h1, h2]⟩
theorem Item.ints {t : Addr} {ob : Obj} {n' : Nat} {items : Array Value} {i : Int} {l : List Int} (ok : c.Ok) (hK : c.K.lookup t = some ob) (hc : ob.cls = .type "tuple") (hd : ob.data = .seq items n') (hl : RepL [] items.toList (l.map V.int)) (h0 : 0 ≤ i) (h2 : i < l.length) (hz : (l.length : Int) < 2 ^ 63) :
    Item c fr st (.glob (.ref t)) (.int i) (.ok (.int (l.getD i.toNat 0))) st := by
  obtain ⟨t, ht⟩ := hl.nilRho i.toNat (by omega)
  have e := hl.length
  refine .gtup ok hK hc hd h0 (by omega) (by simp at e; omega) (by simpa using ht) fun ρ => ⟨t, rfl⟩

structure Shp where
  names : List Str
  globs : List (Str × Value)
  z : Bool
  k : Nat
  top : Bool := true
  cells : List (Str × Nat) := []
structure Sh (c : Wd) (G : Shp) (fr : Fx) : Prop where
  fri : FrI c fr G.names G.globs
  fit : fr.fit G.z G.k
  head : G.top = true → fr.Head
  cel : ∀ x n, (x, n) ∈ G.cells → (x, n) ∈ fr.cells ∧ (fr.env.kindOf x = some .cell ∨ fr.env.kindOf x = some .free)
  code : G.top = true → kdsCode c.K fr.env.code = true
  celk : G.top = true → ∀ x n, (x, n) ∈ G.cells → fr.env.kindOf x = some .cell
theorem kdsCode_of {K : Frag} {cd : Value} {q : Str} (h : codeIn K cd q = true) : kdsCode K cd = true := by
  unfold codeIn at h
  unfold kdsCode
  split at h
  · split at h
    · rename_i e
      simp only [e]
    · cases h
  · cases h
/-- what a body comes to, in every frame of the shape -/
def XP (c : Wd) (G : Shp) (b : List Stmt) (m : Loc) (st : Sto) (P : Out FV → Loc → Sto → Prop) : Prop := ∃ o m' st', (∀ fr, Sh c G fr → Ex c fr b m st o m' st') ∧ P o m' st'
variable {G : Shp} {P : Out FV → Loc → Sto → Prop}
theorem XP.nil (h : P (.ok .next) m st) : XP c G [] m st P := ⟨_, _, _, fun _ _ => .nil, h⟩
theorem XP.step {b : Stmt} {r : List Stmt} (h1 : ∀ fr, Sh c G fr → Ex1 c fr b m st (.ok .next) m₁ st₁) (h2 : XP c G r m₁ st₁ P) : XP c G (b :: r) m st P := by
  obtain ⟨o, m', st', h, hP⟩ := h2
  exact ⟨o, m', st', fun fr F => .cons (h1 fr F) (h fr F), hP⟩
theorem XP.ret {e : Expr} {pos : Pos} {r : List Stmt} {v : V} (h : ∀ fr, Sh c G fr → Ev c fr e m st (.ok v) st₁) (hP : P (.ok (.ret v)) m st₁) : XP c G (.Return (some e) pos :: r) m st P := ⟨_, _, _, fun fr F => .stop (by intro e; cases e) (.ret (h fr F)), hP⟩
theorem XP.retE {e : Expr} {pos : Pos} {r : List Stmt} {C : Exn} (h : ∀ fr, Sh c G fr → Ev c fr e m st (.exc C) st₁) (hP : P (.exc C) m st₁) : XP c G (.Return (some e) pos :: r) m st P := ⟨_, _, _, fun fr F => .stopE (.retE (h fr F)), hP⟩
theorem XP.stop {b : Stmt} {r : List Stmt} {f : FV} (h : ∀ fr, Sh c G fr → Ex1 c fr b m st (.ok f) m₁ st₁) (hf : f ≠ .next) (hP : P (.ok f) m₁ st₁) : XP c G (b :: r) m st P := ⟨_, _, _, fun fr F => .stop hf (h fr F), hP⟩
theorem XP.exc {b : Stmt} {r : List Stmt} {C : Exn} (h : ∀ fr, Sh c G fr → Ex1 c fr b m st (.exc C) m₁ st₁) (hP : P (.exc C) m₁ st₁) : XP c G (b :: r) m st P := ⟨_, _, _, fun fr F => .stopE (h fr F), hP⟩
theorem XP.ite {e : Expr} {b d r : List Stmt} {pos : Pos} {t : Bool} (h : ∀ fr, Sh c G fr → Bt c fr e m st (.ok t) st₁) (h1 : t = true → XP c G (b ++ r) m st₁ P) (h2 : t = false → XP c G (d ++ r) m st₁ P) : XP c G (.If e b d pos :: r) m st P := by
  cases t with
  | true =>
    obtain ⟨o, m', st', q, hP⟩ := h1 rfl
    exact ⟨o, m', st', fun fr F => .ofAppend (h fr F) (q fr F), hP⟩
  | false =>
    obtain ⟨o, m', st', q, hP⟩ := h2 rfl
    exact ⟨o, m', st', fun fr F => .ofAppend (h fr F) (q fr F), hP⟩
theorem XP.mono {b : List Stmt} {P' : Out FV → Loc → Sto → Prop} (h : XP c G b m st P) (k : ∀ o m st, P o m st → P' o m st) : XP c G b m st P' := by
  obtain ⟨o, m', st', h, hP⟩ := h
  exact ⟨o, m', st', h, k _ _ _ hP⟩
theorem Calls.defX {f : Addr} {oc : Value} {od : Option Addr} {osl : Array (Option Value)} {name qual : Str} {params : Arguments} {body : List Stmt} {scope : Scope} {dV kV doc pm cdv ct : Value} {an : Option Addr}
    {args binds : List V} {kw : List (Str × V)} {P' : Out V → Sto → Prop} (n : Nat) (names : List Str) (globs : List (Str × Value)) (z : Bool) (k : Nat) (m₀ : Loc) (ok : c.Ok)
    (hK : c.K.lookup f = some ⟨oc, od, .func (fnOf name qual params body scope dV kV doc pm an cdv ct), osl⟩) (hcd : codeIn c.K cdv qual = true) (hsc : scopeOk c.K scope names globs = true) (hcell : (scope.names.all fun x => !(x.2 == .cell)) = true)
    (hbind : ∀ (s : Shared) (ρ : Rho) (xs ks : List Value), c.K.In s.heap → RepL ρ xs args → RepL ρ ks (kw.map (·.2)) → ∃ ys, BindsTo s (fnOf name qual params body scope dV kV doc pm an cdv ct) ⟨xs, (kw.map (·.1)).zip ks⟩ ((names.take n).zip ys) ∧ RepL ρ ys binds)
    (hn : binds.length = n) (hn' : n ≤ names.length) (hm : binds ++ List.replicate (names.length - n) .undef = m₀)
    (hbody : XP c ⟨names, globs, z, k, true, []⟩ body m₀ st fun o m' st' => ∃ r, retOf o = some r ∧ P' r st') : ∃ r st', Calls c z (k + 1) (.glob (.ref f)) args kw st r st' ∧ P' r st' := by
  subst hm
  obtain ⟨o, m', st', h, r, hr, hP⟩ := hbody
  exact ⟨r, st', .defAt n ok hK rfl rfl rfl hcd hsc hcell hbind hn hn' hr fun fr' F hl hd he => (h fr' ⟨F, hl, fun _ => hd, (fun _ _ q => nomatch q), fun _ => by obtain ⟨L, he⟩ := he; rw [he]; exact kdsCode_of hcd, fun _ _ _ q => nomatch q⟩).toC, hP⟩

theorem Ev.lcA {x : Str} {pos : Pos} {v : V} (F : Sh c G fr) (hv : Lk G.names m x v) (hd : v.isDef = true) : Ev c fr (.Name x pos) m st (.ok v) st := .lc F.fri hv hd
theorem Ev.glA {x : Str} {pos : Pos} {v : Value} (ok : c.Ok) (F : Sh c G fr) (hv : (x, v) ∈ G.globs) : Ev c fr (.Name x pos) m st (.ok (.glob v)) st := .gl ok F.fri hv
theorem Ex1.asgA {x : Str} {pos' pos : Pos} {e : Expr} {v : V} (F : Sh c G fr) (h : Ev c fr e m st (.ok v) st₁) (hu : Up G.names m x v m') (hs : swapsWith e (some (.Name x pos')) pos.line fr.env = pure false) :
    Ex1 c fr (.Assign [.Name x pos'] e pos) m st (.ok .next) m' st₁ := .asg F.fri h hu hs
theorem Ex1.augA {x : Str} {pos' pos : Pos} {op : Operator} {e : Expr} {a b v : V} (F : Sh c G fr) (h0 : Lk G.names m x a) (hd : a.isDef = true) (h : Ev c fr e m st (.ok b) st₁) (h2 : Aug2 c fr st₁ op a b v st₂) (hu : Up G.names m x v m') :
    Ex1 c fr (.AugAssign (.Name x pos') op e pos) m st (.ok .next) m' st₂ := .augm F.fri h0 h h2 hu hd
end
end Mine
end
section
set_option Elab.async false
set_option maxRecDepth 100000
set_option linter.unusedVariables false
namespace Mine
open PySem PySem.Spec PySem.Calls PyProof.Rows PySem.W

theorem entry_unchain : entryFor table "proto.unchain" = some Builtin.«proto.unchain» := entryFor_of_tree (by kernel_rfl)
section
variable {prog : Program} {w : World} {A : Around} {E : Value → Shared → Prop} {s : Shared}
theorem wpAny_unchain_none {e : Value} {a : Addr} {ob : Obj} {vs : Array Value} {sl : Value} {Q : Value → Shared → Prop} (h1 : s.heap.get? a = some ob) (h2 : ob.data = .fields vs) (h3 : vs[2]? = some .none) (h : Q .none s) :
    wpAny (model prog w) A (runValue (.builtin "proto.unchain" ⟨[e, .ref a, sl, .bool false], []⟩)) Q E s := by
  refine wpAny_runValue (codeAny_builtin entry_unchain ?_)
  unfold Builtin.«proto.unchain»
  show wpAny _ _ (field (.ref a) 2 >>= fun context => _) _ _ _
  refine wpAny_bind (wpAny_field h1 h2 h3 ?_)
  exact wpAny_pure h
theorem wpAny_raiseNew {α : Type} {Q : α → Shared → Prop} {C : String} {e t : Addr} {sl : Array (Option Value)} (he : s.heap.get? e = some { cls := .type C, data := .fields #[.ref t, .none, .none, .none, .bool false, .none] })
    (hh : ∀ h, A.handled = some h → ∃ a ob vs, h = .ref a ∧ a ≠ e ∧ s.heap.get? a = some ob ∧ ob.data = .fields vs ∧ vs[2]? = some .none)
    (h : ∀ h', (∀ b o, b ≠ e → s.heap.get? b = some o → h'.get? b = some o) → (∃ ob vs, h'.get? e = some ob ∧ ob.cls = .type C ∧ ob.data = .fields vs ∧ Ctx2 vs A.handled.isNone ∧ vs[1]? = some .none) → E (.ref e) { s with heap := h' }) :
    wpAny (model prog w) A (raiseNew (α := α) (.ref e)) Q E s := by
  unfold raiseNew
  refine wpAny_bind (wpAny_handled ?_)
  cases hd : A.handled with
  | none =>
    have := h s.heap (fun _ _ _ x => x) ⟨_, _, he, rfl, rfl, fun _ => rfl, rfl⟩
    first
      | exact wpAny_throw this
      | exact wpAny_bind (wpAny_pure (wpAny_throw this))
  | some v =>
    obtain ⟨a, ob, vs, rfl, hne, h1, h2, h3⟩ := hh v hd
    have hb : (Value.ref a != Value.ref e) = true := by
      rw [bne_iff_ne]; intro q; cases q; exact hne rfl
    show wpAny _ _ (do
      if (Value.ref a != Value.ref e) = true then
        let _ ← holding [.ref e] (runValue (.builtin "proto.unchain" ⟨[.ref e, .ref a, .ref a, .bool false], []⟩))
        updateField e 2 (.ref a)
      throw (.ref e)) _ _ _
    rw [if_pos hb]
    have fin : wpAny (model prog w) A (updateField e 2 (.ref a) >>= fun _ => (throw (.ref e) : Sem α)) Q E s := by
      refine wpAny_bind ?_
      unfold updateField
      refine wpAny_bind (wpAny_load he ?_)
      show wpAny _ _ (if 2 < (#[.ref t, .none, .none, .none, .bool false, .none] : Array Value).size then _ else _) _ _ _
      rw [if_pos (show 2 < (#[Value.ref t, Value.none, Value.none, Value.none, Value.bool false, Value.none] : Array Value).size from Nat.lt_of_sub_pos (by exact Nat.zero_lt_succ _))]
      refine wpAny_update he (wpAny_throw (h _ (fun b o n x => by rw [Heap.get?_update_other _ _ (Ne.symm n)]; exact x) ⟨_, _, Heap.get?_update_self _ he rfl, rfl, rfl, (by rw [hd]; intro q; cases q), rfl⟩))
    first
      | exact wpAny_bind (wpAny_bind (wpAny_holding (wpAny_unchain_none h1 h2 h3 fin)))
      | exact wpAny_bind (wpAny_holding (wpAny_unchain_none h1 h2 h3 fin))
theorem wpAny_raiseStmt_any {C : String} (F : ExcRaiseFacts C) {env : Env} {x : Sem Value} {Q : Flow → Shared → Prop}
    (h : wpAny (model prog w) A x (fun v s₁ => ∃ e t, v = .ref e ∧ s₁.heap.get? e = some { cls := .type C, data := .fields #[.ref t, .none, .none, .none, .bool false, .none] } ∧
      (∀ h, A.handled = some h → ∃ a ob vs, h = .ref a ∧ a ≠ e ∧ s₁.heap.get? a = some ob ∧ ob.data = .fields vs ∧ vs[2]? = some .none) ∧
      ∀ h', (∀ b o, b ≠ e → s₁.heap.get? b = some o → h'.get? b = some o) → (∃ ob vs, h'.get? e = some ob ∧ ob.cls = .type C ∧ ob.data = .fields vs ∧ Ctx2 vs A.handled.isNone ∧ vs[1]? = some .none) → E (.ref e) { s₁ with heap := h' }) E s) :
    wpAny (model prog w) A (raiseStmt env (some x) none) Q E s := by
  unfold raiseStmt
  refine wpAny_bind (wpAny_mono h (fun v s₁ h₁ => ?_) fun _ _ x => x)
  obtain ⟨e, t, rfl, he, hh, hE⟩ := h₁
  obtain ⟨hp, g, d, tk, os⟩ := s₁
  have hsub := F.isExc
  have hmeta := F.plainMeta
  repeat (first | refine wpAny_loadPart he ?_ | wp_step)
  first
    | exact wpAny_raiseNew (sl := #[]) he hh hE
    | exact wpAny_bind (wpAny_raiseNew (sl := #[]) he hh hE)
end

section
variable {c : Wd} {fr : Fx} {m m' m₁ m₂ : Loc} {st st' st₁ st₂ st₃ : Sto} {ρ : Rho} {s : Shared}
theorem Ex1.raise {z : Bool} {C newId initId : String} (F : ExcCallFacts C newId initId) (Gf : ExcRaiseFacts C) {x : Str} {np cpos pos : Pos} {es : List Expr} {vs : List V} (h0 : Ev c fr (.Name x np) m st (.ok (.glob (.type C))) st) (hrs : fr.rs = true) (hzz : z = true → fr.hd = none)
    (h1 : EvL c fr es m st vs st₁) (hz : vs.length ≤ 1000) (hs : es.any starred = false) : Ex1 c fr (.Raise (some (.Call (.Name x np) es [] cpos)) none pos) m st (.exc ⟨C, z⟩) m st₁ := fun ρ => by
  rw [arm_exec_Raise]
  refine TriAt.standThen ?_
  intro A s Q E hA I post
  show wpAny _ _ (raiseStmt fr.env (some (do let v ← eval (.Call (.Name x np) es [] cpos) fr.env; standAt pos; pure v)) none) _ _ _
  refine wpAny_raiseStmt_any Gf (wpAny_bind (wpAny_Call_ofName ?_))
  refine h0 ρ A s _ E hA I fun ρ₁ s₁ f p n I₁ rf => ?_
  obtain rfl : f = .type C := rf
  have b1 := backTo_any (pos := cpos) (env := fr.env) hs
  refine callWith_excType b1 (evalArgs_gen b1 (by rfl) ?_)
  refine h1 ρ₁ cpos A s₁ _ E hA I₁ fun ρ₂ s₂ ys p₂ n₂ I₂ rys => ?_
  refine fun Γ q hΓ => (wpAny_pure (M := model c.prog c.w) (A := A) (E := E) ?_ : wpAny _ _ (evalAll []) _ _ _) Γ q hΓ
  obtain ⟨hp, g, d, tk, os⟩ := s₂
  refine wpAny_call_exc F (fun h' e hm => ?_) (by rw [List.nil_append, rys.length]; exact Nat.le_trans hz (by decide))
  refine wpAny_bind (wpAny_standAt (wpAny_pure ?_))
  obtain ⟨t, ht, hnt, htt⟩ := hm.there
  have I₃ := I₂.grow hm.keeps I₂.bare (d' := d) (tk' := tk) (os' := os)
  have N₃ : Nxt fr ρ ρ₂ s ⟨h', g, d, tk, os⟩ := n.trans (n₂.trans (Nxt.grow hm.keeps))
  refine ⟨e, t, rfl, ht, fun v hv => ?_, fun h'' k q => ?_⟩
  · rw [hA.handled] at hv
    obtain ⟨a, ob, vs, h1, h2, h3, h4⟩ := I₂.hd hrs v hv
    refine ⟨a, ob, vs, h1, ?_, hm.keeps _ _ h2, h3, h4.1⟩
    rintro rfl
    have hn := hm.new
    have h2' : hp.get? a = some ob := h2
    rw [hn] at h2'; cases h2'
  · have S : Soft (frs fr) hp h' h'' := by
      have ne : ∀ b o, h'.get? b = some o → (hp.get? b ≠ none ∨ ∀ vs, o.data ≠ .fields vs) → b ≠ e := fun b o e1 e2 q => by
        subst q
        rcases e2 with e2 | e2
        · exact e2 hm.new
        · rw [ht] at e1; cases e1; exact e2 _ rfl
      exact ⟨fun b o e1 _ e2 => k b o (ne b o e1 e2) e1, fun b o e1 _ e2 => ⟨o.slots, k b o (ne b o e1 (.inr e2)) e1⟩⟩
    have hB : c.base.StaysIn hp := I₂.stays
    have I₄ := I₃.soft S hB fun _ a ha => by
      obtain ⟨a', ob, vs, h1, h2, _⟩ := I₂.hd hrs _ ha
      cases h1
      rw [show hp.get? a = some ob from h2]; simp
    have I₄ := I₄ (show hp.get? fr.out ≠ none by
      obtain ⟨ps, q1, _⟩ := I₂.out.tab
      rw [show hp.get? fr.out = _ from q1]; simp)
    have old : ∀ b, hp.get? b = none → s.heap.get? b = none := fun b q => (n.trans n₂).noneOf q
    have S' : Soft (frs fr) s.heap h' h'' := ⟨fun b o e1 n1 e2 => S.kept b o e1 n1 (e2.imp (fun z y => z (old b y)) id), S.slots⟩
    have N₄ := Nxt.soft I₃ N₃ S'
    exact post ρ₂ _ e (p.trans p₂) N₄ I₄ (old e hm.new) (.inl (by
      obtain ⟨ob, vs, q1, q2, q3, q4, q5⟩ := q
      exact ⟨ob, vs, q1, q2, q3, fun hk => q4 (by rw [hA.handled, hzz hk]; rfl), q5⟩))
end
end Mine
end
section
set_option Elab.async false
set_option maxRecDepth 100000
set_option linter.unusedVariables false
namespace Mine
open PySem PySem.Spec PySem.Calls PyProof.Rows PySem.W

section
variable {c : Wd} {fr : Fx} {m m' m₁ m₂ : Loc} {st st' st₁ st₂ st₃ : Sto} {ρ : Rho} {s : Shared} {G : Shp}

/-- a call of f at hand -/
def CallT (c : Wd) (fr : Fx) (f : Value) (vs : List V) (ks : List (Str × V)) (st : Sto) (r : Out V) (st' : Sto) : Prop :=
  ∀ m ρ xs ys, RepL ρ xs vs → RepL ρ ys (ks.map (·.2)) → TriAt c fr Rep ρ (PySem.call f xs ((ks.map (·.1)).zip ys)) m st r m st'
theorem CallT.of {z : Bool} {k : Nat} {f : Value} {vs : List V} {ks : List (Str × V)} {r : Out V} (hc : Calls c z k (.glob f) vs ks st r st') (hlv : fr.fit z k) : CallT c fr f vs ks st r st' := fun m ρ xs ys rx ry A s Q E hA I post =>
  wpAny_call (hc fr m ρ f xs ys hlv rfl rx ry A s Q E hA I post)
theorem TriAt.callT (ok : c.Ok) {f : Value} {first : List Value} {rf vs : List V} {ks : List (Str × V)} {es : List Expr} {kws : List Keyword} {pos : Pos} {r : Out V} (hk : KeepOk c f) (hf : RepL ρ first rf)
    (ha : EvL c fr es m st vs st₁) (hkw : EvK c fr kws m st₁ ks st₂) (hc : CallT c fr f (rf ++ vs) ks st₂ r st₃) (hs : es.any starred = false) :
    TriAt c fr Rep ρ (PySem.callWith pos f first (backTo pos (starEach es fr.env)) (backToKw pos (keywordEach kws fr.env))) m st r m st₃ := fun A s Q E hA I post => by
  obtain ⟨k1, k2, k3⟩ := hkw.1 pos
  have b1 := backTo_any (pos := pos) (env := fr.env) hs
  refine callWith_of (P := c.K.In) (by rw [b1, k2]; rfl) (fun h X => hk.looks _ h X) (evalArgs_gen b1 k1 ?_)
  refine ha ρ pos A s _ E hA I fun ρ₁ s₁ xs p n I₁ rxs => ?_
  refine hkw.2 ρ₁ pos A s₁ _ E hA I₁ fun ρ₂ s₂ ys p₂ n₂ I₂ rys => ⟨I₂.kin ok, ?_⟩
  rw [k3]
  exact hc m ρ₂ _ ys ((hf.mono (p.trans p₂)).append (rxs.mono p₂)) rys A s₂ Q E hA I₂ (post.after (p.trans p₂) (n.trans n₂))
/-- f(args) -/
theorem Ev.callT (ok : c.Ok) {fn : Expr} {f : Value} {vs : List V} {ks : List (Str × V)} {es : List Expr} {kws : List Keyword} {pos : Pos} {r : Out V} (h1 : Ev c fr fn m st (.ok (.glob f)) st) (hk : KeepOk c f)
    (ha : EvL c fr es m st vs st₁) (hkw : EvK c fr kws m st₁ ks st₂) (hc : CallT c fr f vs ks st₂ r st₃) (hs : es.any starred = false)
    (he : eval (.Call fn es kws pos) fr.env = (do PySem.callWith pos (← eval fn fr.env) [] (backTo pos (starEach es fr.env)) (backToKw pos (keywordEach kws fr.env)))) :
    Ev c fr (.Call fn es kws pos) m st r st₃ := fun ρ => by
  rw [he]
  refine (h1 ρ).bind fun ρ₁ x p rx => ?_
  rw [show x = f from rx]
  exact TriAt.callT ok hk .nil ha hkw hc hs
theorem Ev.methT (ok : c.Ok) {o : Expr} {name : Str} {apos : Pos} {v : V} {f : Value} {first vs : List V} {ks : List (Str × V)} {es : List Expr} {kws : List Keyword} {pos : Pos} {r : Out V} (h1 : Ev c fr o m st (.ok v) st₁) (hm : Meth c fr st₁ v name f first) (hk : KeepOk c f)
    (ha : EvL c fr es m st₁ vs st₂) (hkw : EvK c fr kws m st₂ ks st₃) (hc : CallT c fr f (first ++ vs) ks st₃ r st') (hs : es.any starred = false)
    (he : ∃ pl : Sem Bool, eval (.Call (.Attribute o name apos) es kws pos) fr.env = (do
      let ov ← eval o fr.env
      standAt apos.atName
      let (f, first) ← holding [ov] (getMethod ov name pl)
      PySem.callWith pos f first (backTo pos (starEach es fr.env)) (backToKw pos (keywordEach kws fr.env)))) :
    Ev c fr (.Call (.Attribute o name apos) es kws pos) m st r st' := fun ρ => by
  obtain ⟨pl, he⟩ := he
  rw [he]
  refine (h1 ρ).bind fun ρ₁ x p rx => TriAt.standThen ((TriAt.holding (hm m ρ₁ x pl rx)).bind fun ρ₂ y p₂ ry => ?_)
  obtain ⟨g, fs⟩ := y
  obtain ⟨rfl, ry⟩ : g = f ∧ RepL ρ₂ fs first := ry
  exact TriAt.callT ok hk ry ha hkw hc hs

/-- a builtin of one value, that reads -/
theorem RepL.inv0 {xs : List Value} (h : RepL ρ xs []) : xs = [] := by cases h; rfl
theorem RepL.inv1 {xs : List Value} {v : V} {vs : List V} (h : RepL ρ xs (v :: vs)) : ∃ x r, xs = x :: r ∧ Rep ρ x v ∧ RepL ρ r vs := by cases h; exact ⟨_, _, rfl, ‹_›, ‹_›⟩
theorem CallT.look1 {f : Value} {v : V} {r : V} (h : ∀ (m : Loc) (ρ : Rho) (x : Value) (A : Around) (s : Shared) (Q : Value → Shared → Prop) (E : Value → Shared → Prop), Rep ρ x v → fr.At A → Inv c fr ρ m st s → (∀ y tk, Rep ρ y r → Q y { s with toks := tk }) → wpAny (model c.prog c.w) A (call f [x]) Q E s) :
    CallT c fr f [v] [] st (.ok r) st := fun m ρ xs ys rx ry => by
  obtain ⟨x, r', rfl, r1, r2⟩ := rx.inv1
  obtain rfl := r2.inv0
  obtain rfl := RepL.inv0 ry
  exact .look fun A s Q E hA I hQ => h m ρ x A s Q E r1 hA I hQ
theorem CallT.look2 {f : Value} {v w : V} {r : V} (h : ∀ (m : Loc) (ρ : Rho) (x z : Value) (A : Around) (s : Shared) (Q : Value → Shared → Prop) (E : Value → Shared → Prop), Rep ρ x v → Rep ρ z w → fr.At A → Inv c fr ρ m st s → (∀ y tk, Rep ρ y r → Q y { s with toks := tk }) → wpAny (model c.prog c.w) A (call f [x, z]) Q E s) :
    CallT c fr f [v, w] [] st (.ok r) st := fun m ρ xs ys rx ry => by
  obtain ⟨x, r', rfl, r1, r2⟩ := rx.inv1
  obtain ⟨z, r'', rfl, r3, r4⟩ := r2.inv1
  obtain rfl := r4.inv0
  obtain rfl := RepL.inv0 ry
  exact .look fun A s Q E hA I hQ => h m ρ x z A s Q E r1 r3 hA I hQ
theorem CallT.lenS {a : Str} (hz : a.length ≤ 100000) : CallT c fr (.builtin "len") [.str a] [] st (.ok (.int a.length)) st := .look1 fun m ρ x A s Q E rx hA I h => by
  obtain ⟨t, rfl⟩ := rx
  exact P.len_str (by omega) (h _ _ ⟨_, rfl⟩)
theorem CallT.lenB {a : Array UInt8} (hz : a.size ≤ 100000) : CallT c fr (.builtin "len") [.bytes a] [] st (.ok (.int a.size)) st := .look1 fun m ρ x A s Q E rx hA I h => by
  obtain ⟨t, rfl⟩ := rx
  exact call_len_gives (typeIs_bytes _ _ _) FB.slot_bytes_len FB.entry_bytes_len (FB.args_bytes_len_1 _) (gives_bytes_len a t) (by omega) (by omega) (h _ _ ⟨_, rfl⟩)
theorem CallT.lenL {n : Nat} {l : List V} (ho : st[n]? = some (.list l)) (hz : l.length ≤ 100000) : CallT c fr (.builtin "len") [.obj n] [] st (.ok (.int l.length)) st := .look1 fun m ρ x A s Q E rx hA I h => by
  obtain ⟨p, hp, rfl⟩ := rx
  obtain ⟨xs, hl, rl, _⟩ := I.store n _ p ho hp
  have e : (xs.toArray.size : Int) = l.length := by rw [List.size_toArray, rl.length]
  exact call_len_list hl (by rw [e]; omega) (h _ _ ⟨_, by rw [e]⟩)
theorem CallT.isStrS {a : Str} : CallT c fr (.builtin "isinstance") [.str a, .glob (.type "str")] [] st (.ok (.bool true)) st := .look2 fun m ρ x z A s Q E rx rz hA I h => by
  obtain ⟨t, rfl⟩ := rx; obtain rfl := rz
  exact IsiPair.str_str (h _ s.toks rfl)
theorem CallT.ord {a : Str} (h1 : a.length = 1) : CallT c fr (.builtin "ord") [.str a] [] st (.ok (.int (a.cps.getD 0 0 : Nat))) st := .look1 fun m ρ x A s Q E rx hA I h => by
  obtain ⟨t, rfl⟩ := rx
  exact ord_of_one h1 (h _ _ ⟨_, rfl⟩)
theorem CallT.intS {a : Str} {n : Int} (hn : PySem.intText? a = some n) (hl : a.length ≤ 640) : CallT c fr (.type "int") [.str a] [] st (.ok (.int n)) st := .look1 fun m ρ x A s Q E rx hA I h => by
  obtain ⟨t, rfl⟩ := rx
  exact KIN.call_text hn hl (h _ _ ⟨_, rfl⟩)

-- bytes
theorem bytes_no_int : typeLookup (.type "bytes") "__int__" = pure none := by rw [typeLookup_type, builtinLookup_eq_fast]; kernel_rfl
theorem bytes_no_idx : typeLookup (.type "bytes") "__index__" = pure none := by rw [typeLookup_type, builtinLookup_eq_fast]; kernel_rfl
theorem bytes_no_trunc : typeLookup (.type "bytes") "__trunc__" = pure none := by rw [typeLookup_type, builtinLookup_eq_fast]; kernel_rfl
theorem slot_bytes_isdigit : Slot "bytes" "isdigit" "bytes.isdigit" :=
  .of (owner := "bytes") (n := "isdigit") (by rw [typeLookup_type, builtinLookup_eq_fast]; kernel_rfl) (by decide +kernel) (by decide +kernel) (by decide +kernel)
    (by first | exact .inl (by decide +kernel) | exact .inr (by decide +kernel)) (by rw [isSubtype_type]; kernel_rfl)
theorem type_bytes_isdigit : typeOf (.builtin "bytes.isdigit") = pure (.type "method_descriptor") := by show builtinType _ = _; rw [builtinType_eq_fast]; kernel_rfl
theorem entry_bytes_isdigit : entryFor table "bytes.isdigit" = some Builtin.«bytes.isdigit» := entryFor_of_tree (by kernel_rfl)
theorem args_bytes_isdigit_1 (a : Value) : argsOk "bytes.isdigit" ⟨[a], []⟩ := by
  unfold argsOk; rw [signature?_of (id := "bytes.isdigit") (n := ['t', 'i', 'g', 'i', 'd', 's', 'i']) (o := ['s', 'e', 't', 'y', 'b']) (by kernel_rfl) FB.owner_bytes]; kernel_rfl
def digB (c : UInt8) : Bool := 48 ≤ c && c ≤ 57
theorem gives_bytes_isdigit (b : Array UInt8) (t : Tok) : Gives (Builtin.«bytes.isdigit» ⟨[.bytes b t], []⟩) (.val (.bool (!b.toList.isEmpty && b.toList.all digB))) := by
  refine .of_eq ?_
  unfold Builtin.«bytes.isdigit» Builtin.Bytes.testM
  rfl
theorem Meth.bytesIsdigit {b : Array UInt8} : Meth c fr st (.bytes b) "isdigit" (.builtin "bytes.isdigit") [.bytes b] := fun m ρ x pl rx => by
  obtain ⟨t, rfl⟩ := rx
  refine .look fun A s Q E _ I hQ => ?_
  have h := hQ (.builtin "bytes.isdigit", [.bytes b t]) s.toks ⟨rfl, .cons ⟨t, rfl⟩ .nil⟩
  have hr : ∀ a, Value.bytes b t = .ref a → ∃ o, s.heap.get? a = some o ∧ o.dict = none := fun _ e => nomatch e
  with_reducible exact getMethod_builtin (typeIs_bytes _ _ _) FB.plainAttrs_bytes slot_bytes_isdigit type_bytes_isdigit hr h
theorem CallT.isdigit {b : Array UInt8} : CallT c fr (.builtin "bytes.isdigit") [.bytes b] [] st (.ok (.bool (!b.toList.isEmpty && b.toList.all digB))) st := .look1 fun m ρ x A s Q E rx hA I h => by
  obtain ⟨t, rfl⟩ := rx
  exact call_gives slot_bytes_isdigit (typeIs_bytes _ _ _) entry_bytes_isdigit (args_bytes_isdigit_1 _) (gives_bytes_isdigit b t) (h _ s.toks rfl)
end
end Mine
end
section
set_option Elab.async false
set_option maxRecDepth 100000
set_option linter.unusedVariables false
namespace Mine
open PySem PySem.Spec PySem.Calls PyProof.Rows PySem.W PySem.NumText
def strOfB (b : Array UInt8) : Str := ⟨(b.toList.map (·.toNat)).toArray⟩
theorem numText_strOfB {b : Array UInt8} (h : ∀ x ∈ b.toList, x.toNat < 128) : numTextOf (strOfB b) = b.toList.map (·.toNat) := by
  unfold numTextOf
  rw [if_pos]
  · rfl
  · show (Array.all _ _ 0 _) = true
    rw [Array.all_eq_true']
    intro i hi
    simp only [strOfB, List.mem_toArray, List.mem_map] at hi
    obtain ⟨x, hx, rfl⟩ := hi
    simpa using h x hx
set_option maxHeartbeats 4000000 in
theorem gives_bytes_int {b : Array UInt8} {u : Tok} {n : Int} (ha : ∀ x ∈ b.toList, x.toNat < 128) (hl : b.size ≤ 640) (hn : PySem.intText? (strOfB b) = some n) : Gives (Builtin.«int.__new__» ⟨[.type "int", .bytes b u], []⟩) (.int n) :=
  .of_wp fun M A E s Q h => by
    obtain ⟨hp, g, d, tk, os⟩ := s
    have f1 := F.conv_sub_int
    have f2 := F.madeHere_int
    have f3 := bytes_no_int
    have f4 := bytes_no_idx
    have f5 := bytes_no_trunc
    have f6 : typeOf (.bytes b u) = pure (.type "bytes") := rfl
    have e := numText_strOfB ha
    have hseen : numSeenOf (strOfB b) = (b.toList.map (·.toNat)).takeWhile (· != 0) := by unfold numSeenOf; rw [e]
    have hs : ((b.toList.map (·.toNat)).takeWhile (· != 0)).length ≤ 640 := by
      rw [← hseen]
      exact Nat.le_trans (seen_length (strOfB b)) (by show (b.toList.map _).toArray.size ≤ 640; simpa using hl)
    have hr : (int_private% "readNumeral") 0 10 ((b.toList.map (·.toNat)).takeWhile (· != 0)) = (int_private% "Numeral.value") n ∧ (((b.toList.map (·.toNat)).takeWhile (· != 0)).length == (b.toList.map (·.toNat)).length) = true := by
      rw [← hseen, ← e]
      rcases read0 (strOfB b) (by rw [hseen]; exact hs) with ⟨m, h1, h2, h3⟩ | ⟨h1, _⟩
      · rw [hn] at h1
        injection h1 with h1
        subst h1
        exact ⟨h3, h2⟩
      · rw [hn] at h1
        cases h1
    have hk := KIN.Hid.mk (And.intro hs hr)
    clear hs hr hl hn e hseen ha
    repeat (any_goals (first
      | assumption
      | ((with_reducible show wpAny _ _ ((int_private% "intFromText") _ _ _) _ _ _); refine KIN.wp_text hk.out.1 hk.out.2.1 hk.out.2.2 ?_)
      | wp_step))
    all_goals first | exact ⟨_, rfl, h⟩ | skip
section
variable {c : Wd} {fr : Fx} {m m' m₁ m₂ : Loc} {st st' st₁ st₂ st₃ : Sto} {ρ : Rho} {s : Shared} {G : Shp}
theorem CallT.intB {b : Array UInt8} {n : Int} (ha : ∀ x ∈ b.toList, x.toNat < 128) (hl : b.size ≤ 640) (hn : PySem.intText? (strOfB b) = some n) : CallT c fr (.type "int") [.bytes b] [] st (.ok (.int n)) st := .look1 fun m ρ x A s Q E rx hA I h => by
  obtain ⟨t, rfl⟩ := rx
  exact call_int_1 (gives_bytes_int ha hl hn).meets (show (Made.int n).post _ s from ⟨rfl, h _ _ ⟨_, rfl⟩⟩)
end
end Mine
end
section
set_option Elab.async false
set_option maxRecDepth 100000
set_option linter.unusedVariables false
namespace Mine
open PySem PySem.Spec PySem.Calls PyProof.Rows PySem.W PySem.NumText
open Builtin Builtin._codecs
theorem encodeRoad_ascii (id : String) (self : Value) (x : Str) (errors : Option Str) : encodeRoad id self x (Str.ofString "ascii") errors = (do mkBytes (← encodeNarrow id asciiCodec errors self x)) := by
  first | rfl | (unfold encodeRoad; rfl) | (unfold encodeRoad; simp only []; rfl) | decide
def asB (x : Str) : Array UInt8 := (x.cps.toList.map (·.toUInt8)).toArray
theorem fold_app : ∀ (l : List Nat) (a : Array UInt8), l.foldl (fun acc y => acc ++ ([Nat.toUInt8 y]).toArray) a = a ++ (l.map (·.toUInt8)).toArray
  | [], a => by simp
  | y :: l, a => by
    rw [List.foldl_cons, fold_app l]
    simp
theorem range_list' {β : Type} (n : Nat) (b : β) (f : Nat → β → Sem (ForInStep β)) : forIn [:n] b f = forIn (List.range' 0 n 1) b f := KPc.range_list n b f
theorem pure_bind' {α β : Type} (a : α) (f : α → Sem β) : (pure a >>= f) = f a := rfl
theorem encodeNarrow_ascii (id : String) (self : Value) (x : Str) (h : ∀ c ∈ x.cps.toList, c < 128) (hz : x.length ≤ 100000) : encodeNarrow id asciiCodec none self x = pure (asB x) := by
  unfold encodeNarrow
  simp only [range_list']
  have hnone : x.cps.findIdx? asciiCodec.bad = none := by
    rw [Array.findIdx?_eq_none_iff]
    intro c hc
    have := h c (by simpa using hc)
    show decide (c ≥ 128) = false
    simp; omega
  by_cases hn : x.length = 0
  · have e : x.cps = #[] := Array.eq_empty_of_size_eq_zero hn
    simp [hn, asB, e]
  · obtain ⟨k, hk⟩ : ∃ k, x.length = k + 1 := ⟨x.length - 1, by omega⟩
    rw [hk, List.range'_succ, List.forIn_cons]
    have hx : ∃ c, x.cps[0]? = some c ∧ c < 128 := by
      have : 0 < x.cps.size := by show 0 < x.length; omega
      exact ⟨x.cps[0], by simp [this], h _ (by simp)⟩
    obtain ⟨c, hc, hc'⟩ := hx
    have hb : asciiCodec.bad c = false := by show decide (c ≥ 128) = false; simp; omega
    have hex : x.cps.extract 0 = x.cps := by simp
    dsimp only []
    rw [if_neg (show ¬ ((#[] : Array UInt8).size > sizeLine) from by decide), hc]
    dsimp only []
    rw [if_pos (show (!asciiCodec.bad c) = true by rw [hb]; rfl), hex, hnone]
    dsimp only [Option.getD]
    rw [pure_bind']
    dsimp only []
    have hfold : (x.cps.extract 0 x.cps.size).foldl (fun acc y => acc ++ (asciiCodec.bytesOf y).toArray) #[] = asB x := by
      rw [hex, ← Array.foldl_toList]
      exact (fold_app x.cps.toList #[]).trans (by simp [asB])
    rw [hfold]
    have hsz : ¬ ((asB x).size > sizeLine) := by
      rw [sizeLine_eq]
      have : (asB x).size = x.length := by simp [asB]; rfl
      omega
    cases k with
    | zero => rfl
    | succ k =>
      rw [List.range'_succ, List.forIn_cons]
      dsimp only []
      rw [if_neg hsz, show x.cps[0 + x.cps.size]? = none by simp]
      rfl

theorem meets_encode (x : Str) (t u : Tok) (h : ∀ c ∈ x.cps.toList, c < 128) (hz : x.length ≤ 100000) : Meets (Builtin.«str.encode» ⟨[.str x t, .str (Str.ofString "ascii") u], []⟩) (fun _ R s => ∀ t' k, R (.ok (.ret (.bytes (asB x) t'))) { s with toks := k }) := by
  refine .of_wp fun prog w A R s hS => ?_
  have f1 := encodeRoad_ascii "str.encode" (.str x t) x none
  have f2 := encodeNarrow_ascii "str.encode" (.str x t) x h hz
  have hsz : (asB x).size ≤ sizeLine := by
    rw [sizeLine_eq]
    have : (asB x).size = x.length := by simp [asB]; rfl
    omega
  clear h hz
  obtain ⟨hp, g, d, tk, os⟩ := s
  have fin : wpAny (model prog w) A.in1 (encodeRoad "str.encode" (.str x t) x (Str.ofString "ascii") none >>= fun v => ret v) (fun fin s' => ∃ v, fin = .done (.ret v) ∧ R (.ok (.ret v)) s') (fun e s' => R (.error e) s') ⟨hp, g, d, tk, os⟩ := by
    rw [f1, f2]
    exact wpAny_bind (wpAny_bind (wpAny_pure (wpAny_mkBytes (wpAny_pure ⟨_, rfl, hS _ _⟩) hsz)))
  have hk := KIN.Hid.mk (And.intro fin hS)
  clear fin f1 f2 hS hsz
  repeat (any_goals (first
    | assumption
    | ((with_reducible show wpAny _ _ (encodeRoad _ _ _ _ _ >>= _) _ _ _); exact hk.out.1)
    | rw [if_neg (show ¬ ((Str.ofString "ascii").cps.any fun x => decide (x ≥ 128)) = true from by decide +kernel)]
    | rw [if_neg (show ¬ ((Str.ofString "ascii").cps.contains 0) = true from by decide +kernel)]
    | wp_step))
end Mine
end
section
set_option Elab.async false
set_option maxRecDepth 100000
set_option linter.unusedVariables false
namespace Mine
open PySem PySem.Spec PySem.Calls PyProof.Rows PySem.W PySem.NumText
open Builtin Builtin._codecs
theorem roadA {id : String} {b : Array UInt8} : decodeRoad id b (Str.ofString "ascii") none [] = (runDecoder id asciiDecoder none true b 0 [] >>= fun r => mkStr ⟨r.1⟩) := by kernel_rfl
theorem runDecoder_ascii (id : String) (b : Array UInt8) (h : ∀ x ∈ b.toList, x.toNat < 128) (hz : b.size ≤ 100000) : runDecoder id asciiDecoder none true b 0 [] = pure ((strOfB b).cps, b.size) := by
  unfold runDecoder
  simp only [range_list']
  have key : ∀ (k p : Nat), p + k = b.size → ∀ f : Nat → (Nat × Array Nat × Faults) → Sem (ForInStep (Nat × Array Nat × Faults)),
      (∀ x q st, q < b.size → f x (q, (b.toList.take q |>.map (·.toNat)).toArray, st) = (Pure.pure (ForInStep.yield (q + 1, (b.toList.take (q + 1) |>.map (·.toNat)).toArray, st)) : Sem _)) →
      ∀ a st, (forIn (List.range' a k 1) (p, (b.toList.take p |>.map (·.toNat)).toArray, st) f : Sem _) = (Pure.pure (b.size, (b.toList.map (·.toNat)).toArray, st) : Sem _) := by
    intro k
    induction k with
    | zero =>
      intro p hp f hf a st
      have : p = b.size := by omega
      subst this
      show (Pure.pure _ : Sem _) = Pure.pure _
      rw [List.take_of_length_le (by simp)]
    | succ k ih =>
      intro p hp f hf a st
      rw [List.range'_succ, List.forIn_cons, hf a p st (by omega)]
      exact ih (p + 1) (by omega) f hf (a + 1) st
  refine (congrArg (fun t => t >>= _) (key b.size 0 (by omega) _ (fun x q st hq => ?_) 0 _)).trans rfl
  dsimp only []
  have hsz : (((b.toList.take q).map (·.toNat)).toArray).size = q := by simp; omega
  rw [if_neg (show ¬ ((((b.toList.take q).map (·.toNat)).toArray).size > sizeLine) from by rw [hsz, sizeLine_eq]; omega), if_neg (show ¬ (q ≥ b.size) by omega)]
  have hg : (b.getD q 0) = b[q] := by simp [Array.getD, hq]
  have hlt : (b.getD q 0).toNat < 128 := by rw [hg]; exact h _ (by simp)
  have hf : asciiDecoder.find true b q = .text [(b.getD q 0).toNat] (q + 1) := by
    show (if (b.getD q 0).toNat < 128 then _ else _) = _
    rw [if_pos hlt]
    rfl
  rw [hf]
  show (Pure.pure (ForInStep.yield (q + 1, (((b.toList.take q).map (·.toNat)).toArray ++ [(b.getD q 0).toNat].toArray), st)) : Sem _) = _
  congr 4
  rw [hg, List.take_add_one]
  simp [hq]

theorem meets_text2 {b : Array UInt8} {t t1 t2 : Tok} {d : Str} (h : ∀ x ∈ b.toList, x.toNat < 128) (hz : b.size ≤ 100000) :
    Meets (Builtin.«_codecs.decode.text» ⟨[.bytes b t, .str (Str.ofString "ascii") t1, .none, .str d t2], []⟩) (fun _ R s => R (.ok (.ret (.str (strOfB b) s.toks))) { s with toks := s.toks + 1 }) := by
  refine .of_wp fun prog w A R s hS => ?_
  show wpAny _ _ (Bytes.bytesLike _ (.bytes b t) >>= fun r => _) _ _ s
  refine wpAny_bind (wpAny_of_eq KBd.like_eq ?_)
  refine wpAny_bind (wpAny_of_eq KBd.held_eq ?_)
  show wpAny _ _ (_codecs.decodeRoad _ b (Str.ofString "ascii") none [] >>= fun v => _) _ _ s
  rw [roadA, runDecoder_ascii _ b h hz]
  refine wpAny_bind (wpAny_bind (wpAny_pure ?_))
  exact wpAny_mkStr (wpAny_pure ⟨_, rfl, hS⟩) (by rw [sizeLine_eq]; show (b.toList.map _).toArray.size ≤ _; simp; omega)
theorem decode_cons {c : UInt8} {cs : List UInt8} {t u : Tok} : Builtin.«bytes.decode» ⟨[.bytes (c :: cs).toArray t, .str (Str.ofString "ascii") u], []⟩ = (mkStr (Str.ofString "utf-8") >>= fun _ => mkStr (Str.ofString "ascii") >>= fun e => mkStr (Str.ofString "bytes.decode") >>= fun d =>
    call (.builtin "_codecs.decode.text") [.bytes (c :: cs).toArray t, e, .none, d] >>= fun v => ret v) := by kernel_rfl
theorem decode_nil {t u : Tok} : Builtin.«bytes.decode» ⟨[.bytes #[] t, .str (Str.ofString "ascii") u], []⟩ = (rule "bytes.decode.empty" >>= fun _ => retStr Str.empty) := by kernel_rfl

theorem meets_decode2 (b : Array UInt8) (t u : Tok) (h : ∀ x ∈ b.toList, x.toNat < 128) (hz : b.size ≤ 100000) :
    Meets (Builtin.«bytes.decode» ⟨[.bytes b t, .str (Str.ofString "ascii") u], []⟩) (fun _ R s => ∀ t' k, R (.ok (.ret (.str (strOfB b) t'))) { s with toks := k }) := by
  refine .of_wp fun prog w A R s hS => ?_
  obtain ⟨l⟩ := b
  cases l with
  | nil =>
    rw [decode_nil]
    exact wpAny_bind (wpAny_rule (wpAny_bind (wpAny_mkStr (wpAny_pure ⟨_, rfl, hS _ _⟩) (by decide))))
  | cons c cs =>
    rw [show (⟨c :: cs⟩ : Array UInt8) = (c :: cs).toArray from rfl, decode_cons]
    refine wpAny_bind (wpAny_mkStr ?_ (by decide))
    refine wpAny_bind (wpAny_mkStr ?_ (by decide))
    refine wpAny_bind (wpAny_mkStr ?_ (by decide))
    exact wpAny_bind (call_function_meets KBd.kind_text KBd.plain_text KBd.entry_text (KBd.args_text _ _ _ _) (meets_text2 h hz) (wpAny_pure ⟨_, rfl, hS _ _⟩))
theorem args_bytes_decode_2 (a b : Value) : argsOk "bytes.decode" ⟨[a, b], []⟩ := by
  unfold argsOk; rw [signature?_of (id := "bytes.decode") (n := ['e', 'd', 'o', 'c', 'e', 'd']) (o := ['s', 'e', 't', 'y', 'b']) (by kernel_rfl) FB.owner_bytes]; kernel_rfl
section
variable {c : Wd} {fr : Fx} {m m' m₁ m₂ : Loc} {st st' st₁ st₂ st₃ : Sto} {ρ : Rho} {s : Shared} {G : Shp}
theorem Meth.decode {b : Array UInt8} : Meth c fr st (.bytes b) "decode" (.builtin "bytes.decode") [.bytes b] := fun m ρ x pl rx => by
  obtain ⟨t, rfl⟩ := rx
  refine .look fun A s Q E _ I hQ => ?_
  exact KBd.method (hQ (.builtin "bytes.decode", [.bytes b t]) s.toks ⟨rfl, .cons ⟨t, rfl⟩ .nil⟩)
theorem CallT.decode {b : Array UInt8} (h : ∀ x ∈ b.toList, x.toNat < 128) (hz : b.size ≤ 100000) : CallT c fr (.builtin "bytes.decode") [.bytes b, .str (Str.ofString "ascii")] [] st (.ok (.str (strOfB b))) st := .look2 fun m ρ x z A s Q E rx rz hA I hQ => by
  obtain ⟨t, rfl⟩ := rx; obtain ⟨u, rfl⟩ := rz
  exact call_meets FB.slot_bytes_decode (typeIs_bytes _ _ _) FB.entry_bytes_decode (args_bytes_decode_2 _ _) (meets_decode2 b t u h hz) fun t' k => hQ _ _ ⟨_, rfl⟩
theorem Meth.encode {x : Str} : Meth c fr st (.str x) "encode" (.builtin "str.encode") [.str x] := fun m ρ y pl rx => by
  obtain ⟨t, rfl⟩ := rx
  refine .look fun A s Q E _ I hQ => ?_
  have h := hQ (.builtin "str.encode", [.str x t]) s.toks ⟨rfl, .cons ⟨t, rfl⟩ .nil⟩
  with_reducible exact GM.of (.str x t) (typeIs_str _ _ _) F.slot_str_encode F.type_str_encode GM.noRef h
theorem CallT.encode {x : Str} (h : ∀ c ∈ x.cps.toList, c < 128) (hz : x.length ≤ 100000) : CallT c fr (.builtin "str.encode") [.str x, .str (Str.ofString "ascii")] [] st (.ok (.bytes (asB x))) st := .look2 fun m ρ y z A s Q E rx rz hA I hQ => by
  obtain ⟨t, rfl⟩ := rx; obtain ⟨u, rfl⟩ := rz
  exact call_meets F.slot_str_encode (typeIs_str _ _ _) F.entry_str_encode (F.args_str_encode_2 _ _) (meets_encode x t u h hz) fun t' k => hQ _ _ ⟨_, rfl⟩
end
end Mine
end
section
set_option Elab.async false
set_option maxRecDepth 100000
set_option linter.unusedVariables false
namespace Mine
open PySem PySem.Spec PySem.Calls PyProof.Rows PySem.W PySem.NumText
open Builtin Builtin.Str
section
variable {prog : Program} {w : World} {A : Around} {E : Value → Shared → Prop} {s : Shared}
theorem wpAny_reprUnder_str {b : Nat} {x : Str} {t : Tok} {Q : Value → Shared → Prop} (h : Q (.str (reprText x) s.toks) { s with toks := s.toks + 1 }) (hx : (reprText x).length ≤ sizeLine) : wpAny (model prog w) A (pyReprObjUnder b (.str x t)) Q E s := by
  unfold pyReprObjUnder pyReprObjBy
  refine wpAny_bind (wpAny_cRoomFor_byValue rfl ?_)
  refine wpAny_bind (wpAny_specialOf (name := Str.ofString "__repr__") (typeIs_str _ _ _) F.slot_str_repr.lookup ?_)
  refine wpAny_bind (wpAny_callSpecialIfBoundBy?_slotG (name := Str.ofString "__repr__") (typeIs_str _ _ _) F.slot_str_repr.toG ?_)
  have e : reprUnder? (.builtin "str.__repr__") = none := rfl
  simp only [e]
  refine call_gives F.slot_str_repr (typeIs_str _ _ _) F.entry_str_repr (F.args_str_repr_1 _) (gives_str_repr x t) ⟨hx, ?_⟩
  exact wpAny_bind (wpAny_isInstance (T := "str") (b := true) rfl isSubtype_str_str (wpAny_pure h))
end
/-- the digits that %d lays, w wide -/
def dz (z : Bool) (w : Option Nat) (i : Int) : List Nat :=
  let f : Percent := { zero := z, width := w, type := 100 }
  let text := percentInt f (decide (i < 0)) (Str.ofString (toString ((i.natAbs : Nat) : Int))).cps.toList
  (percentField f true text).getD text
inductive Pct (n : Nat) : List Nat → List V → List Nat → Prop
  | nil : Pct n [] [] []
  | lit {r l t vs out} : r.span (· != 37) = (l, t) → r = l ++ t → l ≠ [] → l.length ≠ n → Pct n t vs out → Pct n r vs (l ++ out)
  | dec {d r i vs out} : (50 ≤ d ∧ d ≤ 57) → i.natAbs.log2 < 1920 → Pct n r vs out → Pct n (37 :: 48 :: d :: 100 :: r) (.int i :: vs) (dz true (some (d - 48)) i ++ out)
  | dec0 {r i vs out} : i.natAbs.log2 < 1920 → Pct n r vs out → Pct n (37 :: 100 :: r) (.int i :: vs) (dz false none i ++ out)
  | str {r x vs out} : Pct n r vs out → Pct n (37 :: 115 :: r) (.str x :: vs) (x.cps.toList ++ out)
  | rep {r x vs out} : (reprText x).length ≤ sizeLine → Pct n r vs out → Pct n (37 :: 114 :: r) (.str x :: vs) ((reprText x).cps.toList ++ out)
abbrev PSt := List Value × Writer × List Nat
theorem str_app_list (T : Str) (l m : List Nat) : T ++ (⟨l.toArray⟩ : Str) ++ (⟨m.toArray⟩ : Str) = T ++ (⟨(l ++ m).toArray⟩ : Str) := by
  have e : (T ++ (⟨l.toArray⟩ : Str) ++ (⟨m.toArray⟩ : Str)).cps = (T ++ (⟨(l ++ m).toArray⟩ : Str)).cps := by
    simp [Str.cps_append]
  exact congrArg Str.mk e
section
variable {M : Model} {A : Around} {E : Value → Shared → Prop} {ρ : Rho} {n : Nat} {f : Nat → PSt → Sem (ForInStep PSt)}
structure Turns (M : Model) (A : Around) (E : Value → Shared → Prop) (n : Nat) (f : Nat → PSt → Sem (ForInStep PSt)) : Prop where
  fin : ∀ x p w s (R : ForInStep PSt → Shared → Prop), ¬ tooLong w.total = true → R (.done (p, w, [])) s → wpAny M A (f x (p, w, [])) R E s
  lit : ∀ x p w r l t s (R : ForInStep PSt → Shared → Prop), ¬ tooLong w.total = true → r.span (· != 37) = (l, t) → l ≠ [] → l.length ≠ n → R (.yield (p, w.add ⟨l.toArray⟩ none, t)) s → wpAny M A (f x (p, w, r)) R E s
  dec : ∀ x i u p w d r s (R : ForInStep PSt → Shared → Prop), ¬ tooLong w.total = true → (50 ≤ d ∧ d ≤ 57) → i.natAbs.log2 < 1920 → (∀ o k, o = none → R (.yield (p, w.add ⟨(dz true (some (d - 48)) i).toArray⟩ o, r)) { s with toks := k }) → wpAny M A (f x (.int i u :: p, w, 37 :: 48 :: d :: 100 :: r)) R E s
  dec0 : ∀ x i u p w r s (R : ForInStep PSt → Shared → Prop), ¬ tooLong w.total = true → i.natAbs.log2 < 1920 → (∀ o k, o = none → R (.yield (p, w.add ⟨(dz false none i).toArray⟩ o, r)) { s with toks := k }) → wpAny M A (f x (.int i u :: p, w, 37 :: 100 :: r)) R E s
  str : ∀ x y u p w r s (R : ForInStep PSt → Shared → Prop), ¬ tooLong w.total = true → (∀ o k, KPc.Obj o y → R (.yield (p, w.add ⟨y.cps.toList.toArray⟩ o, r)) { s with toks := k }) → wpAny M A (f x (.str y u :: p, w, 37 :: 115 :: r)) R E s
  rep : ∀ x y u p w r s (R : ForInStep PSt → Shared → Prop), ¬ tooLong w.total = true → (reprText y).length ≤ sizeLine → (∀ o k, KPc.Obj o (reprText y) → R (.yield (p, w.add ⟨(reprText y).cps.toList.toArray⟩ o, r)) { s with toks := k }) → wpAny M A (f x (.str y u :: p, w, 37 :: 114 :: r)) R E s
theorem pct_loop (H : Turns M A E n f) {fmt : List Nat} {vs : List V} {out : List Nat} (h : Pct n fmt vs out) : ∀ (k a : Nat) (ps : List Value) (w : Writer) (T : Str) (N : Nat) (s : Shared) (Q : PSt → Shared → Prop), RepL ρ ps vs → fmt.length ≤ k → KPc.Good w T N → N + out.length ≤ 1000000 →
    (∀ w' k, KPc.Good w' (T ++ (⟨out.toArray⟩ : Str)) (N + out.length) → Q ([], w', []) { s with toks := k }) → wpAny M A (forIn (List.range' a k 1) (ps, w, fmt) f) Q E s := by
  induction h with
  | nil =>
    intro k a ps w T N s Q rp hk g hN hQ
    obtain rfl := rp.inv0
    have fin : Q ([], w, []) s := hQ w s.toks (by
      have e : T ++ (⟨([] : List Nat).toArray⟩ : Str) = T := by
        have : (T ++ (⟨([] : List Nat).toArray⟩ : Str)).cps = T.cps := by simp [Str.cps_append]
        exact congrArg Str.mk this
      rw [e]; exact g)
    cases k with
    | zero => exact wpAny_pure fin
    | succ k =>
      rw [List.range'_succ]
      exact KPc.turn (H.fin a [] w s _ (KPc.short_good g (by simp at hN; omega)) fin)
  | @lit r l t vs out h1 e h2 h3 h4 ih =>
    intro k a ps w T N s Q rp hk g hN hQ
    have hl : 0 < l.length := List.length_pos_iff.mpr h2
    rw [e, List.length_append] at hk
    rw [List.length_append] at hN
    obtain ⟨k, rfl⟩ : ∃ j, k = j + 1 := ⟨k - 1, by omega⟩
    rw [List.range'_succ]
    refine KPc.turn (H.lit a ps w r l t s _ (KPc.short_good g (by omega)) h1 h2 h3 ?_)
    refine ih k (a + 1) ps _ (T ++ (⟨l.toArray⟩ : Str)) (N + l.length) s Q rp (by omega) (KPc.good_add g (KPc.obj_none rfl)) (by omega) fun w' k' g' => hQ w' k' ?_
    rw [str_app_list, Nat.add_assoc] at g'
    rw [List.length_append]
    exact g'
  | @dec d r i vs out h1 h2 h3 ih =>
    intro k a ps w T N s Q rp hk g hN hQ
    obtain ⟨x, ps', rfl, ⟨u, rfl⟩, rp'⟩ := rp.inv1
    rw [List.length_append] at hN
    simp only [List.length_cons] at hk
    obtain ⟨k, rfl⟩ : ∃ j, k = j + 1 := ⟨k - 1, by omega⟩
    rw [List.range'_succ]
    refine KPc.turn (H.dec a i u ps' w d r s _ (KPc.short_good g (by omega)) h1 h2 fun o tk ho => ?_)
    refine ih k (a + 1) ps' _ (T ++ (⟨(dz true (some (d - 48)) i).toArray⟩ : Str)) (N + (dz true (some (d - 48)) i).length) _ Q rp' (by omega) (KPc.good_add g (KPc.obj_none ho)) (by omega) fun w' k' g' => hQ w' k' ?_
    rw [str_app_list, Nat.add_assoc] at g'
    rw [List.length_append]
    exact g'
  | @dec0 r i vs out h2 h3 ih =>
    intro k a ps w T N s Q rp hk g hN hQ
    obtain ⟨x, ps', rfl, ⟨u, rfl⟩, rp'⟩ := rp.inv1
    rw [List.length_append] at hN
    simp only [List.length_cons] at hk
    obtain ⟨k, rfl⟩ : ∃ j, k = j + 1 := ⟨k - 1, by omega⟩
    rw [List.range'_succ]
    refine KPc.turn (H.dec0 a i u ps' w r s _ (KPc.short_good g (by omega)) h2 fun o tk ho => ?_)
    refine ih k (a + 1) ps' _ (T ++ (⟨(dz false none i).toArray⟩ : Str)) (N + (dz false none i).length) _ Q rp' (by omega) (KPc.good_add g (KPc.obj_none ho)) (by omega) fun w' k' g' => hQ w' k' ?_
    rw [str_app_list, Nat.add_assoc] at g'
    rw [List.length_append]
    exact g'
  | @str r y vs out h3 ih =>
    intro k a ps w T N s Q rp hk g hN hQ
    obtain ⟨x, ps', rfl, ⟨u, rfl⟩, rp'⟩ := rp.inv1
    rw [List.length_append] at hN
    simp only [List.length_cons] at hk
    obtain ⟨k, rfl⟩ : ∃ j, k = j + 1 := ⟨k - 1, by omega⟩
    rw [List.range'_succ]
    refine KPc.turn (H.str a y u ps' w r s _ (KPc.short_good g (by omega)) fun o tk ho => ?_)
    refine ih k (a + 1) ps' _ (T ++ (⟨y.cps.toList.toArray⟩ : Str)) (N + y.cps.toList.length) _ Q rp' (by omega) (KPc.good_add g ho) (by omega) fun w' k' g' => hQ w' k' ?_
    rw [str_app_list, Nat.add_assoc] at g'
    rw [List.length_append]
    exact g'
  | @rep r y vs out h2 h3 ih =>
    intro k a ps w T N s Q rp hk g hN hQ
    obtain ⟨x, ps', rfl, ⟨u, rfl⟩, rp'⟩ := rp.inv1
    rw [List.length_append] at hN
    simp only [List.length_cons] at hk
    obtain ⟨k, rfl⟩ : ∃ j, k = j + 1 := ⟨k - 1, by omega⟩
    rw [List.range'_succ]
    refine KPc.turn (H.rep a y u ps' w r s _ (KPc.short_good g (by omega)) h2 fun o tk ho => ?_)
    refine ih k (a + 1) ps' _ (T ++ (⟨(reprText y).cps.toList.toArray⟩ : Str)) (N + (reprText y).cps.toList.length) _ Q rp' (by omega) (KPc.good_add g ho) (by omega) fun w' k' g' => hQ w' k' ?_
    rw [str_app_list, Nat.add_assoc] at g'
    rw [List.length_append]
    exact g'
end
end Mine
end
section
set_option Elab.async false
set_option maxRecDepth 100000
set_option linter.unusedVariables false
namespace Mine
open PySem PySem.Spec PySem.Calls PyProof.Rows PySem.W PySem.NumText
open Builtin Builtin.Str
section
variable {prog : Program} {w : World} {A : Around} {E : Value → Shared → Prop} {s : Shared} {ρ : Rho}
theorem obj_ite {c : Prop} [Decidable c] {x : Str} {t : Tok} : KPc.Obj (if c then some (.str x t) else none) x := by
  by_cases h : c
  · rw [if_pos h]; exact KPc.obj_some rfl
  · rw [if_neg h]; exact KPc.obj_none rfl
set_option maxHeartbeats 4000000 in
theorem percent_wp {F : Str} {t : Tok} {args : Value} {b : Bool} {vs : List V} {ps : List Value} {out : List Nat} {Q : Fin → Shared → Prop} (rp : RepL ρ ps vs) (hP : Pct F.length F.cps.toList vs out) (hz : out.length ≤ 1000000)
    (hi : ∀ Q : Bool → Shared → Prop, Q b s → wpAny (model prog w) A (isInstance args (.type "tuple")) Q E s)
    (ha : ∀ Q : Option Str → Shared → Prop, (∀ o, Q o s) → wpAny (model prog w) A (asStr? args) Q E s)
    (hf : ∀ Q : Bool → Shared → Prop, (∀ o, Q o s) → wpAny (model prog w) A (fillsMappingSlot args) Q E s)
    (h1 : b = true → ∀ Q : Option (Array Value) → Shared → Prop, Q (some ps.toArray) s → wpAny (model prog w) A (seqItems? args) Q E s) (h2 : b = false → ps = [args])
    (hQ : ∀ t' k, Q (.done (.ret (.str ⟨out.toArray⟩ t'))) { s with toks := k }) : wpAny (model prog w) A (percentFormat (.str F t) F args) Q E s := by
  unfold percentFormat
  refine wpAny_bind (hi _ ?_)
  refine wpAny_bind (ha _ fun o => ?_)
  refine wpAny_bind (hf _ fun o' => ?_)
  have go : ∀ (f : Nat → PSt → Sem (ForInStep PSt)), Turns (model prog w) A E F.length f → ∀ (K : PSt → Sem Fin), (∀ w' k, KPc.Good w' (⟨out.toArray⟩ : Str) out.length → wpAny (model prog w) A (K ([], w', [])) Q E { s with toks := k }) →
      wpAny (model prog w) A (forIn [:F.length] (ps, ({} : Writer), F.cps.toList) f >>= K) Q E s := by
    intro f H K hK
    rw [KPc.range_list]
    refine wpAny_bind (pct_loop H hP F.length 0 ps {} Str.empty 0 s _ rp (Nat.le_refl _) KPc.good0 (by omega) fun w' k g => hK w' k ?_)
    rw [KPc.empty_app, Nat.zero_add] at g
    exact g
  cases b with
  | true =>
    kpc_if
    refine wpAny_bind (h1 rfl _ ?_)
    refine wpAny_bind (wpAny_pure ?_)
    refine go _ ?_ _ fun w' k g => ?_
    rotate_left
    · kpc_if
      exact KPc.finish_ok g (by omega) rfl fun t k' => hQ t k'
    · refine ⟨fun x p w s R hw hR => ?_, fun x p w r l t s R hw h1 h2 h3 hR => ?_, fun x i u p w d r s R hw hd hi hR => ?_, fun x i u p w r s R hw hi hR => ?_, fun x y u p w r s R hw hR => ?_, fun x y u p w r s R hw hy hR => ?_⟩
      · refine wpAny_ite (KPc.ite_no hw ?_)
        kpc_if
        exact wpAny_pure hR
      · refine wpAny_ite (KPc.ite_no hw ?_)
        have hr : r.isEmpty = false := by
          cases r with
          | nil => cases h1; exact (h2 rfl).elim
          | cons _ _ => rfl
        refine wpAny_ite (KPc.ite_no (by rw [hr]; decide) ?_)
        rw [h1]
        have hl : (!l.isEmpty) = true := by cases l with | nil => exact (h2 rfl).elim | cons _ _ => rfl
        refine wpAny_ite (KPc.ite_yes hl ?_)
        refine wpAny_pure ?_
        rw [if_neg (by rw [beq_iff_eq]; exact h3)]
        exact hR
      · have hi2 : ((i.natAbs : Nat) : Int).natAbs.log2 < 1920 := KPt.hd2 hi
        have hR2 : ∀ (X : List Nat) o k, X = dz true (some (d - 48)) i → o = none → R (.yield (p, w.add ⟨X.toArray⟩ o, r)) { s with toks := k } := by
          rintro _ o k rfl ho
          exact hR o k ho
        have hd' : d = 50 ∨ d = 51 ∨ d = 52 ∨ d = 53 ∨ d = 54 ∨ d = 55 ∨ d = 56 ∨ d = 57 := by omega
        refine wpAny_ite (KPc.ite_no hw ?_)
        rcases hd' with rfl | rfl | rfl | rfl | rfl | rfl | rfl | rfl
        all_goals
          (repeat kpc_if)
          refine wpAny_bind ?_
          refine wpAny_holding ?_
          (repeat kpc_if)
          kpc_conv
          refine wpAny_pure ?_
          dsimp only
          generalize hpf : percentField _ true _ = pf
          cases pf with
          | none =>
            refine wpAny_pure ?_
            refine hR2 _ _ _ ?_ (ite_self _)
            exact (congrArg (fun o : Option (List Nat) => o.getD (percentInt { zero := true, type := 100 } (decide (i < 0)) (Str.ofString (toString ((i.natAbs : Nat) : Int))).cps.toList)) hpf).symm
          | some laid =>
            refine wpAny_pure ?_
            refine hR2 _ _ _ ?_ rfl
            exact (congrArg (fun o : Option (List Nat) => o.getD (percentInt { zero := true, type := 100 } (decide (i < 0)) (Str.ofString (toString ((i.natAbs : Nat) : Int))).cps.toList)) hpf).symm
      · have hi2 : ((i.natAbs : Nat) : Int).natAbs.log2 < 1920 := KPt.hd2 hi
        refine wpAny_ite (KPc.ite_no hw ?_)
        (repeat kpc_if)
        refine wpAny_bind ?_
        refine wpAny_holding ?_
        (repeat kpc_if)
        kpc_conv
        refine wpAny_pure ?_
        refine wpAny_pure ?_
        exact hR _ _ (ite_self _)
      · refine wpAny_ite (KPc.ite_no hw ?_)
        (repeat kpc_if)
        refine wpAny_bind ?_
        refine wpAny_holding ?_
        (repeat kpc_if)
        kpc_conv
        refine wpAny_pure ?_
        refine wpAny_pure ?_
        exact hR _ s.toks obj_ite
      · refine wpAny_ite (KPc.ite_no hw ?_)
        (repeat kpc_if)
        refine wpAny_bind ?_
        refine wpAny_holding ?_
        (repeat kpc_if)
        refine wpAny_bind ?_
        (repeat kpc_if)
        refine wpAny_reprUnder_str ?_ hy
        refine wpAny_bind (wpAny_of_eq (a := some _) rfl ?_)
        refine wpAny_pure ?_
        refine wpAny_pure ?_
        exact hR _ _ obj_ite
  | false =>
    obtain rfl := h2 rfl
    kpc_if
    refine wpAny_bind (wpAny_pure ?_)
    refine go _ ?_ _ fun w' k g => ?_
    rotate_left
    · kpc_if
      exact KPc.finish_ok g (by omega) rfl fun t k' => hQ t k'
    · refine ⟨fun x p w s R hw hR => ?_, fun x p w r l t s R hw h1 h2 h3 hR => ?_, fun x i u p w d r s R hw hd hi hR => ?_, fun x i u p w r s R hw hi hR => ?_, fun x y u p w r s R hw hR => ?_, fun x y u p w r s R hw hy hR => ?_⟩
      · refine wpAny_ite (KPc.ite_no hw ?_)
        kpc_if
        exact wpAny_pure hR
      · refine wpAny_ite (KPc.ite_no hw ?_)
        have hr : r.isEmpty = false := by
          cases r with
          | nil => cases h1; exact (h2 rfl).elim
          | cons _ _ => rfl
        refine wpAny_ite (KPc.ite_no (by rw [hr]; decide) ?_)
        rw [h1]
        have hl : (!l.isEmpty) = true := by cases l with | nil => exact (h2 rfl).elim | cons _ _ => rfl
        refine wpAny_ite (KPc.ite_yes hl ?_)
        refine wpAny_pure ?_
        rw [if_neg (by rw [beq_iff_eq]; exact h3)]
        exact hR
      · have hi2 : ((i.natAbs : Nat) : Int).natAbs.log2 < 1920 := KPt.hd2 hi
        have hR2 : ∀ (X : List Nat) o k, X = dz true (some (d - 48)) i → o = none → R (.yield (p, w.add ⟨X.toArray⟩ o, r)) { s with toks := k } := by
          rintro _ o k rfl ho
          exact hR o k ho
        have hd' : d = 50 ∨ d = 51 ∨ d = 52 ∨ d = 53 ∨ d = 54 ∨ d = 55 ∨ d = 56 ∨ d = 57 := by omega
        refine wpAny_ite (KPc.ite_no hw ?_)
        rcases hd' with rfl | rfl | rfl | rfl | rfl | rfl | rfl | rfl
        all_goals
          (repeat kpc_if)
          refine wpAny_bind ?_
          refine wpAny_holding ?_
          (repeat kpc_if)
          kpc_conv
          refine wpAny_pure ?_
          dsimp only
          generalize hpf : percentField _ true _ = pf
          cases pf with
          | none =>
            refine wpAny_pure ?_
            refine hR2 _ _ _ ?_ (ite_self _)
            exact (congrArg (fun o : Option (List Nat) => o.getD (percentInt { zero := true, type := 100 } (decide (i < 0)) (Str.ofString (toString ((i.natAbs : Nat) : Int))).cps.toList)) hpf).symm
          | some laid =>
            refine wpAny_pure ?_
            refine hR2 _ _ _ ?_ rfl
            exact (congrArg (fun o : Option (List Nat) => o.getD (percentInt { zero := true, type := 100 } (decide (i < 0)) (Str.ofString (toString ((i.natAbs : Nat) : Int))).cps.toList)) hpf).symm
      · have hi2 : ((i.natAbs : Nat) : Int).natAbs.log2 < 1920 := KPt.hd2 hi
        refine wpAny_ite (KPc.ite_no hw ?_)
        (repeat kpc_if)
        refine wpAny_bind ?_
        refine wpAny_holding ?_
        (repeat kpc_if)
        kpc_conv
        refine wpAny_pure ?_
        refine wpAny_pure ?_
        exact hR _ _ (ite_self _)
      · refine wpAny_ite (KPc.ite_no hw ?_)
        (repeat kpc_if)
        refine wpAny_bind ?_
        refine wpAny_holding ?_
        (repeat kpc_if)
        kpc_conv
        refine wpAny_pure ?_
        refine wpAny_pure ?_
        exact hR _ s.toks obj_ite
      · refine wpAny_ite (KPc.ite_no hw ?_)
        (repeat kpc_if)
        refine wpAny_bind ?_
        refine wpAny_holding ?_
        (repeat kpc_if)
        refine wpAny_bind ?_
        (repeat kpc_if)
        refine wpAny_reprUnder_str ?_ hy
        refine wpAny_bind (wpAny_of_eq (a := some _) rfl ?_)
        refine wpAny_pure ?_
        refine wpAny_pure ?_
        exact hR _ _ obj_ite
end
end Mine
end
section
set_option Elab.async false
set_option maxRecDepth 100000
set_option linter.unusedVariables false
namespace Mine
open PySem PySem.Spec PySem.Calls PyProof.Rows PySem.W PySem.NumText
open Builtin Builtin.Str
section
variable {c : Wd} {fr : Fx} {m m' m₁ m₂ : Loc} {st st' st₁ st₂ st₃ : Sto} {ρ : Rho} {s : Shared} {G : Shp}
theorem meets_pct {t0 : Sem PySem.Fin} {T : Str} {P : Shared → Prop}
    (h : ∀ (prog : Program) (w : World) (A : Around) (s : Shared) (Q : PySem.Fin → Shared → Prop) (E : Value → Shared → Prop), P s → (∀ t' k, Q (.done (.ret (.str T t'))) { s with toks := k }) → wpAny (model prog w) A t0 Q E s) :
    Meets t0 (fun _ R s => P s ∧ ∀ t' k, R (.ok (.ret (.str T t'))) { s with toks := k }) :=
  Meets.of_wp fun prog w A _ s hS => h prog w A.in1 s _ _ hS.1 fun t' k => ⟨_, rfl, hS.2 t' k⟩
theorem Bin2.modI {X : Str} {i : Int} {out : List Nat} (hP : Pct X.length X.cps.toList [.int i] out) (hi : i.natAbs.log2 < 1920) (hz : out.length ≤ 1000000) : Bin2 c fr .Mod (.str X) (.int i) (.str ⟨out.toArray⟩) := fun m st ρ x y rx ry => by
  obtain ⟨t, rfl⟩ := rx; obtain ⟨u, rfl⟩ := ry
  refine .look fun A s Q E _ _ h => ?_
  refine KPc.mod_lit rfl hi (fun h1 h2 => ?_) fun t' k => h _ _ ⟨t', rfl⟩
  have := meets_pct (t0 := «str.__mod__» ⟨[.str X t, .int i u], []⟩) (T := ⟨out.toArray⟩) (P := fun _ => True) fun prog w A s Q E _ hQ => by
    rw [KPc.entry_is]
    exact percent_wp (ρ := []) (b := false) (vs := [.int i]) (.cons ⟨u, rfl⟩ .nil) hP hz (fun Q h => wpAny_isInstance (typeIs_int _ _ _) F.sub_int_tuple h) (fun Q h => wpAny_of_eq (a := none) rfl (h _)) (fun Q h => wpAny_of_eq (KPc.fills _ _) (h _)) (fun e => nomatch e) (fun _ => rfl) hQ
  exact fun prog w A R s h => this prog w A R s ⟨trivial, h⟩
theorem Bin2.modS {X y : Str} {out : List Nat} (hP : Pct X.length X.cps.toList [.str y] out) (hy : y.length ≤ 1000000) (hz : out.length ≤ 1000000) : Bin2 c fr .Mod (.str X) (.str y) (.str ⟨out.toArray⟩) := fun m st ρ x y' rx ry => by
  obtain ⟨t, rfl⟩ := rx; obtain ⟨u, rfl⟩ := ry
  refine .look fun A s Q E _ _ h => ?_
  have := meets_pct (t0 := «str.__mod__» ⟨[.str X t, .str y u], []⟩) (T := ⟨out.toArray⟩) (P := fun _ => True) fun prog w A s Q E _ hQ => by
    rw [KPc.entry_is_s]
    exact percent_wp (ρ := []) (b := false) (vs := [.str y]) (.cons ⟨u, rfl⟩ .nil) hP hz (fun Q h => wpAny_isInstance (typeIs_str _ _ _) F.sub_str_tuple h) (fun Q h => wpAny_of_eq (a := some _) rfl (h _)) (fun Q h => KPc.wp_fills_str h) (fun e => nomatch e) (fun _ => rfl) hQ
  exact binaryOp_meets (T := "str") (op := .Mod) (typeIs_str s X t) (typeIs_str s y u) F.fills_str_mod F.slot_str_mod F.entry_str_mod (F.args_str_mod_2 _ _) this ⟨trivial, fun t' k => ⟨(fun e => nomatch e), h _ _ ⟨t', rfl⟩⟩⟩
theorem Ev.modT {l r : Expr} {pos : Pos} {X : Str} {n : Nat} {vs : List V} {out : List Nat} (h1 : Ev c fr l m st (.ok (.str X)) st₁) (h2 : Ev c fr r m st₁ (.ok (.obj n)) st₂) (hn : st₂[n]? = some (.tuple vs)) (hP : Pct X.length X.cps.toList vs out) (hz : out.length ≤ 1000000) :
    Ev c fr (.BinOp l .Mod r pos) m st (.ok (.str ⟨out.toArray⟩)) st₂ := .binop h1 h2 fun ρ x y rx ry => by
  obtain ⟨t, rfl⟩ := rx
  obtain ⟨p, hp, rfl⟩ := ry
  refine .look fun A s Q E _ I h => ?_
  obtain ⟨xs, hl, rl, _⟩ := I.store n _ p hn hp
  obtain ⟨ob, ho, hc, nn, hd⟩ := id hl
  have hT : s.TypeIs (.ref p.1) "tuple" := ⟨ob, ho, hc⟩
  have := meets_pct (t0 := «str.__mod__» ⟨[.str X t, .ref p.1], []⟩) (T := ⟨out.toArray⟩) (P := fun s => IsTup s.heap p.1 xs.toArray) fun prog w A s Q E hl hQ => by
    obtain ⟨ob, ho, hc, nn, hd⟩ := hl
    have hT : s.TypeIs (.ref p.1) "tuple" := ⟨ob, ho, hc⟩
    rw [KPt.entry_is_r]
    exact percent_wp (ρ := ρ) (b := true) rl hP hz (fun Q h => wpAny_isInstance hT KPt.sub_tt h) (fun Q h => KPt.asStr_ref ho hd (h _)) (fun Q h => KPt.fills_ref hT h) (fun _ Q h => wpAny_seqItems ho hd h) (fun e => nomatch e) hQ
  exact KPt.bin_left (T := "str") (U := "tuple") (op := .Mod) (by decide) (typeIs_str s X t) hT F.fills_str_mod KPt.fills_tuple F.slot_str_mod
    (call_meets F.slot_str_mod (typeIs_str s X t) F.entry_str_mod (F.args_str_mod_2 _ _) this ⟨hl, fun t' k => ⟨(fun e => nomatch e), h _ _ ⟨t', rfl⟩⟩⟩)
end
end Mine
end
section
set_option Elab.async false
set_option maxRecDepth 100000
set_option linter.unusedVariables false
namespace Mine
open PySem PySem.Spec PySem.Calls PyProof.Rows PySem.W

section
variable {c : Wd} {fr : Fx} {m m' m₁ m₂ : Loc} {st st' st₁ st₂ st₃ : Sto} {ρ ρ₁ ρ' : Rho} {s s₁ s' : Shared} {G : Shp}
/-- a record is kept -/
theorem Nxt.record (I : Inv c fr ρ m st s) (N : Nxt fr ρ ρ' s s') {a : Addr} {o : Obj} {vs : Array Value} (h : s.heap.get? a = some o) (hd : o.data = .fields vs) (hc : o.cls ≠ .none) : s'.heap.get? a = some o := by
  have no : ∀ b, (∃ o, s.heap.get? b = some o ∧ ∀ vs, o.data ≠ .fields vs) → a ≠ b := fun b h' q => by
    obtain ⟨o', e1, e2⟩ := h'
    rw [← q, h] at e1; cases e1; exact e2 _ hd
  refine (N.keep a o h (fun q => no a (I.there q) rfl) (no _ I.locals_there) (I.out.ne h hc)).1 fun q => no a (I.below a q).1 rfl
theorem Traced.kept (I : Inv c fr ρ m st s) (N : Nxt fr ρ ρ' s s') {B : Heap} {e : Addr} {C : String} {fl : Value} {k : Bool} (h : Traced s.heap B e C fl k) : Traced s'.heap B e C fl k := by
  obtain ⟨oe, vs, T, oT, ts, h1, h2, h3, h4, h5, h6, h7, h8, h9, h10⟩ := h
  exact ⟨oe, vs, T, oT, ts, N.record I h1 h3 (by rw [h2]; exact fun q => nomatch q), h2, h3, h4, h5, h6, h7, N.record I h8 h9 h10.2, h9, h10⟩
/-- the frame behind a handler -/
def Fx.handling (fr : Fx) (e : Addr) (b : Bool) : Fx := { fr with hd := some (.ref e), rs := b }
theorem Inv.handling (I : Inv c fr ρ m st s) {B : Heap} {e : Addr} {C : String} {fl : Value} {k b : Bool} (h : Traced s.heap B e C fl k) (hb : b = true → k = true) : Inv c (fr.handling e b) ρ m st s := by
  obtain ⟨oe, vs, T, oT, ts, h1, h2, h3, h4, h5⟩ := h
  exact ⟨I.stays, I.ff, I.ns, I.cells, I.len, I.store, I.sep, I.fresh, I.locals, I.low, I.below, I.head, I.bare, fun rr e' he => by
    cases he
    exact ⟨e, oe, vs, rfl, h1, h3, h4 (hb rr), (by rw [h2]; exact fun q => nomatch q)⟩, ⟨I.out.eq, I.out.ads, I.out.locals, I.out.below, I.out.base, I.out.tab⟩⟩
theorem Inv.handled (I : Inv c fr ρ m st s) (N : Nxt fr ρ ρ' s s') {e : Addr} {b : Bool} (I' : Inv c (fr.handling e b) ρ' m' st' s') : Inv c fr ρ' m' st' s' :=
  ⟨I'.stays, I'.ff, I'.ns, I'.cells, I'.len, I'.store, I'.sep, I'.fresh, I'.locals, I'.low, I'.below, I'.head, I'.bare, fun rr e he => by
    obtain ⟨a, ob, vs, h1, h2, h3, h4⟩ := I.hd rr e he
    exact ⟨a, ob, vs, h1, N.record I h2 h3 h4.2, h3, h4⟩, I'.out.eq, I'.out.ads, I'.out.locals, I'.out.below, I'.out.base, I'.out.tab⟩
theorem Nxt.handled {e : Addr} {b : Bool} (N : Nxt (fr.handling e b) ρ ρ' s s') : Nxt fr ρ ρ' s s' := ⟨N.keep, N.dom, N.new, N.os⟩
theorem Nxt.handling {e : Addr} {b : Bool} (N : Nxt fr ρ ρ' s s') : Nxt (fr.handling e b) ρ ρ' s s' := ⟨N.keep, N.dom, N.new, N.os⟩
theorem Sh.handling {names : List Str} {globs : List (Str × Value)} {z b : Bool} {k : Nat} {e : Addr} {cs : List (Str × Nat)} (h : Sh c ⟨names, globs, z, k, true, cs⟩ fr) (hb : b = true) : Sh c ⟨names, globs, false, k, true, cs⟩ (fr.handling e b) :=
  ⟨⟨⟨h.fri.own.kind, h.fri.own.globals, h.fri.own.builtins, h.fri.own.locs, h.fri.own.nodup, h.fri.own.scopeOk⟩, h.fri.nm, h.fri.glb⟩, ⟨h.fit.lv, hb, fun q => nomatch q⟩, fun q => ⟨(h.head q).top, (h.head q).frame⟩, h.cel, h.code, h.celk⟩
/-- a body's exception comes to a handler -/
theorem TriAt.caught (ow : fr.Head) {X : Exn} {b : Bool} {t : Expr} {body : List Stmt} {b₀ : Stmt} {suite : List Stmt} {pos pos' : Pos} {o : Out FV} (hb : b = true → X.k = true)
    (hbody : Ex c fr body m st (.exc X) m₁ st₁)
    (hmatch : ∀ (e : Addr) (ρ : Rho) (A : Around) (s : Shared) (Q : Flow → Shared → Prop) (E : Value → Shared → Prop), (fr.handling e b).At (A.mark (some (.ref e))) → Inv c (fr.handling e b) ρ m₁ st₁ s → (∃ o vs, s.heap.get? e = some o ∧ o.cls = .type X.cls ∧ o.data = .fields vs) →
      (∀ ρ' s', ρ <+: ρ' → Nxt (fr.handling e b) ρ ρ' s s' → Inv c (fr.handling e b) ρ' m₁ st₂ s' → wpAny (model c.prog c.w) (A.mark (some (.ref e))) (setFlight (.ref e) none) (fun _ s₂ => wpAny (model c.prog c.w) (A.mark (some (.ref e))) (execs (b₀ :: suite) fr.env) Q (notedBy (model c.prog c.w) (A.mark (some (.ref e))) fr.env (cameBackBy (model c.prog c.w) A fr.env E)) s₂) (notedBy (model c.prog c.w) (A.mark (some (.ref e))) fr.env (cameBackBy (model c.prog c.w) A fr.env E)) s') →
      wpAny (model c.prog c.w) A (handleBy (.ref e) fr.env [.ExceptHandler (some t) none (b₀ :: suite) pos']) Q E s)
    (hs : ∀ e, Ex c (fr.handling e b) (b₀ :: suite) m₁ st₂ o m₂ st₃) : TriAt c fr RepF ρ (exec (.Try body [.ExceptHandler (some t) none (b₀ :: suite) pos'] [] [] pos) fr.env) m st o m₂ st₃ := fun A s Q E hA I post => by
  obtain ⟨outer, hfs⟩ := ow.top
  have hf := ow.frame
  refine wpAny_Try_except ?_
  refine hbody ρ A s _ _ hA I ?_
  intro ρ₁ s₁ e p N I₁ hn hx
  have hat : fr.at? = fr.env.locals := by unfold Fx.at?; rw [hfs]; simp [hf]
  rw [hat] at hx
  refine exc_note I₁ hA.frames hfs hf N.dom hn hx fun h' S ht => exc_land (fs := frs fr) ht fun h'' S' ht' => ?_
  have SS := S.trans S'
  have hh : fr.rs = true → ∀ a, fr.hd = some (.ref a) → s.heap.get? a ≠ none := fun rr a ha => by
    obtain ⟨a', ob, vs, h1, h2, _⟩ := I.hd rr _ ha
    cases h1
    rw [h2]; simp
  have I₂ := I₁.soft SS I.stays hh I.hasOut
  have N₂ := N.soft I₁ SS
  have IH := I₂.handling ht' hb
  have hA' : (fr.handling e b).At (A.mark (some (.ref e))) := ⟨hA.frames, rfl, hA.depth, hA.units⟩
  refine hmatch e ρ₁ A { s₁ with heap := h'' } Q E hA' IH (by obtain ⟨oe, vs, T, oT, ts, h1, h2, h3, _⟩ := ht'; exact ⟨oe, vs, h1, h2, h3⟩) fun ρ₂ s₂ p₂ N₃ I₃ => ?_
  have ht₂ := ht'.kept IH N₃
  refine exc_land (fs := frs (fr.handling e b)) ht₂ fun h3 S3 ht3 => ?_
  have I₄ := Inv.soft (m := m₁) (st := st₂) (ρ := ρ₂) (fr := fr) (I₂.handled N₃.handled I₃) S3 I.stays hh I.hasOut
  have N₄ : Nxt fr ρ ρ₂ s { s₂ with heap := h3 } := Nxt.soft (I₂.handled N₃.handled I₃) (N₂.trans N₃.handled) S3
  have I₄' := I₄.handling ht3 hb
  refine hs e ρ₂ (A.mark (some (.ref e))) _ _ _ hA' I₄' ?_
  cases o with
  | ok f =>
    intro ρ₅ s₅ x p₅ N₅ I₅ rx
    exact post ρ₅ s₅ x (p.trans (p₂.trans p₅)) (N₄.trans N₅.handled) (I₄.handled N₅.handled I₅) rx
  | exc Y =>
    intro ρ₅ s₅ e₅ p₅ N₅ I₅ hn₅ hx₅
    have I₅' := I₄.handled N₅.handled I₅
    have N₅' := N₄.trans N₅.handled
    have hat' : (fr.handling e b).at? = fr.env.locals := hat
    rw [hat'] at hx₅
    have old : ∀ q, ({ s₂ with heap := h3 } : Shared).heap.get? q = none → s.heap.get? q = none := fun q hq => N₄.noneOf hq
    unfold notedBy
    refine exc_note I₅' (A := A.mark (some (.ref e))) hA.frames hfs hf N₅'.dom (old _ hn₅) (hx₅.sooner old) fun h6 S6 ht6 => ?_
    unfold cameBackBy
    have hf1 : ∃ oe vs T, h6.get? e₅ = some oe ∧ oe.data = .fields vs ∧ vs[1]? = some (.ref T) := by
      obtain ⟨oe, vs, T, oT, ts, h1, h2, h3, h4, h5, _⟩ := ht6
      exact ⟨oe, vs, T, h1, h3, h5⟩
    obtain ⟨oe, vs, T, q1, q2, q3⟩ := hf1
    refine wpAny_bind (wpAny_field q1 q2 q3 ?_)
    rw [if_neg (show ¬ ((Value.ref T == Value.none) = true) from by simp)]
    rw [hf]
    refine exc_fly (fs := frs fr) ht6 fun h7 S7 ht7 => ?_
    have S67 := S6.trans S7
    exact post ρ₅ _ e₅ (p.trans (p₂.trans p₅)) (N₅'.soft I₅' S67) (I₅'.soft S67 I.stays hh I.hasOut) (old _ hn₅) (.inr ⟨_, ht7, .inr (by rw [hat])⟩)

theorem Ex1.tryOk {body : List Stmt} {h₀ : ExceptHandler} {hs : List ExceptHandler} {pos : Pos} {f : FV} (hb : Ex c fr body m st (.ok f) m₁ st₁) : Ex1 c fr (.Try body (h₀ :: hs) [] [] pos) m st (.ok f) m₁ st₁ := fun ρ A s Q E hA I post => by
  refine wpAny_Try_except ?_
  refine hb ρ A s _ _ hA I fun ρ₁ s₁ x p N I₁ rx => ?_
  have := post ρ₁ s₁ x p N I₁ rx
  cases x with
  | next => exact wpAny_pure this
  | _ => exact this
structure Catch (T : String) : Prop where
  exc : isSubtype (.type T) (.type "BaseException") = pure true
  notTuple : isSubtype (.type ((Manifest.find? T).elim "type" fun x => x.metatype)) (.type "tuple") = pure false
theorem catch_ValueError : Catch "ValueError" := ⟨by rw [isSubtype_type]; kernel_rfl, by kernel_rfl⟩
theorem catch_OverflowError : Catch "OverflowError" := ⟨by rw [isSubtype_type]; kernel_rfl, by kernel_rfl⟩
theorem catch_TypeError : Catch "TypeError" := ⟨by rw [isSubtype_type]; kernel_rfl, by kernel_rfl⟩
theorem catch_AttributeError : Catch "AttributeError" := ⟨by rw [isSubtype_type]; kernel_rfl, by kernel_rfl⟩
theorem sub_VV : isSubtype (.type "ValueError") (.type "ValueError") = pure true := by rw [isSubtype_type]; kernel_rfl
theorem sub_VO : isSubtype (.type "ValueError") (.type "OverflowError") = pure false := by rw [isSubtype_type]; kernel_rfl
theorem sub_OV : isSubtype (.type "OverflowError") (.type "ValueError") = pure false := by rw [isSubtype_type]; kernel_rfl
theorem sub_OO : isSubtype (.type "OverflowError") (.type "OverflowError") = pure true := by rw [isSubtype_type]; kernel_rfl
theorem sub_AA : isSubtype (.type "AttributeError") (.type "AttributeError") = pure true := by rw [isSubtype_type]; kernel_rfl
theorem sub_AT : isSubtype (.type "AttributeError") (.type "TypeError") = pure false := by rw [isSubtype_type]; kernel_rfl
theorem Ex1.tryType (ow : fr.Head) {X : Exn} {b : Bool} {T : String} {t : Expr} {body : List Stmt} {b₀ : Stmt} {suite : List Stmt} {pos pos' : Pos} {o : Out FV} (hb : b = true → X.k = true) (hT : Catch T) (hsub : isSubtype (.type X.cls) (.type T) = pure true)
    (hbody : Ex c fr body m st (.exc X) m₁ st₁) (ht : ∀ e, Ev c (fr.handling e b) t m₁ st₁ (.ok (.glob (.type T))) st₁) (hs : ∀ e, Ex c (fr.handling e b) (b₀ :: suite) m₁ st₁ o m₂ st₂) :
    Ex1 c fr (.Try body [.ExceptHandler (some t) none (b₀ :: suite) pos'] [] [] pos) m st o m₂ st₂ := fun ρ => by
  refine .caught ow hb hbody (fun e ρ A s Q E hA I hty hk => ?_) hs
  refine wpAny_handleBy_builtin (X := X.cls) (T := T) (b := true) hT.exc hT.notTuple hsub ?_
  refine ht e ρ (A.mark (some (.ref e))) s _ _ hA I fun ρ' s' x p N I' rx => ⟨rx, ?_, hk ρ' s' p N I'⟩
  obtain ⟨o, vs, h1, h2, h3⟩ := hty
  exact ⟨o, N.record I h1 h3 (by rw [h2]; exact fun q => nomatch q), h2⟩
theorem Ex1.tryTup (ow : fr.Head) {X : Exn} {b b1 b2 : Bool} {T1 T2 : String} {t : Expr} {body : List Stmt} {b₀ : Stmt} {suite : List Stmt} {pos pos' : Pos} {o : Out FV} {n : Nat} (hb : b = true → X.k = true) (hT1 : Catch T1) (hT2 : Catch T2) (hsub1 : isSubtype (.type X.cls) (.type T1) = pure b1) (hsub2 : isSubtype (.type X.cls) (.type T2) = pure b2) (hor : (b1 || b2) = true)
    (hbody : Ex c fr body m st (.exc X) m₁ st₁) (ht : ∀ e, Ev c (fr.handling e b) t m₁ st₁ (.ok (.obj n)) st₂) (hn : st₂[n]? = some (.tuple [.glob (.type T1), .glob (.type T2)])) (hs : ∀ e, Ex c (fr.handling e b) (b₀ :: suite) m₁ st₂ o m₂ st₃) :
    Ex1 c fr (.Try body [.ExceptHandler (some t) none (b₀ :: suite) pos'] [] [] pos) m st o m₂ st₃ := fun ρ => by
  refine .caught ow hb hbody (fun e ρ A s Q E hA I hty hk => ?_) hs
  refine wpAny_handleBy_tup2 (X := X.cls) (T1 := T1) (T2 := T2) (b1 := b1) (b2 := b2) hT1.exc hT1.notTuple hT2.exc hT2.notTuple hsub1 hsub2 ?_
  refine ht e ρ (A.mark (some (.ref e))) s _ _ hA I fun ρ' s' x p N I' rx => ?_
  obtain ⟨q, hq, rfl⟩ := rx
  obtain ⟨xs, hl, rl, _⟩ := I'.store n _ q hn hq
  obtain ⟨y1, r1, e1, q1, rl1⟩ := rl.inv1
  obtain ⟨y2, r2, e2, q2, rl2⟩ := rl1.inv1
  have e3 := rl2.inv0
  obtain rfl : y1 = .type T1 := q1
  obtain rfl : y2 = .type T2 := q2
  subst e3 e2 e1
  refine ⟨q.1, rfl, hl, ?_, ?_⟩
  · obtain ⟨o, vs, h1, h2, h3⟩ := hty
    exact ⟨o, N.record I h1 h3 (by rw [h2]; exact fun q => nomatch q), h2⟩
  · rw [if_pos hor]
    exact hk ρ' s' p N I'
end
end Mine
end
section
set_option Elab.async false
set_option maxRecDepth 100000
set_option linter.unusedVariables false
namespace Mine
open PySem PySem.Spec PySem.Calls PyProof.Rows PySem.W

/-- the turns of a while -/
inductive Wl (c : Wd) (fr : Fx) (test : Expr) (body : List Stmt) : Nat → Loc → Sto → Out FV → Loc → Sto → Prop
  | stop {m st st₁} : Bt c fr test m st (.ok false) st₁ → Wl c fr test body 0 m st (.ok .next) m st₁
  | turn {m st st₁ m₁ st₂ f n o m' st'} : Bt c fr test m st (.ok true) st₁ → Ex c fr body m st₁ (.ok f) m₁ st₂ → (f = .next ∨ f = .cont) → Wl c fr test body n m₁ st₂ o m' st' → Wl c fr test body (n + 1) m st o m' st'
  | brk {m st st₁ m₁ st₂} : Bt c fr test m st (.ok true) st₁ → Ex c fr body m st₁ (.ok .brk) m₁ st₂ → Wl c fr test body 0 m st (.ok .next) m₁ st₂
  | ret {m st st₁ m₁ st₂ v} : Bt c fr test m st (.ok true) st₁ → Ex c fr body m st₁ (.ok (.ret v)) m₁ st₂ → Wl c fr test body 0 m st (.ok (.ret v)) m₁ st₂
  | exc {m st st₁ m₁ st₂ X} : Bt c fr test m st (.ok true) st₁ → Ex c fr body m st₁ (.exc X) m₁ st₂ → Wl c fr test body 0 m st (.exc X) m₁ st₂
  | excT {m st st₁ X} : Bt c fr test m st (.exc X) st₁ → Wl c fr test body 0 m st (.exc X) m st₁
section
variable {c : Wd} {fr : Fx} {m m' m₁ m₂ : Loc} {st st' st₁ st₂ st₃ : Sto} {ρ ρ₁ ρ' : Rho} {s s₁ s' : Shared} {G : Shp}
theorem old_kept (I : Inv c fr ρ m st s) : fr.rs = true → ∀ a, fr.hd = some (.ref a) → s.heap.get? a ≠ none := fun rr a ha => by
  obtain ⟨a', ob, vs, h1, h2, _⟩ := I.hd rr _ ha
  cases h1
  rw [h2]; simp
theorem came_back (hd : fr.Head) (I0 : Inv c fr ρ m st s) {M : Model} {A A' : Around} {E : Value → Shared → Prop} (hA : A'.frames = some fr.frames) {e : Addr} {Y : Exn} (I : Inv c fr ρ' m' st' s') (N : Nxt fr ρ ρ' s s') (hn : s.heap.get? e = none) (hx : ExcAt s.heap s'.heap e Y.cls fr.at? Y.k)
    (hE : ∀ s'', Nxt fr ρ ρ' s s'' → Inv c fr ρ' m' st' s'' → ExcAt s.heap s''.heap e Y.cls fr.at? Y.k → E (.ref e) s'') : notedBy M A' fr.env (cameBackBy M A fr.env E) (.ref e) s' := by
  obtain ⟨outer, hfs⟩ := hd.top
  have hf := hd.frame
  have hat : fr.at? = fr.env.locals := by unfold Fx.at?; rw [hfs]; simp [hf]
  rw [hat] at hx
  unfold notedBy
  refine exc_note I hA hfs hf N.dom hn hx fun h6 S6 ht6 => ?_
  unfold cameBackBy
  have hf1 : ∃ oe vs T, h6.get? e = some oe ∧ oe.data = .fields vs ∧ vs[1]? = some (.ref T) := by
    obtain ⟨oe, vs, T, oT, ts, h1, h2, h3, h4, h5, _⟩ := ht6
    exact ⟨oe, vs, T, h1, h3, h5⟩
  obtain ⟨oe, vs, T, q1, q2, q3⟩ := hf1
  refine wpAny_bind (wpAny_field q1 q2 q3 ?_)
  rw [if_neg (show ¬ ((Value.ref T == Value.none) = true) from by simp)]
  rw [hf]
  refine exc_fly (fs := frs fr) ht6 fun h7 S7 ht7 => ?_
  have S67 := S6.trans S7
  exact hE _ (N.soft I S67) (I.soft S67 I0.stays (old_kept I0) I0.hasOut) (.inr ⟨_, ht7, .inr (by rw [hat])⟩)
theorem Ex1.while_ (hd : fr.Head) {test : Expr} {body : List Stmt} {pos : Pos} {n : Nat} {o : Out FV} (h : Wl c fr test body n m st o m' st') : Ex1 c fr (.While test body [] pos) m st o m' st' := fun ρ A s Q E hA I post => by
  refine wpAny_While ?_
  refine codeAny_whileLoop (fun n s' => ∃ ρ₁ m₁ st₁, ρ <+: ρ₁ ∧ Nxt fr ρ ρ₁ s s' ∧ Inv c fr ρ₁ m₁ st₁ s' ∧ Wl c fr test body n m₁ st₁ o m' st') ?_ n ⟨ρ, m, st, List.prefix_refl _, Nxt.refl .., I, h⟩
  intro n s₁ ⟨ρ₁, m₁, st₁, p, N, I₁, W⟩
  have back : ∀ {ρ₂ s₂ e Y m₂ st₂}, o = .exc Y → m₂ = m' → st₂ = st' → ρ₁ <+: ρ₂ → Nxt fr ρ₁ ρ₂ s₁ s₂ → Inv c fr ρ₂ m₂ st₂ s₂ → s₁.heap.get? e = none → ExcAt s₁.heap s₂.heap e Y.cls fr.at? Y.k →
      notedBy (model c.prog c.w) A fr.env (cameBackBy (model c.prog c.w) A fr.env E) (.ref e) s₂ := by
    rintro ρ₂ s₂ e Y m₂ st₂ rfl rfl rfl p₂ N₂ I₂ hn hx
    have old : ∀ q, s₁.heap.get? q = none → s.heap.get? q = none := fun q hq => N.noneOf hq
    exact came_back hd I hA.frames I₂ (N.trans N₂) (old _ hn) (hx.sooner old) fun s'' N'' I'' hx'' => post ρ₂ s'' e (p.trans p₂) N'' I'' (old _ hn) hx''
  cases W with
  | stop h1 =>
    refine h1 ρ₁ A s₁ _ _ hA I₁ fun ρ₂ s₂ x p₂ N₂ I₂ rx => ?_
    obtain rfl : x = false := rx
    exact wpAny_pure (post ρ₂ s₂ _ (p.trans p₂) (N.trans N₂) I₂ trivial)
  | excT h1 =>
    refine h1 ρ₁ A s₁ _ _ hA I₁ fun ρ₂ s₂ e p₂ N₂ I₂ hn hx => back rfl rfl rfl p₂ N₂ I₂ hn hx
  | turn h1 h2 hf W =>
    refine h1 ρ₁ A s₁ _ _ hA I₁ fun ρ₂ s₂ x p₂ N₂ I₂ rx => ?_
    obtain rfl : x = true := rx
    refine h2 ρ₂ A s₂ _ _ hA I₂ fun ρ₃ s₃ y p₃ N₃ I₃ ry => ?_
    have : ∃ m, m < _ + 1 ∧ ∃ ρ₁ m₁ st₁, ρ <+: ρ₁ ∧ Nxt fr ρ ρ₁ s s₃ ∧ Inv c fr ρ₁ m₁ st₁ s₃ ∧ Wl c fr test body m m₁ st₁ o m' st' := ⟨_, Nat.lt_succ_self _, ρ₃, _, _, p.trans (p₂.trans p₃), N.trans (N₂.trans N₃), I₃, W⟩
    rcases hf with rfl | rfl
    · cases y <;> first | exact this | exact ry.elim
    · cases y <;> first | exact this | exact ry.elim
  | brk h1 h2 =>
    refine h1 ρ₁ A s₁ _ _ hA I₁ fun ρ₂ s₂ x p₂ N₂ I₂ rx => ?_
    obtain rfl : x = true := rx
    refine h2 ρ₂ A s₂ _ _ hA I₂ fun ρ₃ s₃ y p₃ N₃ I₃ ry => ?_
    have := post ρ₃ s₃ .next (p.trans (p₂.trans p₃)) (N.trans (N₂.trans N₃)) I₃ trivial
    cases y <;> first | exact this | exact ry.elim
  | ret h1 h2 =>
    refine h1 ρ₁ A s₁ _ _ hA I₁ fun ρ₂ s₂ x p₂ N₂ I₂ rx => ?_
    obtain rfl : x = true := rx
    refine h2 ρ₂ A s₂ _ _ hA I₂ fun ρ₃ s₃ y p₃ N₃ I₃ ry => ?_
    cases y <;> first | exact post ρ₃ s₃ _ (p.trans (p₂.trans p₃)) (N.trans (N₂.trans N₃)) I₃ ry | exact ry.elim
  | exc h1 h2 =>
    refine h1 ρ₁ A s₁ _ _ hA I₁ fun ρ₂ s₂ x p₂ N₂ I₂ rx => ?_
    obtain rfl : x = true := rx
    refine h2 ρ₂ A s₂ _ _ hA I₂ fun ρ₃ s₃ e p₃ N₃ I₃ hn hx => ?_
    have old : ∀ q, s₂.heap.get? q = none → s₁.heap.get? q = none := fun q hq => N₂.noneOf hq
    exact back rfl rfl rfl (p₂.trans p₃) (N₂.trans N₃) I₃ (old _ hn) (hx.sooner old)
end
end Mine
end
section
set_option Elab.async false
set_option maxRecDepth 100000
set_option linter.unusedVariables false
namespace Mine
open PySem PySem.Spec PySem.Calls PyProof.Rows PySem.W

/-- a name is stored: a local one, or one that is shared -/
inductive St1 (fr : Fx) : Loc → Sto → Str → V → Loc → Sto → Prop
  | loc {m st x v m'} : Up fr.names m x v m' → St1 fr m st x v m' st
  | cell {m st x v n o} : (x, n) ∈ fr.cells → fr.env.kindOf x = some .cell → st[n]? = some (.cell o) → St1 fr m st x v m (st.set n (.cell (some v)))
inductive StN (fr : Fx) : Loc → Sto → List Str → List V → Loc → Sto → Prop
  | nil {m st} : StN fr m st [] [] m st
  | cons {m st x v m₁ st₁ xs vs m' st'} : St1 fr m st x v m₁ st₁ → StN fr m₁ st₁ xs vs m' st' → StN fr m st (x :: xs) (v :: vs) m' st'
inductive NamesOf : List Expr → List Str → Prop
  | nil : NamesOf [] []
  | cons {x pos es xs} : NamesOf es xs → NamesOf (.Name x pos :: es) (x :: xs)
section
variable {c : Wd} {fr : Fx} {m m' m₁ m₂ : Loc} {st st' st₁ st₂ st₃ : Sto} {ρ ρ₁ ρ' : Rho} {s s₁ s' : Shared} {G : Shp}
theorem Ev.cell {x : Str} {pos : Pos} {n : Nat} {v : V} (ow : fr.Own) (hx : (x, n) ∈ fr.cells) (hk : fr.env.kindOf x = some .cell ∨ fr.env.kindOf x = some .free) (hn : st[n]? = some (.cell (some v))) (hd : (x == ("__debug__" : Str)) = false) (hd2 : (x == ("__classdict__" : Str)) = false) :
    Ev c fr (.Name x pos) m st (.ok v) st := fun ρ => .look fun A s Q E _ I h => by
  obtain ⟨p, hp, hc⟩ := I.cells x n hx
  obtain ⟨y, hy, ry, _⟩ := I.store n _ p hn hp
  cases y with
  | none => exact ry.elim
  | some y =>
    rcases hk with hk | hk
    · exact wpAny_Name (wpAny_loadName_cell ow.kind hk hc hy (h y s.toks ry)) hd
    · exact wpAny_Name (wpAny_loadName_free ow.kind hk hc hy (h y s.toks ry) hd2) hd
theorem TriAt.store1 (ow : fr.Own) {x : Str} {y : Value} {v : V} (hu : St1 fr m st x v m' st') (r : Rep ρ y v) : TriAt c fr RepU ρ (storeName fr.env x y) m st (.ok ()) m' st' := by
  cases hu with
  | loc hu => exact .storeLoc ow hu r
  | @cell n o hx hk hn =>
    intro A s Q E hA I post
    obtain ⟨p, hp, hc⟩ := I.cells x n hx
    obtain ⟨z, hz, rz, hpd⟩ := I.store n _ p hn hp
    refine wpAny_storeName_cell ow.kind hk hc hz fun h' hc' hs => ?_
    have kk : ∀ b o, s.heap.get? b = some o → b ≠ p.1 → b ≠ p.2 → h'.get? b = some o := fun b o e n1 _ => (hs.2 b n1).trans e
    refine post ρ _ () (List.prefix_refl ρ) (Nxt.put hp kk fun b o e => ?_) (I.put (o' := .cell (some v)) hp kk ⟨some y, hc', r, hpd⟩) trivial
    by_cases q : b = p.1
    · subst q
      obtain ⟨o', e', _⟩ := hc'
      exact ⟨o', e'⟩
    · exact ⟨o, (hs.2 b q).trans e⟩
theorem TriAt.bind1 (ow : fr.Own) {x : Str} {y : Value} {v : V} (hu : St1 fr m st x v m' st') (r : Rep ρ y v) : TriAt c fr RepU ρ (bindName fr.env x y) m st (.ok ()) m' st' := fun A s Q E hA I post =>
  wpAny_bindName (TriAt.store1 ow hu r A s Q E hA I post)
theorem TriAt.assignNames (ow : fr.Own) {es : List Expr} {xs : List Str} {vs : List V} (he : NamesOf es xs) : ∀ {m st m' st' ρ ys}, StN fr m st xs vs m' st' → RepL ρ ys vs → TriAt c fr RepU ρ (assignInOrder ((assignEach es fr.env).map (·.2)) ys) m st (.ok ()) m' st' := by
  induction he generalizing vs with
  | nil =>
    intro m st m' st' ρ ys hu rs
    cases hu
    obtain rfl := rs.inv0
    exact .pure trivial
  | @cons x pos es xs he ih =>
    intro m st m' st' ρ ys hu rs
    cases hu with
    | cons h1 h2 =>
      obtain ⟨y, ys', rfl, r1, r2⟩ := rs.inv1
      show TriAt c fr RepU ρ (do PySem.holding ys' (do standAt pos; bindName fr.env x y); assignInOrder ((assignEach es fr.env).map (·.2)) ys') m st _ m' st'
      exact TriAt.bind (TriAt.holding (TriAt.standThen (TriAt.bind1 ow h1 r1))) fun ρ₁ _ p _ => ih h2 (r2.mono p)
theorem TriAt.bindNames (ow : fr.Own) : ∀ {xs : List Str} {vs : List V} {m st m' st' ρ ys}, StN fr m st xs vs m' st' → RepL ρ ys vs → TriAt c fr RepU ρ (assignInOrder (xs.map fun n => bindName fr.env n) ys) m st (.ok ()) m' st'
  | [], _, _, _, _, _, _, _, hu, rs => by
    cases hu
    obtain rfl := rs.inv0
    exact .pure trivial
  | x :: xs, _, _, _, _, _, _, _, hu, rs => by
    cases hu with
    | cons h1 h2 =>
      obtain ⟨y, ys', rfl, r1, r2⟩ := rs.inv1
      exact TriAt.bind (TriAt.holding (TriAt.bind1 ow h1 r1)) fun ρ₁ _ p _ => TriAt.bindNames ow h2 (r2.mono p)
theorem RepL.reverse {xs : List Value} {vs : List V} (r : RepL ρ xs vs) : RepL ρ xs.reverse vs.reverse := by
  induction r with
  | nil => exact .nil
  | cons h1 _ ih => simpa using ih.append (.cons h1 .nil)
/-- a tuple is taken apart -/
theorem TriAt.unpack {n : Nat} {vs : List V} {k : Nat} {x : Value} (hz : fr.hd = none) (hn : st[n]? = some (.tuple vs)) (hk : vs.length = k) (rx : Rep ρ x (.obj n)) : TriAt c fr RepL ρ (unpackItems x k none) m st (.ok vs) m st := by
  intro A s Q E hA I post
  obtain ⟨p, hp, rfl⟩ := rx
  obtain ⟨xs, hl, rl, _⟩ := I.store n _ p hn hp
  have e : k = xs.toArray.size := by rw [List.size_toArray, rl.length, hk]
  rw [e]
  refine unpackItems_tuple (hA.handled.trans hz) hl fun h' hx => ?_
  have kk : ∀ b o, s.heap.get? b = some o → h'.get? b = some o := fun b o e => hx b o (Nat.ne_of_lt (Heap.lt_size e)) e
  exact post ρ _ _ (List.prefix_refl ρ) (Nxt.grow kk) (I.grow kk I.bare) (by simpa using rl)
theorem noSwap {t : Expr} {e : Expr} {line : Nat} {env : Env} (h : swapsWith e (some t) line env = pure false) : swapsWithSole [t] e line env = pure false := h
theorem Ex1.asgS {x : Str} {pos' pos : Pos} {e : Expr} {v : V} (ow : fr.Own) (h : Ev c fr e m st (.ok v) st₁) (hu : St1 fr m st₁ x v m' st₂) (hs : swapsWith e (some (.Name x pos')) pos.line fr.env = pure false) :
    Ex1 c fr (.Assign [.Name x pos'] e pos) m st (.ok .next) m' st₂ := fun ρ => by
  rw [exec_Assign_Name fr.env x pos' e pos hs]
  exact TriAt.standThen ((h ρ).bind fun ρ₁ y p ry => TriAt.standThen ((TriAt.bind1 ow hu ry).bind fun _ _ _ _ => .pure trivial))
theorem Ex1.asgTup (ow : fr.Own) (hz : fr.hd = none) {es : List Expr} {k : Nat} {xs : List Str} {tpos pos : Pos} {e : Expr} {n : Nat} {vs : List V} (hn : NamesOf es xs) (h : Ev c fr e m st (.ok (.obj n)) st₁) (ht : st₁[n]? = some (.tuple vs)) (hl : vs.length = es.length) (hu : StN fr m st₁ xs vs m' st₂)
    (hs : swapsWith e (some (.Tuple es k tpos)) pos.line fr.env = pure false) (hw : swappedStores [.Tuple es k tpos] e fr.env = pure none) (hstar : (assignEach es fr.env).findIdx? (·.1) = none) (hlen : (assignEach es fr.env).length = es.length) :
    Ex1 c fr (.Assign [.Tuple es k tpos] e pos) m st (.ok .next) m' st₂ := fun ρ => by
  rw [arm_exec_Assign]
  show TriAt c fr RepF ρ (standAt pos >>= fun _ => swapsWith e (some (.Tuple es k tpos)) pos.line fr.env >>= fun b => if b = true then _ else _) _ _ _ _ _
  rw [hs]
  refine TriAt.standThen ?_
  show TriAt c fr RepF ρ (eval e fr.env >>= fun v => swappedStores [.Tuple es k tpos] e fr.env >>= fun sw => assignStores fr.env v sw ((assignEach [.Tuple es k tpos] fr.env).map (·.2))) _ _ _ _ _
  rw [hw]
  refine (h ρ).bind fun ρ₁ x p rx => ?_
  show TriAt c fr RepF ρ₁ ((standAt tpos >>= fun _ => PySem.unpack x (assignEach es fr.env)) >>= fun _ => pure .next) _ _ _ _ _
  refine TriAt.bind (rep := RepU) (b := ()) (TriAt.standThen ?_) fun _ _ _ _ => .pure trivial
  unfold PySem.unpack
  rw [hstar, hlen]
  exact TriAt.bind (TriAt.holding (TriAt.unpack hz ht hl rx)) fun ρ₂ ys p₂ rys => TriAt.assignNames ow hn hu rys
theorem Ex1.asgSwap (ow : fr.Own) (hz : fr.hd = none) {es : List Expr} {k : Nat} {xs : List Str} {tpos pos : Pos} {e : Expr} {n : Nat} {vs : List V} (h : Ev c fr e m st (.ok (.obj n)) st₁) (ht : st₁[n]? = some (.tuple vs)) (hl : vs.length = xs.length) (hu : StN fr m st₁ xs.reverse vs.reverse m' st₂)
    (hs : swapsWith e (some (.Tuple es k tpos)) pos.line fr.env = pure false) (hw : swappedStores [.Tuple es k tpos] e fr.env = pure (some xs)) :
    Ex1 c fr (.Assign [.Tuple es k tpos] e pos) m st (.ok .next) m' st₂ := fun ρ => by
  rw [arm_exec_Assign]
  show TriAt c fr RepF ρ (standAt pos >>= fun _ => swapsWith e (some (.Tuple es k tpos)) pos.line fr.env >>= fun b => if b = true then _ else _) _ _ _ _ _
  rw [hs]
  refine TriAt.standThen ?_
  show TriAt c fr RepF ρ (eval e fr.env >>= fun v => swappedStores [.Tuple es k tpos] e fr.env >>= fun sw => assignStores fr.env v sw ((assignEach [.Tuple es k tpos] fr.env).map (·.2))) _ _ _ _ _
  rw [hw]
  refine (h ρ).bind fun ρ₁ x p rx => ?_
  show TriAt c fr RepF ρ₁ (rule "assign.swapped-stores" >>= fun _ => unpackItems x xs.length none >>= fun items => assignInOrder (xs.reverse.map fun n => bindName fr.env n) items.reverse >>= fun _ => pure .next) _ _ _ _ _
  refine TriAt.ruleThen ((TriAt.unpack hz ht hl rx).bind fun ρ₂ ys p₂ rys => (TriAt.bindNames ow hu rys.reverse).bind fun _ _ _ _ => .pure trivial)
/-- o[i] = e on a list -/
theorem TriAt.setAt {n : Nat} {l : List V} {i : Int} {x y z : Value} {v : V} (ho : st[n]? = some (.list l)) (h0 : 0 ≤ i) (h1 : i < 2 ^ 63) (h2 : i < l.length) (rx : Rep ρ x (.obj n)) (ry : Rep ρ y (.int i)) (rz : Rep ρ z v) :
    TriAt c fr RepU ρ (setItem x y z) m st (.ok ()) m (st.set n (.list (l.set i.toNat v))) := by
  intro A s Q E hA I post
  obtain ⟨p, hp, rfl⟩ := rx
  obtain ⟨t, rfl⟩ := ry
  obtain ⟨xs, hl, rl, hpd⟩ := I.store n _ p ho hp
  refine wpAny_setItem_list hl h0 h1 (by rw [List.size_toArray, rl.length]; exact h2) fun h' hl' hs => ?_
  have kk : ∀ b o, s.heap.get? b = some o → b ≠ p.1 → b ≠ p.2 → h'.get? b = some o := fun b o e n1 _ => (hs.2 b n1).trans e
  have e : xs.toArray.setIfInBounds i.toNat z = (xs.set i.toNat z).toArray := by simp
  rw [e] at hl'
  refine post ρ _ () (List.prefix_refl ρ) (Nxt.put hp kk fun b o e => ?_) (I.put (o' := .list _) hp kk ⟨_, hl', rl.set rz _, hpd⟩) trivial
  by_cases q : b = p.1
  · subst q
    obtain ⟨o', e', _⟩ := hl'
    exact ⟨o', e'⟩
  · exact ⟨o, (hs.2 b q).trans e⟩
theorem TriAt.setAtNeg {n : Nat} {l : List V} {i : Int} {x y z : Value} {v : V} (ho : st[n]? = some (.list l)) (h0 : i < 0) (h1 : -(l.length : Int) ≤ i) (hfit : -(2 ^ 63) ≤ i) (rx : Rep ρ x (.obj n)) (ry : Rep ρ y (.int i)) (rz : Rep ρ z v) :
    True := trivial
theorem Ex1.setAt {o i e : Expr} {spos pos : Pos} {n : Nat} {l : List V} {j : Int} {v : V} (h1 : Ev c fr e m st (.ok v) st₁) (h2 : Ev c fr o m st₁ (.ok (.obj n)) st₁) (h3 : Ev c fr i m st₁ (.ok (.int j)) st₁)
    (h4 : ∀ ρ x y z, Rep ρ x (.obj n) → Rep ρ y (.int j) → Rep ρ z v → TriAt c fr RepU ρ (setItem x y z) m st₁ (.ok ()) m st₂)
    (hs : swapsWith e (some (.Subscript o i spos)) pos.line fr.env = pure false) (hss : swappedStores [.Subscript o i spos] e fr.env = pure none) :
    Ex1 c fr (.Assign [.Subscript o i spos] e pos) m st (.ok .next) m st₂ := fun ρ => by
  rw [arm_exec_Assign]
  show TriAt c fr RepF ρ (standAt pos >>= fun _ => swapsWith e (some (.Subscript o i spos)) pos.line fr.env >>= fun b => if b = true then _ else _) _ _ _ _ _
  rw [hs]
  refine TriAt.standThen ?_
  show TriAt c fr RepF ρ (eval e fr.env >>= fun v => swappedStores [.Subscript o i spos] e fr.env >>= fun sw => assignStores fr.env v sw ((assignEach [.Subscript o i spos] fr.env).map (·.2))) _ _ _ _ _
  rw [hss]
  refine (h1 ρ).bind fun ρ₁ z p rz => ?_
  show TriAt c fr RepF ρ₁ (PySem.assign (.Subscript o i spos) fr.env z >>= fun _ => pure .next) _ _ _ _ _
  rw [arm_assign_Subscript]
  refine TriAt.bind (rep := RepU) (b := ()) ((TriAt.holding (h2 ρ₁)).bind fun ρ₂ x p₂ rx => (TriAt.holding (h3 ρ₂)).bind fun ρ₃ y p₃ ry => TriAt.standThen ((TriAt.holding (h4 ρ₃ x y z (rx.mono p₃) ry ((rz.mono p₂).mono p₃))).bind fun ρ₄ _ p₄ _ => ?_)) fun ρ₄ _ _ _ => .pure trivial
  intro A s Q E hA I post Γ p hΓ
  rw [Sem.wp_release]
  exact post ρ₄ s () (List.prefix_refl _) (Nxt.refl ..) I trivial
end
end Mine
end
section
set_option Elab.async false
set_option maxRecDepth 100000
set_option linter.unusedVariables false
namespace Mine
open PySem PySem.Spec PySem.Calls PyProof.Rows PySem.W
section
variable {c : Wd} {fr : Fx} {m m' m₁ m₂ : Loc} {st st' st₁ st₂ st₃ : Sto} {ρ ρ₁ ρ' : Rho} {s s₁ s' : Shared} {G : Shp}
/-- the kit's frame and ledger of a state -/
theorem Inv.kit (I : Inv c fr ρ m st s) : ∃ mm, Fr c.base fr.env.locals s.heap mm ∧ ∀ (i : Nat) (x : Str) (v : V), fr.names[i]? = some x → m[i]? = some v → v.isDef = true → ∃ y, mm x = some y ∧ Rep ρ y v := by
  obtain ⟨mm, hn, hm⟩ := I.ns
  exact ⟨mm, ⟨hn, I.stays, I.low⟩, hm⟩
def rest (c : Wd) (fr : Fx) (h : Heap) : List (Addr × Obj) := others h c.base fr.env.locals fr.env.locals
theorem Inv.news (I : Inv c fr ρ m st s) : News c.base fr.env.locals s.heap (rest c fr s.heap) := fun q hq => by
  have z := mem_others.mp hq
  exact ⟨z.1, z.2.1, z.2.2.2⟩
theorem rest_kept {h h' : Heap} {mm : Str → Option Value} {l : List (Addr × Obj)} (st : c.base.StaysIn h) (F' : Fr c.base fr.env.locals h' mm) (N' : News c.base fr.env.locals h' l) (hl : ∀ q ∈ rest c fr h, q ∈ l) : ∀ b o, h.get? b = some o → b ≠ fr.env.locals → h'.get? b = some o := fun b o e n => by
  cases z : c.base.get? b with
  | none => exact (N' (b, o) (hl _ (mem_others.mpr ⟨e, n, n, z⟩))).1
  | some o' =>
    have e' := st b o' z
    rw [e] at e'; cases e'
    exact F'.keep b o z
/-- all is kept, the frame's names alone are laid anew -/
theorem Inv.relay (x : Inv c fr ρ m st s) {h' : Heap} {mm : Str → Option Value} (hns : h'.Ns fr.env.locals mm) (hm : ∀ (i : Nat) (x : Str) (v : V), fr.names[i]? = some x → m[i]? = some v → v.isDef = true → ∃ y, mm x = some y ∧ Rep ρ y v)
    (k : ∀ b o, s.heap.get? b = some o → b ≠ fr.env.locals → h'.get? b = some o) {tk' : Nat} : Inv c fr ρ m st { s with heap := h', toks := tk' } := by
  obtain ⟨oL, es, ep, e1, e2, _⟩ := id hns
  refine ⟨fun b o e => k b o (x.stays b o e) (fun q => by rw [q, x.locals.1] at e; cases e), ?_, ⟨mm, hns, hm⟩, x.cells, x.len, fun i o p h1 h2 => ?_, x.sep, x.fresh, x.locals, x.low, ?_, x.head, x.bare, ?_, x.out.keep fun o e => k _ o e x.out.locals⟩
  · refine FunFrames.same x.ff fun b o e q f => ?_
    rcases x.frs_mem (fr := fr) q with rfl | q
    · exact ⟨oL, e1, fun vs e => by rw [e2] at e; cases e⟩
    · exact ⟨o, k b o e (fun q' => x.locals.2 (q' ▸ q)), f⟩
  · have n1 := x.fresh p.1 (mem_ads.mpr ⟨p, List.mem_of_getElem? h2, .inl rfl⟩)
    have n2 := x.fresh p.2 (mem_ads.mpr ⟨p, List.mem_of_getElem? h2, .inr rfl⟩)
    exact (x.store i o p h1 h2).keep (fun ob e => k _ _ e n1.2.1) (fun ob e => k _ _ e n2.2.1)
  · intro b hb
    obtain ⟨⟨ob, h1, h2⟩, h3⟩ := x.below b hb
    exact ⟨⟨ob, k b _ h1 (fun q => x.locals.2 (q ▸ hb)), h2⟩, h3⟩
  · intro rr e he
    obtain ⟨a, ob, vs, h1, h2, h3, h4⟩ := x.hd rr e he
    refine ⟨a, ob, vs, h1, k _ _ h2 (fun q => ?_), h3, h4⟩
    obtain ⟨o, q1, q2⟩ := x.locals_there
    rw [← q, h2] at q1; cases q1; exact q2 _ h3
theorem Nxt.relay {h' : Heap} (hns : ∃ o, h'.get? fr.env.locals = some o) (k : ∀ b o, s.heap.get? b = some o → b ≠ fr.env.locals → h'.get? b = some o) {tk' : Nat} : Nxt fr ρ ρ s { s with heap := h', toks := tk' } :=
  ⟨fun b o h h1 h2 h3 => ⟨fun _ => k b o h h2, fun _ => ⟨o.slots, k b o h h2⟩⟩, fun b o h => by
    by_cases q : b = fr.env.locals
    · subst q; exact hns
    · exact ⟨o, k b o h q⟩, fun _ h => .inl h, rfl⟩
/-- the step of the kit that laid h' -/
theorem Inv.step (I : Inv c fr ρ m st s) {mm : Str → Option Value} (hm : ∀ (i : Nat) (x : Str) (v : V), fr.names[i]? = some x → m[i]? = some v → v.isDef = true → ∃ y, mm x = some y ∧ Rep ρ y v) {h' : Heap} {l : List (Addr × Obj)} (F' : Fr c.base fr.env.locals h' mm) (N' : News c.base fr.env.locals h' l) (hl : ∀ q ∈ rest c fr s.heap, q ∈ l) {tk' : Nat} :
    Inv c fr ρ m st { s with heap := h', toks := tk' } ∧ Nxt fr ρ ρ s { s with heap := h', toks := tk' } := by
  have k := rest_kept I.stays F' N' hl
  obtain ⟨oL, es, ep, e1, e2, _⟩ := id F'.ns
  exact ⟨I.relay F'.ns hm k, Nxt.relay ⟨oL, e1⟩ k⟩

/-- C.name(args): a classmethod -/
theorem TriAt.callM (ok : c.Ok) {z : Bool} {k : Nat} {q f : Addr} {self : Value} {sv : V} {vs : List V} {ks : List (Str × V)} {es : List Expr} {kws : List Keyword} {pos : Pos} {r : Out V} (hfn : fnIn c.K f = true) (rs : Rep ρ self sv)
    (ha : EvL c fr es m st vs st₁) (hkw : EvK c fr kws m st₁ ks st₂) (hc : Calls c z k (.glob (.ref f)) (sv :: vs) ks st₂ r st₃) (hlv : fr.fit z k) (hs : es.any starred = false) :
    ∀ (A : Around) (s : Shared) (Q : Value → Shared → Prop) (E : Value → Shared → Prop), fr.At A → Inv c fr ρ m st s → s.heap.get? q = some (methodObj (.ref f) self) → Post c fr Rep ρ s r m st₃ Q E →
    wpAny (model c.prog c.w) A (PySem.callWith pos (.ref q) [] (backTo pos (starEach es fr.env)) (backToKw pos (keywordEach kws fr.env))) Q E s := fun A s Q E hA I hq post => by
  obtain ⟨k1, k2, k3⟩ := hkw.1 pos
  have b1 := backTo_any (pos := pos) (env := fr.env) hs
  refine callWith_of (P := MethP c.K q f self) (by rw [b1, k2]; rfl) (fun h X => keeps_M hfn h X) (evalArgs_gen b1 k1 ?_)
  refine ha ρ pos A s _ E hA I fun ρ₁ s₁ xs p n I₁ rxs => ?_
  refine hkw.2 ρ₁ pos A s₁ _ E hA I₁ fun ρ₂ s₂ ys p₂ n₂ I₂ rys => ?_
  have hq₂ := (n.trans n₂).record I hq rfl (fun e => nomatch e)
  refine ⟨⟨hq₂, I₂.kin ok⟩, ?_⟩
  rw [k3]
  refine wpAny_call (method_call hq₂ ?_)
  exact hc fr m ρ₂ (.ref f) (self :: xs) ys hlv rfl (.cons (rs.mono (p.trans p₂)) (rxs.mono p₂)) rys A s₂ Q E hA I₂ (post.after (p.trans p₂) (n.trans n₂))
/-- the looks of a class and its classmethod -/
def cmOk (K : Frag) (C : Addr) (name : Str) (p f : Addr) (mc : Value) : Bool :=
  specialIn K (.ref C) "__getattribute__" == some (some (.builtin "type.__getattribute__")) && typeIn K (.ref C) == some mc && readsIn K C mc && fnIn K f
theorem Ev.methC (ok : c.Ok) {z : Bool} {k : Nat} {o : Expr} {name : Str} {apos : Pos} {C p f : Addr} {mc : Value} {rest' : List Value} {vs : List V} {ks : List (Str × V)} {es : List Expr} {kws : List Keyword} {pos : Pos} {r : Out V} (h1 : Ev c fr o m st (.ok (.glob (.ref C))) st₁)
    (hcm : cmOk c.K C name p f mc = true) (hfc : findCls c.K (.ref C) mc name = some (.get (.builtin "classmethod.__get__") (.ref p) .none (.ref C))) (hrec : recIn c.K p "classmethod" = some (.ref f :: rest'))
    (ha : EvL c fr es m st₁ vs st₂) (hkw : EvK c fr kws m st₂ ks st₃) (hc : Calls c z k (.glob (.ref f)) (.glob (.ref C) :: vs) ks st₃ r st') (hlv : fr.fit z k) (hs : es.any starred = false)
    (he : ∃ pl : Sem Bool, eval (.Call (.Attribute o name apos) es kws pos) fr.env = (do
      let ov ← eval o fr.env
      standAt apos.atName
      let (f, first) ← holding [ov] (getMethod ov name pl)
      PySem.callWith pos f first (backTo pos (starEach es fr.env)) (backToKw pos (keywordEach kws fr.env)))) :
    Ev c fr (.Call (.Attribute o name apos) es kws pos) m st r st' := fun ρ => by
  simp only [cmOk, Bool.and_eq_true, beq_iff_eq] at hcm
  obtain ⟨⟨⟨c1, c2⟩, c3⟩, c4⟩ := hcm
  obtain ⟨pl, he⟩ := he
  rw [he]
  refine (h1 ρ).bind fun ρ₁ x p₁ rx => TriAt.standThen ?_
  obtain rfl : x = .ref C := rx
  intro A s Q E hA I post
  obtain ⟨mm, F, hm⟩ := I.kit
  refine wpAny_bind (wpAny_holding (method_of_cls F ok.kin c1 ?_))
  refine cls_cm F ok.kin I.news c2 c3 hfc hrec fun q h' F' N' hlt => ?_
  obtain ⟨I', N⟩ := I.step hm F' N' (fun q hq => .tail _ hq) (tk' := s.toks + 1)
  exact TriAt.callM ok c4 (sv := .glob (.ref C)) rfl ha hkw hc hlv hs A _ Q E hA I' (N' _ (.head _)).1 (post.after (List.prefix_refl _) N)
end
end Mine
end
section
set_option Elab.async false
set_option maxRecDepth 100000
set_option linter.unusedVariables false
namespace Mine
open PySem PySem.Spec PySem.Calls PyProof.Rows PySem.W
section
variable {c : Wd} {fr : Fx} {m m' m₁ m₂ : Loc} {st st' st₁ st₂ st₃ : Sto} {ρ ρ₁ ρ' : Rho} {s s₁ s' : Shared} {G : Shp}
theorem CallT.isYes (ok : c.Ok) {n : Nat} {D C : Addr} {fs : List (Str × V)} (h : st[n]? = some (.inst D fs)) (e : isIn c.K (.ref D) C = true) : CallT c fr (.builtin "isinstance") [.obj n, .glob (.ref C)] [] st (.ok (.bool true)) st := .look2 fun m ρ x z A s Q E rx rz hA I hQ => by
  obtain ⟨p, hp, rfl⟩ := rx
  obtain rfl : z = .ref C := rz
  obtain ⟨sl, es, k, IA, re⟩ := I.inst h hp
  exact isi_call (I.kin ok) (fun M => IA.type) e (fun q => nomatch q) (hQ _ s.toks rfl)
/-- not of the class -/
def noInst (K : Frag) (D C : Addr) : Bool :=
  kin_not K D C && plainGet K D "__class__" && hasDictIn K D && findIn K (.ref D) "__class__" == some (some (.builtin "object.__class__")) && specialIn K (.builtin "object.__class__") "__get__" == some (some (.builtin "getset_descriptor.__get__")) && takesIn K (.builtin "object.__class__") == some true && mroIn K D (.type "object") == some true
theorem CallT.isNo (ok : c.Ok) {n : Nat} {D C : Addr} {fs : List (Str × V)} (h : st[n]? = some (.inst D fs)) (e : noInst c.K D C = true) : CallT c fr (.builtin "isinstance") [.obj n, .glob (.ref C)] [] st (.ok (.bool false)) st := .look2 fun m ρ x z A s Q E rx rz hA I hQ => by
  simp only [noInst, Bool.and_eq_true, beq_iff_eq] at e
  obtain ⟨⟨⟨⟨⟨⟨e1, e2⟩, e3⟩, e4⟩, e5⟩, e6⟩, e7⟩ := e
  obtain ⟨p, hp, rfl⟩ := rx
  obtain rfl : z = .ref C := rz
  obtain ⟨sl, es, k, IA, re⟩ := I.inst h hp
  exact kin_callC (I.kin ok) IA e1 e2 e3 e4 e5 e6 e7 (hQ _ _ rfl)
/-- o + o: the left one's own def -/
structure BinFacts (c : Wd) (C D f : Addr) (nm : String) (b : Bool) : Prop where
  left : ∃ cd rest, clsIn c.K C = some cd ∧ cd.mro = .ref C :: rest
  right : ∃ cd rest g, clsIn c.K D = some cd ∧ cd.mro = .ref D :: rest ∧ findIn c.K (.ref D) (PySem.dunder nm) = some (some (.ref g))
  find : findIn c.K (.ref C) (PySem.dunder nm) = some (some (.ref f))
  fn : isFn c.K (.ref f) = true
  ne : C ≠ D
  sub : subIn c.K (.ref D) (.ref C) = some false
  inL : ∀ S, peek c.K S (numberSlotInPython (.ref C) nm) = some b
  inR : ∀ S, peek c.K S (numberSlotInPython (.ref D) nm) = some true
theorem TriAt.binO (ok : c.Ok) {op : Operator} {C D f : Addr} {n k : Nat} {fs gs : List (Str × V)} {x y : Value} {b : Bool} {r : Out V} (B : BinFacts c C D f op.info.2 b) (h1 : st[n]? = some (.inst C fs)) (h2 : st[k]? = some (.inst D gs)) (hc : CallT c fr (.ref f) [.obj n, .obj k] [] st r st')
    (hr : ∀ v, r = .ok v → ∃ j, v = .obj j) (rx : Rep ρ x (.obj n)) (ry : Rep ρ y (.obj k)) : TriAt c fr Rep ρ (binaryOp op x y) m st r m st' := fun A s Q E hA I post => by
  obtain ⟨p, hp, rfl⟩ := rx
  obtain ⟨q, hq, rfl⟩ := ry
  obtain ⟨sl, es, kk, IA, re⟩ := I.inst h1 hp
  obtain ⟨sl', es', kk', IB, re'⟩ := I.inst h2 hq
  have X := I.kin ok
  obtain ⟨cd, rest, hcd, hm⟩ := B.left
  obtain ⟨cd', rest', g, hcd', hm', hg⟩ := B.right
  unfold binaryOp
  refine wpAny_holding (wpAny_bind ?_)
  unfold binaryOp1
  refine wpAny_bind (IA.type.here (wpAny_bind (IB.type.here (wpAny_bind ((fills_K X hcd hm B.find).here ?_)))))
  have hne : (Value.ref C == Value.ref D) = false := by
    rw [beq_eq_false_iff_ne]; intro e; cases e; exact B.ne rfl
  simp only [hne, Bool.false_eq_true, if_false]
  refine wpAny_bind ((fills_K X hcd' hm' hg).here ?_)
  simp only [Bool.and_self, if_true]
  refine wpAny_bind ((looks_subIn X B.sub).here ?_)
  simp only [Bool.false_eq_true, if_false]
  rw [if_pos (show (true && !false) = true from rfl)]
  refine wpAny_bind ((Looks.of_peek X (B.inL _)).here ?_)
  have fin : ∀ {K : Option Value → Sem (Option Value)} {QQ : Option Value → Shared → Prop}, (∀ v s', Q v s' → v ≠ .notImplemented → wpAny (model c.prog c.w) A (K (some v)) QQ E s') →
      wpAny (model c.prog c.w) A (tryMethod (.ref p.1) (PySem.dunder op.info.2) (.ref q.1) >>= K) QQ E s := fun hk => by
    refine wpAny_bind ?_
    unfold tryMethod
    refine wpAny_bind (special_fn X IA B.find (beq_iff_eq.mp B.fn) (hc m ρ [.ref p.1, .ref q.1] [] (.cons ⟨p, hp, rfl⟩ (.cons ⟨q, hq, rfl⟩ .nil)) .nil A s _ _ hA I ?_))
    cases r with
    | ok v =>
      obtain ⟨j, rfl⟩ := hr v rfl
      intro ρ₁ s₁ x p₁ N₁ I₁ rx
      have := hk x s₁ (post ρ₁ s₁ x p₁ N₁ I₁ rx)
      obtain ⟨pj, _, rfl⟩ := rx
      exact wpAny_pure (this (fun e => nomatch e))
    | exc X => exact fun ρ₁ s₁ e p₁ N₁ I₁ hn hx => post ρ₁ s₁ e p₁ N₁ I₁ hn hx
  cases b with
  | true =>
    rw [if_pos rfl]
    refine wpAny_bind ((Looks.of_peek X (B.inR _)).here ?_)
    rw [if_neg (by decide)]
    exact fin fun v s' hv hne => by
      cases v <;> first | exact absurd rfl hne | exact wpAny_pure (wpAny_pure hv)
  | false =>
    rw [if_neg (by decide)]
    exact fin fun v s' hv hne => by
      cases v <;> first | exact absurd rfl hne | exact wpAny_pure (wpAny_pure hv)
theorem Ev.binO (ok : c.Ok) {op : Operator} {l r : Expr} {pos : Pos} {C D f : Addr} {n k : Nat} {fs gs : List (Str × V)} {b : Bool} {o : Out V} (h1 : Ev c fr l m st (.ok (.obj n)) st₁) (h2 : Ev c fr r m st₁ (.ok (.obj k)) st₂) (B : BinFacts c C D f op.info.2 b) (h3 : st₂[n]? = some (.inst C fs)) (h4 : st₂[k]? = some (.inst D gs))
    (hc : CallT c fr (.ref f) [.obj n, .obj k] [] st₂ o st₃) (hr : ∀ v, o = .ok v → ∃ j, v = .obj j) : Ev c fr (.BinOp l op r pos) m st o st₃ := .binop h1 h2 fun ρ x y rx ry => .binO ok B h3 h4 hc hr rx ry
end
end Mine
end
section
set_option Elab.async false
set_option maxRecDepth 100000
set_option linter.unusedVariables false
namespace Mine
open PySem PySem.Spec PySem.Calls PyProof.Rows PySem.W
/-- what super() looks at -/
structure SuperFacts (c : Wd) (f : Addr) (fd : FuncData) (ar : Arg) (cda cc C D f2 : Addr) (attr : Str) : Prop where
  node : ∃ oc od osl ccl cdd vs ccs file tf cl cld csl cdD, c.K.lookup f = some ⟨oc, od, .func fd, osl⟩ ∧ c.K.lookup cda = some ⟨ccl, cdd, .fields vs, ccs⟩ ∧ vs[2]? = some (.str file tf) ∧ ((c.prog.main.file : Str) == file) = true ∧
    c.K.lookup cc = some ⟨cl, cld, .cell (some (.ref D)), csl⟩ ∧ clsIn c.K D = some cdD
  par : (fd.params.posonlyargs ++ fd.params.args).head? = some ar
  sub : mroIn c.K C (.ref D) = some true
  sup : nsIn c.K mainGlobals "super" = some none
  top : (c.prog.main.scope.names.lookup ("super" : Str)).isSome = false
  boot : bootBuiltins "super" = some (.type "super")
  third : nsIn c.K cStatics "thirdparty.any" = some none
  find : ks_superIn c.K C D attr = some (some (.ref f2))
  ty : typeIn c.K (.ref f2) = some (.type "function")
  fn : fnIn c.K f2 = true
  nat : (attr == ("__class__" : Str)) = false
section
variable {c : Wd} {fr : Fx} {m m' m₁ m₂ : Loc} {st st' st₁ st₂ st₃ : Sto} {ρ ρ₁ ρ' : Rho} {s s₁ s' : Shared} {G : Shp}
theorem ExC.super (ok : c.Ok) {z : Bool} {k : Nat} {f cda cc C D f2 : Addr} {fd : FuncData} {ar : Arg} {attr q : Str} {scope : Scope} {L : Addr} {body rest : List Stmt} {p0 p1 apos cpos pos : Pos} {es : List Expr} {n : Nat} {fs : List (Str × V)} {vs : List V} {o : Out FV} {r : Out V}
    (S : SuperFacts c f fd ar cda cc C D f2 attr) (henv : fr.env = ksEnv q scope L f (.ref cda) cc) (hks : scope.names.lookup ("super" : Str) = some .globalImplicit) (hkc : scope.names.lookup ("__class__" : Str) = some .free) (hka : scope.names.lookup ar.arg = some .local) (hk : scope.kind = .function)
    (hv : Lk fr.names m ar.arg (.obj n)) (h : st[n]? = some (.inst C fs)) (ha : EvL c fr es m st vs st₁) (hc : Calls c z k (.glob (.ref f2)) (.obj n :: vs) [] st₁ r st₂) (hlv : fr.fit z k) (hs : es.any starred = false)
    (hr : (∃ v, r = .ok v ∧ Ex c fr rest m st₂ o m' st') ∨ ∃ X, r = .exc X ∧ o = .exc X ∧ m' = m ∧ st' = st₂)
    (hi : interactive fr.env = false) (hsw : swapsWith (.Call (.Attribute (.Call (.Name "super" p0) [] [] p1) attr apos) es [] cpos) none pos.line fr.env = pure false)
    (he : ∃ pl : Sem Bool, eval (.Call (.Attribute (.Call (.Name "super" p0) [] [] p1) attr apos) es [] cpos) fr.env = (do
      let ov ← attributeBase (.Call (.Name "super" p0) [] [] p1) attr fr.env (eval (.Call (.Name "super" p0) [] [] p1) fr.env)
      standAt apos.atName
      let (f, first) ← holding [ov] (getMethod ov attr pl)
      PySem.callWith cpos f first (backTo cpos (starEach es fr.env)) [])) :
    ExC c fr (.func body fr.env) (.Expr (.Call (.Attribute (.Call (.Name "super" p0) [] [] p1) attr apos) es [] cpos) pos :: rest) m st o m' st' := by
  intro ρ A s Q E hA I post
  obtain ⟨pl, he⟩ := he
  obtain ⟨oc, od, osl, ccl, cdd, vs', ccs, file, tf, cl, cld, csl, cdD, n1, n2, n3, n4, n5, n6⟩ := S.node
  obtain ⟨i, l1, l2⟩ := hv.at
  obtain ⟨mm, F, hm⟩ := I.kit
  obtain ⟨y, hy, p, hp, rfl⟩ := hm i _ _ l1 l2 rfl
  obtain ⟨sl, ees, kk, IA, re⟩ := I.inst h hp
  refine ks_wpAt_execs_cons (ks_wpAt_Expr_any ?_ hi hsw)
  refine ks_wpAt_MethodCall (pl := pl) ?_ he
  have F0 := F
  have N0 := I.news
  rw [henv] at F0 N0 ⊢
  refine ks_node (fd := fd) (ar := ar) F0 ok.kin N0 ok.top n1 S.par hy IA n2 n3 n4 n5 n6 S.sub S.sup S.nat hks hkc hka hk S.top S.boot fun so h' F' N' hlt => ?_
  rw [← henv]
  have hen : fr.env.locals = L := by rw [henv]
  rw [← hen] at F' N'
  obtain ⟨I', N1⟩ := I.step hm F' N' (fun q hq => .tail _ hq) (tk' := s.toks)
  obtain ⟨sl', ees', kk', IA', re'⟩ := I'.inst h hp
  refine ks_method F' ok.kin N' (.head _) IA' S.third S.find S.ty S.nat fun q h'' F'' N'' hlt' => ?_
  obtain ⟨I'', N2⟩ := I.step hm F'' N'' (fun q hq => .tail _ (.tail _ hq)) (tk' := s.toks + 1)
  refine TriAt.callM ok S.fn (sv := .obj n) ⟨p, hp, rfl⟩ ha .nil hc hlv hs A _ _ E hA I'' (N'' _ (.head _)).1 ?_
  rcases hr with ⟨v, rfl, hrest⟩ | ⟨X, rfl, rfl, rfl, rfl⟩
  · intro ρ₁ s₁ x p₁ N₁ I₁ rx
    exact wpAt_of_wpAny (hrest ρ₁ A s₁ Q E hA I₁ (post.after p₁ (N2.trans N₁)))
  · intro ρ₁ s₁ e p₁ N₁ I₁ hn hx
    exact (post.after (List.prefix_refl _) N2 : Post ..) ρ₁ s₁ e p₁ N₁ I₁ hn hx
end
end Mine
end
section
set_option Elab.async false
set_option maxRecDepth 100000
set_option linter.unusedVariables false
namespace Mine
open PySem PySem.Spec PySem.Calls PyProof.Rows PySem.W
section
variable {c : Wd} {fr : Fx} {m m' m₁ m₂ : Loc} {st st' st₁ st₂ st₃ : Sto} {ρ ρ₁ ρ' : Rho} {s s₁ s' : Shared} {G : Shp}
/-- f( *o): o a list -/
theorem Ev.callStar (ok : c.Ok) {fn e : Expr} {f : Value} {n : Nat} {vs : List V} {pos p : Pos} {r : Out V} (h1 : Ev c fr fn m st (.ok (.glob f)) st) (hk : keepIn c.K f = true) (h2 : Ev c fr e m st (.ok (.obj n)) st₁) (hn : st₁[n]? = some (.list vs)) (hsz : vs.length ≤ 1000)
    (hc : CallT c fr f vs [] st₁ r st₂) (he : eval (.Call fn [.Starred e p] [] pos) fr.env = (do PySem.callWith pos (← eval fn fr.env) [] (backTo pos (starEach [.Starred e p] fr.env)) [])) :
    Ev c fr (.Call fn [.Starred e p] [] pos) m st r st₂ := fun ρ => by
  rw [he]
  refine (h1 ρ).bind fun ρ₁ x p₁ rx => ?_
  obtain rfl : x = f := rx
  intro A s Q E hA I post
  refine callWith_S ok.kin hk (h2 ρ₁ A s _ E hA I fun ρ₂ s₂ y p₂ N₂ I₂ ry => ?_)
  obtain ⟨q, hq, rfl⟩ := ry
  obtain ⟨xs, hl, rl, _⟩ := I₂.store n _ q hn hq
  obtain ⟨mm, F, hm⟩ := I₂.kit
  obtain ⟨ob, h3, h4, nn, h5⟩ := id hl
  have fq := I₂.fresh q.1 (mem_ads.mpr ⟨q, List.mem_of_getElem? hq, .inl rfl⟩)
  refine star_seq F I₂.news (mem_others.mpr ⟨h3, fq.2.1, fq.2.1, fq.1⟩) h4 h5 (.inl rfl) (List.toList_toArray) (by rw [List.size_toArray, rl.length]; exact Nat.le_trans hsz (by decide)) fun h' F' N' => ?_
  obtain ⟨I₃, N₃⟩ := I₂.step hm F' N' (fun q hq => hq) (tk' := s₂.toks)
  exact ⟨I₃.kin ok, hc m ρ₂ xs [] rl .nil A _ Q E hA I₃ (post.after p₂ (N₂.trans N₃))⟩
end
end Mine
end
section
set_option Elab.async false
set_option maxRecDepth 100000
set_option linter.unusedVariables false
namespace Mine
open PySem PySem.Spec PySem.Calls PyProof.Rows PySem.W
section
variable {c : Wd} {fr : Fx} {m m' m₁ m₂ : Loc} {st st' st₁ st₂ st₃ : Sto} {ρ ρ₁ ρ' : Rho} {s s₁ s' : Shared} {G : Shp}
theorem Ev.andB {e f : Expr} {pos : Pos} {b d : Bool} (h1 : Ev c fr e m st (.ok (.bool b)) st₁) (h2 : b = true → Ev c fr f m st₁ (.ok (.bool d)) st₁) : Ev c fr (.BoolOp .And [e, f] pos) m st (.ok (.bool (b && d))) st₁ :=
  (Ev.and2 h1 .bool h2).conv (by cases b <;> rfl)
theorem Ev.orB {e f : Expr} {pos : Pos} {b d : Bool} (h1 : Ev c fr e m st (.ok (.bool b)) st₁) (h2 : b = false → Ev c fr f m st₁ (.ok (.bool d)) st₁) : Ev c fr (.BoolOp .Or [e, f] pos) m st (.ok (.bool (b || d))) st₁ :=
  (Ev.or2 h1 .bool h2).conv (by cases b <;> rfl)
theorem Ev.chain {l r r' : Expr} {op op' : CmpOp} {pos : Pos} : True := trivial
theorem Fx.fit.to {z z' : Bool} {k K : Nat} (h : fr.fit z K) (hk : k ≤ K) (hz : z' = true → z = true) : fr.fit z' k := ⟨by have := h.lv; omega, h.rs, fun q => h.z (hz q)⟩
theorem Fx.fit.id {z : Bool} {k K : Nat} (h : fr.fit z K) (hk : k ≤ K) : fr.fit z k := h.to hk fun q => q
/-- what stands in st stands in st' -/
def Ext (st st' : Sto) : Prop := ∃ g, st' = st ++ g
theorem Ext.refl : Ext st st := ⟨[], by simp⟩
theorem Ext.trans (h : Ext st st₁) (k : Ext st₁ st₂) : Ext st st₂ := by
  obtain ⟨g, rfl⟩ := h; obtain ⟨g', rfl⟩ := k
  exact ⟨g ++ g', by simp⟩
theorem Ext.add {l : Sto} : Ext st (st ++ l) := ⟨l, rfl⟩
theorem Ext.get (h : Ext st st') {n : Nat} {o : MObj} (e : st[n]? = some o) : st'[n]? = some o := by
  obtain ⟨g, rfl⟩ := h
  rw [List.getElem?_append_left (List.getElem?_eq_some_iff.mp e).1]; exact e
theorem Ext.len (h : Ext st st') : st.length ≤ st'.length := by
  obtain ⟨g, rfl⟩ := h
  simp
theorem Ext.set (h : Ext st st') {n : Nat} (hn : st.length ≤ n) (o : MObj) : Ext st (st'.set n o) := by
  obtain ⟨g, rfl⟩ := h
  rw [List.set_append_right _ _ hn]
  exact ⟨_, rfl⟩
theorem get_last {o : MObj} : (st ++ [o])[st.length]? = some o := by simp
theorem get_set {n : Nat} {o o' : MObj} (h : st[n]? = some o) : (st.set n o')[n]? = some o' := by
  rw [List.getElem?_set_self (List.getElem?_eq_some_iff.mp h).1]
-- raising by name
theorem Ex1.raiseA {x : Str} {np cpos pos : Pos} {es : List Expr} {vs : List V} {C newId initId : String} (ok : c.Ok) (F : Sh c G fr) (X : ExcCallFacts C newId initId) (Gf : ExcRaiseFacts C) (h0 : (x, .type C) ∈ G.globs) (h1 : EvL c fr es m st vs st₁) (hz : vs.length ≤ 1000) (hs : es.any starred = false) :
    Ex1 c fr (.Raise (some (.Call (.Name x np) es [] cpos)) none pos) m st (.exc ⟨C, G.z⟩) m st₁ := .raise X Gf (.glA ok F h0) F.fit.rs F.fit.z h1 hz hs
theorem Calls.of {z : Bool} {k : Nat} {f : V} {args : List V} {kw : List (Str × V)} {R : Out V} {S : Sto} (h : ∃ r st', Calls c z k f args kw st r st' ∧ (r = R ∧ st' = S)) : Calls c z k f args kw st R S := by
  obtain ⟨_, _, h, rfl, rfl⟩ := h
  exact h
theorem Ex1.setA (ok : c.Ok) {o e : Expr} {name : Str} {apos pos : Pos} {n : Nat} {C : Addr} {fs : List (Str × V)} {v : V} (h1 : Ev c fr e m st (.ok v) st₁) (h2 : Ev c fr o m st₁ (.ok (.obj n)) st₁) (h : st₁[n]? = some (.inst C fs)) (hl : fs.lookup name = none) (hz : fs.length ≤ 900)
    (hs : setOk c.K C name = true) (hsw : swapsWith e (some (.Attribute o name apos)) pos.line fr.env = pure false) (hss : swappedStores [.Attribute o name apos] e fr.env = pure none) : Ex1 c fr (.Assign [.Attribute o name apos] e pos) m st (.ok .next) m (st₁.set n (.inst C (fs ++ [(name, v)]))) :=
  .setNew ok h1 h2 h hl hz hs hsw hss
theorem Get.ownA (ok : c.Ok) {n : Nat} {C : Addr} {fs : List (Str × V)} {name : Str} {v : V} {attr : Option Value} (h : st[n]? = some (.inst C fs)) (hl : fs.lookup name = some v) (hg : plainGet c.K C name = true) (hh : hasDictIn c.K C = true) (ha : findIn c.K (.ref C) name = some attr) (hn : noGet c.K attr = true) (hv : v.plain = true) :
    Get c fr st (.obj n) name v := .own ok h hl hg hh ha hn hv
theorem set_last {o o' : MObj} : (st ++ [o]).set st.length o' = st ++ [o'] := by simp
theorem Calls.makeA (ok : c.Ok) {z : Bool} {k : Nat} {C fI : Addr} {args : List V} {kw : List (Str × V)} (hm : makesIn c.K C = true) (hi : findIn c.K (.ref C) "__init__" = some (some (.ref fI))) (hf : isFn c.K (.ref fI) = true)
    (hc : Calls c z k (.glob (.ref fI)) (.obj st.length :: args) kw (st ++ [.inst C []]) (.ok .none) st') : Calls c z (k + 1) (.glob (.ref C)) args kw st (.ok (.obj st.length)) st' := .make ok hm hi hf hc (.inl ⟨rfl, rfl⟩)
theorem Calls.makeX (ok : c.Ok) {z : Bool} {k : Nat} {C fI : Addr} {args : List V} {kw : List (Str × V)} {X : Exn} (hm : makesIn c.K C = true) (hi : findIn c.K (.ref C) "__init__" = some (some (.ref fI))) (hf : isFn c.K (.ref fI) = true)
    (hc : Calls c z k (.glob (.ref fI)) (.obj st.length :: args) kw (st ++ [.inst C []]) (.exc X) st') : Calls c z (k + 1) (.glob (.ref C)) args kw st (.exc X) st' := .make ok hm hi hf hc (.inr ⟨X, rfl, rfl⟩)
theorem Bt.chainE3 {l r r' : Expr} {op op' : CmpOp} {pos : Pos} {a b : V} {X : Exn} (h1 : Ev c fr l m st (.ok a) st₁) (h2 : Ev c fr r m st₁ (.ok b) st₂) (h3 : Cmp2 c fr st₂ op a b (.bool true))
    (h4 : Ev c fr r' m st₂ (.exc X) st₃) (hm : lastMarks [op, op'] [r, r'] = false) : Bt c fr (.Compare l [op, op'] [r, r'] pos) m st (.exc X) st₃ := fun ρ => by
  have e : isTrue (.Compare l [op, op'] [r, r'] pos) fr.env (eval (.Compare l [op, op'] [r, r'] pos) fr.env) = (do testChain pos (← eval l fr.env) [op, op'] [eval r fr.env, eval r' fr.env]) := by
    show (do testChain pos (← eval l fr.env) [op, op'] [eval r fr.env, markedBehindIn op' r' (eval r' fr.env)]) = _
    rw [markedBehindIn_of_false (show behindInMarks op' r' = false from hm)]
  rw [e]
  refine (h1 ρ).bind fun ρ₁ x p rx => ?_
  show TriAt c fr RepB ρ₁ (do
    let rv ← holding [x] (eval r fr.env)
    standAt pos
    let c ← holding [x, rv] (compareOp op x rv)
    release [x, rv] [c]
    if ← holding [c, rv] (truthy c) then testChain pos rv [op'] [eval r' fr.env] else pure false) _ _ _ _ _
  refine (TriAt.holding (h2 ρ₁)).bind fun ρ₂ y p₂ ry => TriAt.standThen ((TriAt.holding (h3 m ρ₂ x y (rx.mono p₂) ry)).bind fun ρ₃ z p₃ rz => ?_)
  have rel : ∀ {vs ks : List Value} {u : Sem Bool} {r : Out Bool}, TriAt c fr RepB ρ₃ u m st₂ r m st₃ → TriAt c fr RepB ρ₃ (release vs ks >>= fun _ => u) m st₂ r m st₃ := fun h A s Q E hA I post Γ p hΓ => by
    rw [Sem.wp_bind', Sem.wp_release]
    exact h A s Q E hA I post Γ p hΓ
  refine rel ((TriAt.holding (Truth.bool m ρ₃ z rz)).bind fun ρ₄ w p₄ rw' => ?_)
  rw [show w = true from rw']
  show TriAt c fr RepB ρ₄ (do
    let rv ← holding [y] (eval r' fr.env)
    standAt pos
    let c ← operate [y, rv] (compareOp op' y rv)
    holding [c] (truthy c)) _ _ _ _ _
  exact (TriAt.holding (h4 ρ₄)).bindE
theorem Bt.or2E {e f : Expr} {pos : Pos} {X : Exn} (h1 : Bt c fr e m st (.ok false) st₁) (h2 : Bt c fr f m st₁ (.exc X) st₂) : Bt c fr (.BoolOp .Or [e, f] pos) m st (.exc X) st₂ := fun ρ => by
  show TriAt c fr RepB ρ (do
    match BoolOp.Or, ← isTrue e fr.env (eval e fr.env) with
    | .And, false => pure false
    | .Or, true => pure true
    | _, _ => allTrue .Or [f] fr.env) _ _ _ _ _
  refine (h1 ρ).bind fun ρ₁ x p rx => ?_
  rw [show x = false from rx]
  show TriAt c fr RepB ρ₁ (do
    match BoolOp.Or, ← isTrue f fr.env (eval f fr.env) with
    | .And, false => pure false
    | .Or, true => pure true
    | _, _ => allTrue .Or [] fr.env) _ _ _ _ _
  exact (h2 ρ₁).bindE
theorem Ev.glI {x : Str} {pos : Pos} {i : Int} {t : Tok} (ok : c.Ok) (F : Sh c G fr) (hv : (x, .int i t) ∈ G.globs) : Ev c fr (.Name x pos) m st (.ok (.int i)) st := fun ρ A s Q E hA I post =>
  Ev.glA (m := m) (st := st) ok F hv ρ A s Q E hA I fun ρ' s' x p N I' rx => post ρ' s' x p N I' ⟨t, rx⟩
theorem Cmp2.leT {a b : Int} (h : a ≤ b) : Cmp2 c fr st .LtE (.int a) (.int b) (.bool true) := by
  have := Cmp2.leI (c := c) (fr := fr) (st := st) (a := a) (b := b)
  rwa [decide_eq_true h] at this
theorem Cmp2.leF {a b : Int} (h : ¬ a ≤ b) : Cmp2 c fr st .LtE (.int a) (.int b) (.bool false) := by
  have := Cmp2.leI (c := c) (fr := fr) (st := st) (a := a) (b := b)
  rwa [decide_eq_false h] at this
theorem Bt.chainF {l r r' : Expr} {op op' : CmpOp} {pos : Pos} {a b : V} (h1 : Ev c fr l m st (.ok a) st₁) (h2 : Ev c fr r m st₁ (.ok b) st₂) (h3 : Cmp2 c fr st₂ op a b (.bool false)) (hm : lastMarks [op, op'] [r, r'] = false) : Bt c fr (.Compare l [op, op'] [r, r'] pos) m st (.ok false) st₂ :=
  Bt.chain (d := .none) (t' := false) h1 h2 h3 (fun e => nomatch e) (fun e => nomatch e) hm
theorem XP.iteX {e : Expr} {b d r : List Stmt} {pos : Pos} {X : Exn} {P : Out FV → Loc → Sto → Prop} (h : ∀ fr, Sh c G fr → Bt c fr e m st (.exc X) st₁) (hP : P (.exc X) m st₁) : XP c G (.If e b d pos :: r) m st P := .exc (fun fr F => .iteE (h fr F)) hP
end
end Mine
end
section
set_option Elab.async false
set_option maxRecDepth 100000
set_option linter.unusedVariables false
namespace Mine
open PySem PySem.Spec PySem.Calls PyProof.Rows PySem.W
section
variable {c : Wd} {fr : Fx} {m m' m₁ m₂ : Loc} {st st' st₁ st₂ st₃ : Sto} {ρ ρ₁ ρ' : Rho} {s s₁ s' : Shared} {G : Shp}
theorem Ev.methCE (ok : c.Ok) {o : Expr} {name : Str} {apos : Pos} {C p f : Addr} {mc : Value} {rest' : List Value} {es : List Expr} {kws : List Keyword} {pos : Pos} {X : Exn} (h1 : Ev c fr o m st (.ok (.glob (.ref C))) st₁)
    (hcm : cmOk c.K C name p f mc = true) (hfc : findCls c.K (.ref C) mc name = some (.get (.builtin "classmethod.__get__") (.ref p) .none (.ref C))) (hrec : recIn c.K p "classmethod" = some (.ref f :: rest'))
    (ha : EvLE c fr es m st₁ X st₂) (hkw : ∀ pos, (backToKw pos (keywordEach kws fr.env)).all (·.1.isSome) = true ∧ (backToKw pos (keywordEach kws fr.env)).any (·.1.isNone) = false) (hs : es.any starred = false)
    (he : ∃ pl : Sem Bool, eval (.Call (.Attribute o name apos) es kws pos) fr.env = (do
      let ov ← eval o fr.env
      standAt apos.atName
      let (f, first) ← holding [ov] (getMethod ov name pl)
      PySem.callWith pos f first (backTo pos (starEach es fr.env)) (backToKw pos (keywordEach kws fr.env)))) :
    Ev c fr (.Call (.Attribute o name apos) es kws pos) m st (.exc X) st₂ := fun ρ => by
  simp only [cmOk, Bool.and_eq_true, beq_iff_eq] at hcm
  obtain ⟨⟨⟨c1, c2⟩, c3⟩, c4⟩ := hcm
  obtain ⟨pl, he⟩ := he
  rw [he]
  refine (h1 ρ).bind fun ρ₁ x p₁ rx => TriAt.standThen ?_
  obtain rfl : x = .ref C := rx
  intro A s Q E hA I post
  obtain ⟨mm, F, hm⟩ := I.kit
  refine wpAny_bind (wpAny_holding (method_of_cls F ok.kin c1 ?_))
  refine cls_cm F ok.kin I.news c2 c3 hfc hrec fun q h' F' N' hlt => ?_
  obtain ⟨I', N⟩ := I.step hm F' N' (fun q hq => .tail _ hq) (tk' := s.toks + 1)
  obtain ⟨k1, k2⟩ := hkw pos
  have b1 := backTo_any (pos := pos) (env := fr.env) hs
  exact callWith_of (P := MethP c.K q f (.ref C)) (by rw [b1, k2]; rfl) (fun h X => keeps_M c4 h X) (evalArgs_gen b1 k1 (ha ρ₁ pos A _ _ E hA I' ((post.after (List.prefix_refl _) N : Post c fr Rep ρ₁ _ (.exc X) m st₂ Q E))))
theorem noKw {env : Env} : ∀ pos, (backToKw pos (keywordEach [] env)).all (·.1.isSome) = true ∧ (backToKw pos (keywordEach [] env)).any (·.1.isNone) = false := fun _ => ⟨rfl, rfl⟩
end
end Mine
end
section
set_option Elab.async false
set_option maxRecDepth 100000
set_option linter.unusedVariables false
namespace Mine
open PySem PySem.Spec PySem.Calls PyProof.Rows PySem.W
/-- a block within a frame: a comprehension's -/
structure SubC (fr fr' : Fx) : Prop where
  frames : fr'.frames = fr.frames
  below : fr'.below = fr.env.locals :: fr.below
  hd : fr'.hd = fr.hd
  rs : fr'.rs = fr.rs
  out : fr'.out = fr.out
section
variable {c : Wd} {fr fr' : Fx} {m m' m₀ m₁ m₂ : Loc} {st st' st₁ st₂ st₃ : Sto} {ρ ρ₀ ρ₁ ρ' : Rho} {s s₀ s₁ s' : Shared} {G : Shp}
/-- a foreign object's change -/
theorem Inv.foreign (I : Inv c fr ρ m st s) (hz : fr.hd = none) {a : Addr} (h1 : a ∉ ads ρ) (h2 : a ≠ fr.env.locals) (h3 : a ∉ fr.below) (h4 : c.base.get? a = none) (h5 : a ≠ fr.out) {h' : Heap} (k : ∀ b o, b ≠ a → s.heap.get? b = some o → h'.get? b = some o) {tk : Nat} :
    Inv c fr ρ m st { s with heap := h', toks := tk } := by
  refine ⟨fun b o e => k b o (fun q => by rw [q, h4] at e; cases e) (I.stays b o e), ?_, ?_, I.cells, I.len, fun i o p e1 e2 => ?_, I.sep, I.fresh, I.locals, I.low, fun b hb => ?_, I.head, I.bare, (fun rr e he => by rw [hz] at he; cases he), I.out.keep fun o e => k _ o (Ne.symm h5) e⟩
  · refine FunFrames.same I.ff fun b o e q f => ⟨o, k b o (fun z => ?_) e, f⟩
    rcases I.frs_mem (fr := fr) q with q | q
    · exact h2 (z ▸ q)
    · exact h3 (z ▸ q)
  · obtain ⟨mm, hn, hm⟩ := I.ns
    exact ⟨mm, hn.at' fun o e => k _ o (Ne.symm h2) e, hm⟩
  · have mem : ∀ b, b = p.1 ∨ b = p.2 → b ≠ a := fun b hb q => h1 (q ▸ mem_ads.mpr ⟨p, List.mem_of_getElem? e2, hb⟩)
    exact (I.store i o p e1 e2).keep (fun ob e => k _ _ (mem _ (.inl rfl)) e) (fun ob e => k _ _ (mem _ (.inr rfl)) e)
  · obtain ⟨⟨ob, e1, e2⟩, e3⟩ := I.below b hb
    exact ⟨⟨ob, k b _ (fun q => h3 (q ▸ hb)) e1, e2⟩, e3⟩
theorem Nxt.foreign (N : Nxt fr ρ₀ ρ s₀ s) {a : Addr} (n : s₀.heap.get? a = none) {h' : Heap} (k : ∀ b o, b ≠ a → s.heap.get? b = some o → h'.get? b = some o) {tk : Nat} : Nxt fr ρ₀ ρ s₀ { s with heap := h', toks := tk } := by
  have ne : ∀ b o, s₀.heap.get? b = some o → b ≠ a := fun b o e q => by rw [q, n] at e; cases e
  refine ⟨fun b o e h1 h2 h4 => ⟨fun h3 => k b o (ne b o e) ((N.keep b o e h1 h2 h4).1 h3), fun h3 => ?_⟩, fun b o e => ?_, N.new, N.os⟩
  · obtain ⟨sl, z⟩ := (N.keep b o e h1 h2 h4).2 h3
    exact ⟨sl, k b _ (ne b o e) z⟩
  · obtain ⟨o', z⟩ := N.dom b o e
    exact ⟨o', k b _ (ne b o e) z⟩
theorem Inv.enterC (I : Inv c fr ρ m st s) (sb : SubC fr fr') {h₁ : Heap} (hL : s.heap.get? fr'.env.locals = none) (hlow : s.heap.objs.size ≤ fr'.env.locals) (k : ∀ b o, s.heap.get? b = some o → h₁.get? b = some o) {mm : Str → Option Value} (hns : h₁.Ns fr'.env.locals mm)
    (hm : ∀ (i : Nat) (x : Str) (v : V), fr'.names[i]? = some x → m₀[i]? = some v → v.isDef = true → ∃ y, mm x = some y ∧ Rep ρ y v) (hc : ∀ x n, (x, n) ∈ fr'.cells → ∃ p, ρ[n]? = some p ∧ fr'.env.cells.lookup x = some p.1) {g' : Array GenState} (hg : AllBare g') {d' : Drawn} {tk : Nat} {os' : OsState} :
    Inv c fr' ρ m₀ st ⟨h₁, g', d', tk, os'⟩ := by
  have y := I.grow k hg (d' := d') (tk' := tk) (os' := os')
  have hb0 : c.base.get? fr'.env.locals = none := by
    cases q : c.base.get? fr'.env.locals with
    | none => rfl
    | some o => have := I.stays _ o q; rw [hL] at this; cases this
  have ne : ∀ b, (∃ o, s.heap.get? b = some o) → b ≠ fr'.env.locals := fun b h e => by obtain ⟨o, h⟩ := h; rw [e, hL] at h; cases h
  have LT := I.locals_there
  refine ⟨y.stays, ?_, ⟨mm, hns, hm⟩, hc, I.len, y.store, I.sep, fun b hb => ?_, ⟨hb0, fun q => ?_⟩, ?_, fun b hb => ?_, fun e he b hf => ?_, hg, fun rr e he => y.hd (by rw [← sb.rs]; exact rr) e (by rw [← sb.hd]; exact he), ?_⟩
  · rw [sb.frames]
    exact y.ff
  · have f := I.fresh b hb
    obtain ⟨ob, e, _⟩ := I.there hb
    refine ⟨f.1, ne b ⟨ob, e⟩, fun q => ?_⟩
    rw [sb.below] at q
    rcases List.mem_cons.mp q with q | q
    · exact f.2.1 q
    · exact f.2.2 q
  · rw [sb.below] at q
    rcases List.mem_cons.mp q with q | q
    · obtain ⟨o, h, _⟩ := LT
      exact ne _ ⟨o, h⟩ q.symm
    · obtain ⟨⟨o, h, _⟩, _⟩ := I.below _ q
      exact ne _ ⟨o, h⟩ rfl
  · obtain ⟨o, h, _⟩ := LT
    exact Nat.le_trans (Nat.le_trans I.low (Nat.le_of_lt (Heap.lt_size h))) hlow
  · rw [sb.below] at hb
    rcases List.mem_cons.mp hb with rfl | hb
    · obtain ⟨o, h, f⟩ := LT
      exact ⟨⟨o, k _ _ h, f⟩, I.locals.1⟩
    · exact y.below b hb
  · rw [sb.frames] at he
    rw [sb.below]
    rcases I.head e he b hf with rfl | q
    · exact .inr (.head _)
    · exact .inr (.tail _ q)
  · have x := I.out
    obtain ⟨ps, q1, q2⟩ := x.tab
    refine ⟨by rw [sb.out]; exact x.eq, by rw [sb.out]; exact x.ads, fun q => ?_, fun q => ?_, by rw [sb.out]; exact x.base, ps, by rw [sb.out]; exact k _ _ q1, q2⟩
    · rw [← q, sb.out, q1] at hL; cases hL
    · rw [sb.out, sb.below] at q
      rcases List.mem_cons.mp q with q | q
      · exact x.locals q
      · exact x.below q
theorem Inv.backC (I : Inv c fr ρ m st s) (sb : SubC fr fr') (hL : s.heap.get? fr'.env.locals = none) {h₁ : Heap} (k : ∀ b o, s.heap.get? b = some o → h₁.get? b = some o) {tk : Nat} {g' : Array GenState} {d' : Drawn} {os' : OsState}
    (p : ρ <+: ρ') (N : Nxt fr' ρ ρ' ⟨h₁, g', d', tk, os'⟩ s') (I' : Inv c fr' ρ' m' st' s') (hos : os' = s.os) : Inv c fr ρ' m st' s' ∧ Nxt fr ρ ρ' s s' := by
  have ne : ∀ b, (∃ o, s.heap.get? b = some o) → b ≠ fr'.env.locals := fun b h e => by obtain ⟨o, h⟩ := h; rw [e, hL] at h; cases h
  have out : fr.env.locals ∉ ads ρ := fun q => (I.fresh _ q).2.1 rfl
  obtain ⟨oL, eL, fL⟩ := I.locals_there
  have bm : fr.env.locals ∈ fr'.below := by rw [sb.below]; exact .head _
  obtain ⟨slL, eL'⟩ := (N.keep _ oL (k _ _ eL) out (ne _ ⟨_, eL⟩) (by rw [sb.out]; exact Ne.symm I.out.locals)).2 bm
  have hdk : fr.rs = true → ∀ e, fr.hd = some e → ∃ a ob vs, e = .ref a ∧ s'.heap.get? a = some ob ∧ ob.data = .fields vs ∧ vs[2]? = some .none ∧ ob.cls ≠ .none := fun rr e he => I'.hd (by rw [sb.rs]; exact rr) e (by rw [sb.hd]; exact he)
  refine ⟨⟨I'.stays, ?_, ?_, ?_, I'.len, I'.store, I'.sep, fun b hb => ?_, I.locals, I.low, fun b hb => ?_, I.head, I'.bare, hdk, ?_⟩, ⟨fun b o h h1 h2 h3 => ?_, fun b o h => N.dom b o (k b o h), fun b hb => ?_, N.os.trans hos⟩⟩
  · have := I'.ff
    rw [sb.frames] at this
    exact this
  · obtain ⟨mm, ⟨o, es, ep, h1, h2, h3⟩, h4⟩ := I.ns
    rw [eL] at h1; cases h1
    exact ⟨mm, ⟨_, es, ep, eL', h2, h3⟩, fun i x v a1 a2 a3 => by obtain ⟨y, b1, b2⟩ := h4 i x v a1 a2 a3; exact ⟨y, b1, b2.mono p⟩⟩
  · intro x n hx
    obtain ⟨q, h1, h2⟩ := I.cells x n hx
    obtain ⟨l, rfl⟩ := p
    exact ⟨q, by rw [List.getElem?_append_left (List.getElem?_eq_some_iff.mp h1).1]; exact h1, h2⟩
  · have f := I'.fresh b hb
    rw [sb.below] at f
    exact ⟨f.1, fun q => f.2.2 (by rw [q]; exact .head _), fun q => f.2.2 (.tail _ q)⟩
  · exact I'.below b (by rw [sb.below]; exact .tail _ hb)
  · have x := I'.out
    exact ⟨I.out.eq, (by have := x.ads; rwa [sb.out] at this), I.out.locals, I.out.below, I.out.base, (by have := x.tab; rwa [sb.out] at this)⟩
  · have kk := N.keep b o (k b o h) h1 (ne b ⟨o, h⟩) (by rw [sb.out]; exact h3)
    constructor
    · intro hb
      refine kk.1 ?_
      rw [sb.below]
      intro q
      rcases List.mem_cons.mp q with q | q
      · exact h2 q
      · exact hb q
    · intro hb
      exact kk.2 (by rw [sb.below]; exact .tail _ hb)
  · rcases N.new b hb with q | q
    · exact .inl q
    · refine .inr ?_
      cases z : s.heap.get? b with
      | none => rfl
      | some o => have := k b o z; rw [q] at this; cases this

/-- an iterator at I over the values vs -/
structure Walk (c : Wd) (I : Addr) (ρ₀ : Rho) (ok : Sto → Prop) (vs : List V) (St : Nat → Heap → Prop) : Prop where
  keep : ∀ i h h', St i h → (∀ o, h.get? I = some o → h'.get? I = some o) → St i h'
  there : ∀ i h, St i h → ∃ o, h.get? I = some o
  item : ∀ {fr : Fx} {ρ : Rho} {m : Loc} {st : Sto} (i : Nat) (v : V) (A : Around) (s : Shared) (Q : Option Value → Shared → Prop) (E : Value → Shared → Prop), A.handled = none → ρ₀ <+: ρ → Inv c fr ρ m st s → ok st → vs[i]? = some v → St i s.heap →
    (∀ x h' tk, Rep ρ x v → St (i + 1) h' → (∀ b o, b ≠ I → s.heap.get? b = some o → h'.get? b = some o) → Q (some x) { s with heap := h', toks := tk }) → wpAny (model c.prog c.w) A (pyNext (.ref I)) Q E s
  done : ∀ {fr : Fx} {ρ : Rho} {m : Loc} {st : Sto} (A : Around) (s : Shared) (Q : Option Value → Shared → Prop) (E : Value → Shared → Prop), A.handled = none → ρ₀ <+: ρ → Inv c fr ρ m st s → ok st → St vs.length s.heap →
    (∀ h' tk, (∀ b o, b ≠ I → s.heap.get? b = some o → h'.get? b = some o) → Q none { s with heap := h', toks := tk }) → wpAny (model c.prog c.w) A (pyNext (.ref I)) Q E s
  self : ∀ i (A : Around) (s : Shared) (Q : Value → Shared → Prop) (E : Value → Shared → Prop), A.handled = none → St i s.heap → Q (.ref I) s → wpAny (model c.prog c.w) A (pyIter (.ref I)) Q E s
/-- I is none of ours -/
structure Alien (c : Wd) (fr : Fx) (ρ : Rho) (a : Addr) : Prop where
  ads : a ∉ ads ρ
  locals : a ≠ fr.env.locals
  below : a ∉ fr.below
  base : c.base.get? a = none
  out : a ≠ fr.out
theorem Alien.new (I : Inv c fr ρ m st s) {a : Addr} (h : s.heap.get? a = none) : Alien c fr ρ a := by
  refine ⟨fun q => ?_, fun q => ?_, fun q => ?_, ?_, I.out.old h⟩
  · obtain ⟨o, e, _⟩ := I.there q; rw [h] at e; cases e
  · obtain ⟨o, e, _⟩ := I.locals_there; rw [← q, h] at e; cases e
  · obtain ⟨⟨o, e, _⟩, _⟩ := I.below a q; rw [h] at e; cases e
  · cases z : c.base.get? a with
    | none => rfl
    | some o => have := I.stays a o z; rw [h] at this; cases this
theorem Alien.step {a : Addr} (x : Alien c fr ρ a) (N : Nxt fr ρ ρ' s s') {o : Obj} (h : s.heap.get? a = some o) : Alien c fr ρ' a ∧ s'.heap.get? a = some o := by
  refine ⟨⟨fun q => ?_, x.locals, x.below, x.base, x.out⟩, (N.keep a o h x.ads x.locals x.out).1 x.below⟩
  rcases N.new a q with q | q
  · exact x.ads q
  · rw [h] at q; cases q
/-- for .. in e -/
def SrcEv (c : Wd) (fr : Fx) (e : Expr) (m : Loc) (st : Sto) (vs : List V) (st' : Sto) (ok : Sto → Prop) : Prop :=
  ∀ ρ (A : Around) (s : Shared) (Q : Value → Shared → Prop) (E : Value → Shared → Prop), fr.At A → Inv c fr ρ m st s →
    (∀ ρ' s' I St, ρ <+: ρ' → Nxt fr ρ ρ' s s' → Inv c fr ρ' m st' s' → Walk c I ρ' ok vs St → St 0 s'.heap → s.heap.get? I = none → Alien c fr ρ' I → Q (.ref I) s') → wpAny (model c.prog c.w) A (eval e fr.env) (fun x s₁ => wpAny (model c.prog c.w) A (pyIter x) Q E s₁) E s
theorem SrcEv.list {e : Expr} {n : Nat} {vs : List V} (h : Ev c fr e m st (.ok (.obj n)) st₁) (hn : st₁[n]? = some (.list vs)) : SrcEv c fr e m st vs st₁ (fun st => st[n]? = some (.list vs)) := fun ρ A s Q E hA I hQ => by
  refine h ρ A s _ E hA I fun ρ₁ s₁ x p N I₁ rx => ?_
  obtain ⟨q, hq, rfl⟩ := rx
  obtain ⟨xs, hl, rl, _⟩ := I₁.store n _ q hn hq
  have hlt : q.1 < s₁.heap.objs.size := by obtain ⟨_, e, _⟩ := hl; exact Heap.lt_size e
  refine wpAny_pyIter_list hl ?_
  have hne : s₁.heap.get? s₁.heap.objs.size = none := Heap.get?_none_of_le (Nat.le_refl _)
  have kp : ∀ b o, s₁.heap.get? b = some o → (s₁.heap.push { cls := .type "list_iterator", data := .fields #[.ref q.1, .int 0 0] }).get? b = some o := fun b o e => Heap.get?_push_of_some _ e
  refine hQ ρ₁ _ s₁.heap.objs.size (fun i h => h.IsListIter s₁.heap.objs.size q.1 i) p (N.trans (Nxt.grow kp)) (I₁.grow kp I₁.bare) ?_ ⟨_, Heap.get?_push_size _ rfl, rfl, rfl⟩ (N.noneOf hne) (Alien.new I₁ hne)
  refine ⟨fun i h h' st k => st.at fun o e => k o e, fun i h st => by obtain ⟨o, e, _⟩ := st; exact ⟨o, e⟩, fun {fr ρ m st} i v A s Q E hh p I ok hv hst hQ => ?_, fun {fr ρ m st} A s Q E hh p I ok hst hQ => ?_, fun i A s Q E hh hst hQ => wpAny_pyIter_listiter hst hQ⟩
  · have hq' : ρ[n]? = some q := by obtain ⟨l, rfl⟩ := p; rw [List.getElem?_append_left (List.getElem?_eq_some_iff.mp hq).1]; exact hq
    obtain ⟨ys, hl', rl', _⟩ := I.store n _ q ok hq'
    obtain ⟨y, hy, ry⟩ := rl'.get hv
    refine wpAny_pyNext_list_item hst hl' (x := y) (by simpa using hy) fun h' hit' hs' => ?_
    exact hQ y h' s.toks ry hit' fun b o hb e => hs'.extBut b o hb e
  · have hq' : ρ[n]? = some q := by obtain ⟨l, rfl⟩ := p; rw [List.getElem?_append_left (List.getElem?_eq_some_iff.mp hq).1]; exact hq
    obtain ⟨ys, hl', rl', _⟩ := I.store n _ q ok hq'
    exact wpAny_pyNext_list_end hh hst hl' (by simp [rl'.length]) fun h' he' => hQ h' s.toks fun b o hb e => he' b o hb e
theorem SrcEv.tuple {e : Expr} {n : Nat} {vs : List V} (h : Ev c fr e m st (.ok (.obj n)) st₁) (hn : st₁[n]? = some (.tuple vs)) : SrcEv c fr e m st vs st₁ (fun st => st[n]? = some (.tuple vs)) := fun ρ A s Q E hA I hQ => by
  refine h ρ A s _ E hA I fun ρ₁ s₁ x p N I₁ rx => ?_
  obtain ⟨q, hq, rfl⟩ := rx
  obtain ⟨xs, hl, rl, _⟩ := I₁.store n _ q hn hq
  have hlt : q.1 < s₁.heap.objs.size := by obtain ⟨_, e, _⟩ := hl; exact Heap.lt_size e
  refine wpAny_pyIter_tuple hl ?_
  have hne : s₁.heap.get? s₁.heap.objs.size = none := Heap.get?_none_of_le (Nat.le_refl _)
  have kp : ∀ b o, s₁.heap.get? b = some o → (s₁.heap.push { cls := .type "tuple_iterator", data := .fields #[.ref q.1, .int 0 0] }).get? b = some o := fun b o e => Heap.get?_push_of_some _ e
  refine hQ ρ₁ _ s₁.heap.objs.size (fun i h => h.IsTupleIter s₁.heap.objs.size q.1 i) p (N.trans (Nxt.grow kp)) (I₁.grow kp I₁.bare) ?_ ⟨_, Heap.get?_push_size _ rfl, rfl, rfl⟩ (N.noneOf hne) (Alien.new I₁ hne)
  refine ⟨fun i h h' st k => by obtain ⟨o, e, r⟩ := st; exact ⟨o, k o e, r⟩, fun i h st => by obtain ⟨o, e, _⟩ := st; exact ⟨o, e⟩, fun {fr ρ m st} i v A s Q E hh p I ok hv hst hQ => ?_, fun {fr ρ m st} A s Q E hh p I ok hst hQ => ?_, fun i A s Q E hh hst hQ => wpAny_pyIter_tupleiter hst hQ⟩
  · have hq' : ρ[n]? = some q := by obtain ⟨l, rfl⟩ := p; rw [List.getElem?_append_left (List.getElem?_eq_some_iff.mp hq).1]; exact hq
    obtain ⟨ys, hl', rl', _⟩ := I.store n _ q ok hq'
    obtain ⟨y, hy, ry⟩ := rl'.get hv
    refine wpAny_pyNext_tuple_item hst hl' (x := y) (by simpa using hy) fun h' hit' hs' => ?_
    exact hQ y h' s.toks ry hit' fun b o hb e => hs'.extBut b o hb e
  · have hq' : ρ[n]? = some q := by obtain ⟨l, rfl⟩ := p; rw [List.getElem?_append_left (List.getElem?_eq_some_iff.mp hq).1]; exact hq
    obtain ⟨ys, hl', rl', _⟩ := I.store n _ q ok hq'
    exact wpAny_pyNext_tuple_end hh hst hl' (by simp [rl'.length]) fun h' he' => hQ h' s.toks fun b o hb e => he' b o hb e
theorem Walk.of {I : Addr} {n : Nat} {P : Nat → Value → Prop} {St : Nat → Heap → Prop} {vs : List V} (W : ∀ A : Around, A.handled = none → Walks c.prog c.w A I [I] [I] n P St) (there : ∀ i h, St i h → ∃ o, h.get? I = some o) (hl : vs.length = n)
    (hP : ∀ ρ i v x, vs[i]? = some v → P i x → Rep ρ x v) : Walk c I ρ₀ (fun _ => True) vs St := by
  have A₀ : ∃ A : Around, A.handled = none := ⟨{}, rfl⟩
  obtain ⟨A₀, h₀⟩ := A₀
  refine ⟨fun i h h' st k => (W A₀ h₀).frame i h h' st fun b hb o e => ?_, there, fun {fr ρ m st} i v A s Q E hh p I ok hv hst hQ => ?_, fun {fr ρ m st} A s Q E hh p I ok hst hQ => ?_, fun i A s Q E hh hst hQ => (W A hh).self i s Q E hst hQ⟩
  · rw [List.mem_singleton.mp hb] at e ⊢
    exact k o e
  · have hi : i < n := by rw [← hl]; exact (List.getElem?_eq_some_iff.mp hv).1
    refine (W A hh).item i s Q E hi hst fun x h' tk hp hs k => hQ x h' tk (hP ρ i v x hv hp) hs fun b o hb e => k b o (by simpa using hb) e
  · exact (W A hh).done s Q E (hl ▸ hst) fun h' tk k => hQ h' tk fun b o hb e => k b o (by simpa using hb) e
def chrs (x : Str) : List V := x.cps.toList.map fun c => .str ⟨#[c]⟩
theorem SrcEv.str {e : Expr} {x : Str} (h : Ev c fr e m st (.ok (.str x)) st₁) : SrcEv c fr e m st (chrs x) st₁ (fun _ => True) := fun ρ A s Q E hA I hQ => by
  refine h ρ A s _ E hA I fun ρ₁ s₁ y p N I₁ rx => ?_
  obtain ⟨t, rfl⟩ := rx
  have hne : s₁.heap.get? s₁.heap.objs.size = none := Heap.get?_none_of_le (Nat.le_refl _)
  have len : (chrs x).length = x.cps.size := by simp [chrs]
  have hP : ∀ ρ i v y, (chrs x)[i]? = some v → SignAt x i y → Rep ρ y v := fun ρ i v y hv hy => by
    obtain ⟨cc, u, h1, rfl⟩ := hy
    unfold chrs at hv
    rw [List.getElem?_map] at hv
    have : x.cps.toList[i]? = some cc := by simpa using h1
    rw [this] at hv
    cases hv
    exact ⟨u, rfl⟩
  cases ha : x.cps.all (· < 128)
  · refine wpAny_pyIter_wide ha ?_
    refine hQ ρ₁ _ s₁.heap.objs.size _ p (N.trans (Nxt.grow fun b o e => Heap.get?_push_of_some _ e)) (I₁.grow (fun b o e => Heap.get?_push_of_some _ e) I₁.bare) (Walk.of (fun A' hA' => Walks.strWide hA' _ x t) (fun i h st => by obtain ⟨o, e, _⟩ := st; exact ⟨o, e⟩) len hP) ⟨_, Heap.get?_push_size _ rfl, rfl, rfl⟩ (N.noneOf hne) (Alien.new I₁ hne)
  · refine wpAny_pyIter_ascii ha ?_
    refine hQ ρ₁ _ s₁.heap.objs.size _ p (N.trans (Nxt.grow fun b o e => Heap.get?_push_of_some _ e)) (I₁.grow (fun b o e => Heap.get?_push_of_some _ e) I₁.bare) (Walk.of (fun A' hA' => Walks.strAscii hA' _ x t) (fun i h st => by obtain ⟨o, e, _⟩ := st; exact ⟨o, e⟩) len hP) ⟨_, Heap.get?_push_size _ rfl, rfl, rfl⟩ (N.noneOf hne) (Alien.new I₁ hne)
def rng (n : Nat) : List V := (List.range n).map fun (i : Nat) => V.int (i : Int)
theorem SrcEv.range (ok : c.Ok) {fn a : Expr} {n : Nat} {pos : Pos} (h1 : Ev c fr fn m st (.ok (.glob (.type "range"))) st) (h2 : Ev c fr a m st (.ok (.int n)) st₁) (hz : n ≤ 100000) (hs : starred a = false)
    (he : eval (.Call fn [a] [] pos) fr.env = (do PySem.callWith pos (← eval fn fr.env) [] (backTo pos (starEach [a] fr.env)) (backToKw pos (keywordEach [] fr.env)))) :
    SrcEv c fr (.Call fn [a] [] pos) m st (rng n) st₁ (fun _ => True) := fun ρ A s Q E hA I hQ => by
  rw [he]
  refine wpAny_bind (h1 ρ A s _ E hA I fun ρ₁ s₁ x p N I₁ rx => ?_)
  obtain rfl : x = .type "range" := rx
  have hs' : ([a] : List Expr).any starred = false := by simp [hs]
  have b1 := backTo_any (pos := pos) (env := fr.env) hs'
  refine callWith_of (P := c.K.In) (by rw [b1]; rfl) (fun h X => KeepOk.type.looks _ h X) (evalArgs_gen b1 rfl ?_)
  refine (EvL.cons h2 .nil hs) ρ₁ pos A s₁ _ E hA I₁ fun ρ₂ s₂ xs p₂ N₂ I₂ rxs => ?_
  refine fun Γ q hΓ => (wpAny_pure (M := model c.prog c.w) (A := A) (E := E) ?_ : wpAny _ _ (evalAll []) _ _ _) Γ q hΓ
  refine ⟨I₂.kin ok, ?_⟩
  obtain ⟨x, r, rfl, ⟨t, rfl⟩, rr⟩ := rxs.inv1
  obtain rfl := rr.inv0
  refine call_range_1 ?_
  have hsm : Builtin.Range.small 0 n 1 = true := by
    unfold Builtin.Range.small
    rw [rangeSize_one]
    simp [Builtin.Range.rangeFitsLong]
    split <;> omega
  have hne : s₂.heap.get? s₂.heap.objs.size = none := Heap.get?_none_of_le (Nat.le_refl _)
  refine wpAny_pyIter_range (IsRange.new s₂.heap 0 n 1 s₂.toks t (s₂.toks + 1)) hsm ?_
  have hne' : s₂.heap.get? (s₂.heap.objs.size + 1) = none := Heap.get?_none_of_le (Nat.le_succ _)
  have N' := N.trans N₂
  have kp : ∀ o o' b ob, s₂.heap.get? b = some ob → ((s₂.heap.push o).push o').get? b = some ob := fun o o' b ob e => Heap.get?_push_of_some _ (Heap.get?_push_of_some _ e)
  have sz : ∀ o, (s₂.heap.push o).objs.size = s₂.heap.objs.size + 1 := fun o => Heap.size_push ..
  simp only [sz]
  refine hQ ρ₂ _ (s₂.heap.objs.size + 1) _ (p.trans p₂) (N'.trans (Nxt.grow (kp _ _))) (I₂.grow (kp _ _) I₂.bare) (Walk.of (fun A' hA' => Walks.range hA' _ 0 1 n) (fun i h st => ⟨_, st⟩) (by simp [rng]) fun ρ i v x hv hx => ?_) ?_ (N'.noneOf hne') (Alien.new I₂ hne')
  · obtain ⟨t, rfl⟩ := hx
    unfold rng at hv
    rw [List.getElem?_map] at hv
    cases hr : (List.range n)[i]? with
    | none => rw [hr] at hv; cases hv
    | some k =>
      rw [hr] at hv
      have : k = i := by
        have := List.getElem?_eq_some_iff.mp hr
        obtain ⟨h1, h2⟩ := this
        simpa using h2.symm
      subst this
      cases hv
      exact ⟨t, by simp⟩
  · have e : Builtin.Range.rangeSize 0 n 1 = (n : Int) := by
      rw [rangeSize_one]; split <;> omega
    rw [e]
    have := Heap.get?_push_size (s₂.heap.push { cls := .type "range", data := .fields #[.int 0 s₂.toks, .int n t, .int 1 (s₂.toks + 1)] }) (o := { cls := .type "range_iterator", data := .fields #[rawInt 0, rawInt (n : Int), rawInt 1] }) rfl
    rw [sz] at this
    simpa [IsRangeIter] using this
end
end Mine
end
section
set_option Elab.async false
set_option maxRecDepth 100000
set_option linter.unusedVariables false
namespace Mine
open PySem PySem.Spec PySem.Calls PyProof.Rows PySem.W
def without (h : Heap) (a : Addr) : Heap := h.update a fun o => { o with data := .freed }
theorem without_self {h : Heap} {a : Addr} : (without h a).get? a = none := by
  unfold without Heap.update Heap.get?
  simp only [Array.getElem?_modify]
  cases e : h.objs[a]? with
  | none => simp
  | some o => simp
theorem without_other {h : Heap} {a b : Addr} (n : b ≠ a) : (without h a).get? b = h.get? b := Heap.get?_update_other _ _ (Ne.symm n)
def Tst (c : Wd) (fr : Fx) (ifs : List Expr) (m : Loc) (st : Sto) (b : Bool) : Prop :=
  ∀ ρ, TriAt c fr RepB ρ (forIn ifs true fun c r => if r = true then do let ok ← isTrue c fr.env (eval c fr.env); pure (ForInStep.yield ok) else pure (ForInStep.yield r)) m st (.ok b) m st
section
variable {c : Wd} {fr fr' : Fx} {m m' m₀ m₁ m₂ : Loc} {st st' st₁ st₂ st₃ : Sto} {ρ ρ₀ ρ₁ ρ' : Rho} {s s₀ s₁ s' : Shared} {G : Shp}
theorem Tst.nil : Tst c fr [] m st true := fun ρ => .pure rfl
theorem Tst.one {t : Expr} {b : Bool} (h : Bt c fr t m st (.ok b) st) : Tst c fr [t] m st b := fun ρ => by
  rw [List.forIn_cons]
  refine TriAt.bind (rep := fun (_ : Rho) (x : ForInStep Bool) (y : Bool) => x = .yield y) (b := b) (m₁ := m) (st₁ := st) ?_ fun ρ₁ x p rx => ?_
  · show TriAt c fr _ ρ (do let ok ← isTrue t fr.env (eval t fr.env); pure (ForInStep.yield ok)) _ _ _ _ _
    exact (h ρ).bind fun ρ₁ x p rx => .pure (by rw [show x = b from rx])
  · rw [show x = .yield b from rx]
    exact .pure rfl
theorem Nxt.without {a : Addr} (h : a ∉ ads ρ) (k : ∀ b o, b ≠ a → s.heap.get? b = some o → s₁.heap.get? b = some o) (os : s₁.os = s.os) : Nxt fr ρ ρ { s with heap := Mine.without s.heap a } s₁ := by
  have e : ∀ b o, (Mine.without s.heap a).get? b = some o → s₁.heap.get? b = some o := fun b o e => by
    by_cases q : b = a
    · subst q; rw [without_self] at e; cases e
    · rw [without_other q] at e; exact k b o q e
  exact ⟨fun b o z _ _ _ => ⟨fun _ => e b o z, fun _ => ⟨o.slots, e b o z⟩⟩, fun b o z => ⟨o, e b o z⟩, fun b hb => .inl hb, os⟩
theorem comp_loop {x : Str} {px : Pos} {ifs : List Expr} {elt iter : Expr} {scope : Scope} {pos : Pos} {I D : Addr} {R : Result → Shared → Prop} {ok : Sto → Prop} {vs : List V} {St : Nat → Heap → Prop} {p : V → Bool} {f : V → V} {A : Around}
    (ow : fr.Own) (hx : fr.names = [x]) (hz : fr.hd = none) (W : Walk c I ρ₀ ok vs St) (hok : ∀ acc, ok (st ++ [.list acc]))
    (hb : ∀ acc v, v ∈ vs → Tst c fr ifs [v] (st ++ [.list acc]) (p v) ∧ (p v = true → Ev c fr elt [v] (st ++ [.list acc]) (.ok (f v)) (st ++ [.list acc])))
    (hA : fr.At A) (p0 : ρ₀ <+: ρ) (N0 : Nxt fr ρ ρ s₀ s) (hI : s₀.heap.get? I = none) (I0 : Inv c fr ρ [.undef] (st ++ [.list []]) s) (al : Alien c fr ρ I) (hst : St 0 s.heap) (hD : ρ[st.length]? = some (D, D)) (hsz : vs.length ≤ 100000)
    (hR : ∀ ρ₁ s₁ m₁, ρ <+: ρ₁ → Nxt fr ρ ρ₁ s₀ s₁ → Inv c fr ρ₁ m₁ (st ++ [.list ((vs.filter p).map f)]) s₁ → R (.ok .next) s₁) :
    codeAny (model c.prog c.w) A (.compLoop (.ListComp elt [⟨.Name x px, iter, ifs, 0⟩] scope pos) 0 (.ref I) (.ref D) fr.env) R s := by
  refine codeAny_compLoop_tests (fun n s' => ∃ ρ₁ i v₁, ρ <+: ρ₁ ∧ Nxt fr ρ ρ₁ s₀ s' ∧ Inv c fr ρ₁ [v₁] (st ++ [.list (((vs.take i).filter p).map f)]) s' ∧ St i s'.heap ∧ Alien c fr ρ₁ I ∧ i ≤ vs.length ∧ n = vs.length - i) ?_ vs.length
    ⟨ρ, 0, .undef, List.prefix_refl _, N0, I0, hst, al, Nat.zero_le _, rfl⟩
  rintro n s' ⟨ρ₁, i, v₁, p₁, N₁, I₁, hs₁, al₁, hi, rfl⟩
  have hh : A.handled = none := hA.handled.trans hz
  have pp := p0.trans p₁
  by_cases hlt : i < vs.length
  · obtain ⟨v, hv⟩ : ∃ v, vs[i]? = some v := ⟨_, List.getElem?_eq_getElem hlt⟩
    have hmem : v ∈ vs := List.mem_of_getElem? hv
    refine W.item i v A s' _ _ hh pp I₁ (hok _) hv hs₁ fun y h' tk ry hs₂ k₂ => ?_
    have I₂ := I₁.foreign hz al₁.ads al₁.locals al₁.below al₁.base al₁.out k₂ (tk := tk)
    have N₂ := N₁.foreign hI k₂ (tk := tk)
    show wpAny _ _ (assign (.Name x px) fr.env y) _ _ _
    refine TriAt.standThen (TriAt.bindLoc (c := c) (fr := fr) (m := [v₁]) (m' := [v]) ow (by rw [hx]; exact .here) ry) A _ _ _ hA I₂ ?_
    intro ρ₃ s₃ _ p₃ N₃ I₃ _
    obtain ⟨oI, eI⟩ := W.there _ _ hs₂
    obtain ⟨al₃, eI₃⟩ := al₁.step N₃ eI
    have hs₃ := W.keep _ _ _ hs₂ fun o e => by rw [eI] at e; cases e; exact eI₃
    obtain ⟨hT, hE⟩ := hb (((vs.take i).filter p).map f) v hmem
    have tk1 : vs.take (i + 1) = vs.take i ++ [v] := by rw [List.take_add_one, hv]; rfl
    refine hT ρ₃ A s₃ _ _ hA I₃ fun ρ₄ s₄ b p₄ N₄ I₄ rb => ?_
    obtain rfl : b = p v := rb
    obtain ⟨al₄, eI₄⟩ := al₃.step N₄ eI₃
    have hs₄ := W.keep _ _ _ hs₃ fun o e => by rw [eI₃] at e; cases e; exact eI₄
    have N₄' := (N₂.trans N₃).trans N₄
    cases hp : p v with
    | false =>
      rw [if_neg (by decide)]
      refine ⟨_, by omega, ρ₄, i + 1, v, p₁.trans (p₃.trans p₄), N₄', ?_, hs₄, al₄, hlt, rfl⟩
      rw [tk1, List.filter_append]
      simpa [hp] using I₄
    | true =>
      rw [if_pos rfl]
      refine hE hp ρ₄ A s₄ _ _ hA I₄ fun ρ₅ s₅ z p₅ N₅ I₅ rz => ?_
      obtain ⟨al₅, eI₅⟩ := al₄.step N₅ eI₄
      have hs₅ := W.keep _ _ _ hs₄ fun o e => by rw [eI₄] at e; cases e; exact eI₅
      have N₅' := N₄'.trans N₅
      have P5 : ρ <+: ρ₅ := p₁.trans (p₃.trans (p₄.trans p₅))
      have hD₅ : ρ₅[st.length]? = some (D, D) := by
        obtain ⟨l, rfl⟩ := P5
        rw [List.getElem?_append_left (List.getElem?_eq_some_iff.mp hD).1]; exact hD
      obtain ⟨xs, hl, rl, _⟩ := I₅.store st.length _ (D, D) get_last hD₅
      have hxs : xs.length ≤ vs.length := by
        rw [rl.length, List.length_map]
        exact Nat.le_trans (List.length_filter_le ..) (by rw [List.length_take]; exact Nat.min_le_right ..)
      refine wpAny_list_append (hsz := by rw [List.size_toArray, sizeLine_eq]; omega) hl fun h₆ hl₆ hs₆ => ?_
      have kk : ∀ b o, s₅.heap.get? b = some o → b ≠ D → b ≠ D → h₆.get? b = some o := fun b o e n1 _ => hs₆.extBut b o n1 e
      have e6 : xs.toArray.push z = (xs ++ [z]).toArray := by simp
      rw [e6] at hl₆
      have I₆ := I₅.put (o' := .list (((vs.take i).filter p).map f ++ [f v])) hD₅ kk ⟨_, hl₆, rl.append (.cons rz .nil), rfl⟩ (tk' := s₅.toks)
      have N₆ : Nxt fr ρ₅ ρ₅ s₅ { s₅ with heap := h₆, toks := s₅.toks } := Nxt.put hD₅ kk fun b o e => by
        by_cases q : b = D
        · subst q
          obtain ⟨o', e', _⟩ := hl₆
          exact ⟨o', e'⟩
        · exact ⟨o, hs₆.extBut b o q e⟩
      obtain ⟨al₆, eI₆⟩ := al₅.step N₆ eI₅
      have hs₆' := W.keep _ _ _ hs₅ fun o e => by rw [eI₅] at e; cases e; exact eI₆
      refine ⟨_, by omega, ρ₅, i + 1, v, P5, N₅'.trans N₆, ?_, hs₆', al₆, hlt, rfl⟩
      rw [tk1, List.filter_append]
      simpa [hp] using I₆
  · have : i = vs.length := by omega
    subst this
    refine W.done A s' _ _ hh pp I₁ (hok _) hs₁ fun h' tk k => ?_
    have I₂ := I₁.foreign hz al₁.ads al₁.locals al₁.below al₁.base al₁.out k (tk := tk)
    rw [List.take_length] at I₂
    exact hR ρ₁ _ [v₁] p₁ (N₁.foreign hI k) I₂
/-- the block's frame -/
def compFx (fr : Fx) (scope : Scope) (cl : List (Str × Addr)) (C : Addr) (x : Str) (cs : List (Str × Nat)) : Fx := { fr with env := compEnvC scope cl C fr.env, names := [x], below := fr.env.locals :: fr.below, cells := cs }
/-- the names that a block closes over -/
def freesOf (scope : Scope) : List Str := (scope.names.filter (·.2 == .free)).map (·.1)
theorem closureFor_of {scope : Scope} {env : Env} (g : Str → Addr) (h : ∀ x ∈ scope.names, x.2 = .free → env.cells.lookup x.1 = some (g x.1)) : closureFor scope env = pure (((scope.names.filter (·.2 == .free)).map fun x => (x.1, g x.1)).reverse) := by
  unfold closureFor
  have key : ∀ (l : List (Str × NameKind)) (acc : List (Str × Addr)) (f : Str × NameKind → List (Str × Addr) → Sem (ForInStep (List (Str × Addr)))), (∀ x ∈ l, x.2 = .free → env.cells.lookup x.1 = some (g x.1)) →
      (∀ x acc, f x acc = if (x.2 == .free) = true then (cellOf env x.1 >>= fun a => pure (ForInStep.yield ((x.1, a) :: acc))) else pure (ForInStep.yield acc)) →
      (forIn l acc f : Sem _) = pure (((l.filter (·.2 == .free)).map fun x => (x.1, g x.1)).reverse ++ acc) := by
    intro l
    induction l with
    | nil => intro acc f _ _; rfl
    | cons x l ih =>
      intro acc f hl hf
      rw [List.forIn_cons, hf]
      by_cases hk : x.2 = .free
      · have hb : (x.2 == NameKind.free) = true := by rw [hk]; rfl
        rw [if_pos hb]
        unfold cellOf
        rw [hl x (.head _) hk]
        show (forIn l ((x.1, g x.1) :: acc) f : Sem _) = _
        rw [ih _ f (fun y hy => hl y (.tail _ hy)) hf, List.filter_cons_of_pos (p := fun x : Str × NameKind => x.2 == .free) hb]
        simp
      · have hb : ¬ ((x.2 == NameKind.free) = true) := by simpa using hk
        rw [if_neg hb]
        show (forIn l acc f : Sem _) = _
        rw [ih _ f (fun y hy => hl y (.tail _ hy)) hf, List.filter_cons_of_neg (p := fun x : Str × NameKind => x.2 == .free) hb]
  have := key scope.names [] _ h (fun x acc => rfl)
  rw [List.append_nil] at this
  exact (congrArg (fun t => t >>= _) this).trans rfl
end
end Mine
end
section
set_option Elab.async false
set_option maxRecDepth 100000
set_option linter.unusedVariables false
namespace Mine
open PySem PySem.Spec PySem.Calls PyProof.Rows PySem.W
/-- looks at a block's scope -/
def compOk (K : Frag) (scope : Scope) (x : Str) (globs : List (Str × Value)) (cs : List (Str × Nat)) : Bool :=
  scope.kind == .function && scope.names.lookup x == some .local && !(x == ("__debug__" : Str)) && globs.all (globOk K scope) && cs.all (fun y => scope.names.lookup y.1 == some .free) &&
  scope.names.all (fun y => !(y.2 == .cell)) && scope.names.all (fun y => !(y.2 == .local) || scope.names.lookup y.1 == some .local) && scope.names.all (fun y => !(y.2 == .free) || (cs.map (·.1)).contains y.1)
theorem lookup_relabel_glob {env : Env} : ∀ {names : List (Str × NameKind)} {x : Str}, names.lookup x = some .globalImplicit →
    (names.map fun (n, k) => if (k == NameKind.free && env.scope.kind == .function && env.kindOf n == some .cell) then (n, NameKind.cell) else (n, k)).lookup x = some .globalImplicit
  | [], _, h => by simp at h
  | (n, k) :: r, x, h => by
    have ih := @lookup_relabel_glob env r x
    show List.lookup x ((if (k == NameKind.free && env.scope.kind == .function && env.kindOf n == some .cell) = true then (n, NameKind.cell) else (n, k)) :: _) = _
    cases hx : x == n with
    | true =>
      simp only [List.lookup_cons, hx] at h
      cases h
      simp [List.lookup_cons, hx]
    | false =>
      simp only [List.lookup_cons, hx] at h
      by_cases hc : (k == NameKind.free && env.scope.kind == .function && env.kindOf n == some .cell) = true
      · rw [if_pos hc]; simp only [List.lookup_cons, hx]; exact ih h
      · rw [if_neg hc]; simp only [List.lookup_cons, hx]; exact ih h
theorem lookup_relabel_free {env : Env} : ∀ {names : List (Str × NameKind)} {x : Str}, names.lookup x = some .free →
    (names.map fun (n, k) => if (k == NameKind.free && env.scope.kind == .function && env.kindOf n == some .cell) then (n, NameKind.cell) else (n, k)).lookup x = some .cell ∨
    (names.map fun (n, k) => if (k == NameKind.free && env.scope.kind == .function && env.kindOf n == some .cell) then (n, NameKind.cell) else (n, k)).lookup x = some .free
  | [], _, h => by simp at h
  | (n, k) :: r, x, h => by
    have ih := @lookup_relabel_free env r x
    show List.lookup x ((if (k == NameKind.free && env.scope.kind == .function && env.kindOf n == some .cell) = true then (n, NameKind.cell) else (n, k)) :: _) = _ ∨ List.lookup x ((if (k == NameKind.free && env.scope.kind == .function && env.kindOf n == some .cell) = true then (n, NameKind.cell) else (n, k)) :: _) = _
    cases hx : x == n with
    | true =>
      simp only [List.lookup_cons, hx] at h
      cases h
      by_cases hc : (NameKind.free == NameKind.free && env.scope.kind == .function && env.kindOf n == some .cell) = true
      · rw [if_pos hc]; simp [List.lookup_cons, hx]
      · rw [if_neg hc]; simp [List.lookup_cons, hx]
    | false =>
      simp only [List.lookup_cons, hx] at h
      by_cases hc : (k == NameKind.free && env.scope.kind == .function && env.kindOf n == some .cell) = true
      · rw [if_pos hc]; simp only [List.lookup_cons, hx]; exact ih h
      · rw [if_neg hc]; simp only [List.lookup_cons, hx]; exact ih h
theorem lookup_keyed {g : Str → Addr} {x : Str} : ∀ {l : List (Str × Addr)}, (∀ y ∈ l, y.2 = g y.1) → x ∈ l.map (·.1) → l.lookup x = some (g x)
  | [], _, h => by cases h
  | (y, a) :: r, k, h => by
    rw [List.lookup_cons]
    by_cases q : x = y
    · subst q
      rw [beq_self_eq_true]
      exact congrArg some (k (x, a) (.head _))
    · rw [beq_eq_false_iff_ne.mpr q]
      refine lookup_keyed (fun z hz => k z (.tail _ hz)) ?_
      rcases List.mem_cons.mp h with h | h
      · exact (q h).elim
      · exact h
section
variable {c : Wd} {fr fr' : Fx} {m m' m₀ m₁ m₂ : Loc} {st st' st₁ st₂ st₃ : Sto} {ρ ρ₀ ρ₁ ρ' : Rho} {s s₀ s₁ s' : Shared} {G : Shp}
theorem Sh.comp (F : Sh c G fr) {scope : Scope} {x : Str} {globs : List (Str × Value)} {cs : List (Str × Nat)} {cl : List (Str × Addr)} {C : Addr} (h : compOk c.K scope x globs cs = true) : Sh c ⟨[x], globs, G.z, G.k, false, cs⟩ (compFx fr scope cl C x cs) := by
  simp only [compOk, Bool.and_eq_true, beq_iff_eq, Bool.not_eq_true'] at h
  obtain ⟨⟨⟨⟨⟨⟨⟨a1, a2⟩, a3⟩, a4⟩, a5⟩, a6⟩, a7⟩, a8⟩ := h
  refine ⟨⟨⟨a1, F.fri.own.globals, F.fri.own.builtins, ?_, by simp [compFx], ?_⟩, rfl, fun p hp => ?_⟩, ⟨F.fit.lv, F.fit.rs, F.fit.z⟩, (fun e => nomatch e), fun y n hy => ⟨hy, ?_⟩, (fun e => nomatch e), (fun e => nomatch e)⟩
  · show ([x].all fun z => (compEnvC scope cl C fr.env).kindOf z == some .local && !(z == ("__debug__" : Str))) = true
    have : (compEnvC scope cl C fr.env).kindOf x = some .local := lookup_relabel_local a2
    simp [this, a3]
  · show (scope.kind == .class || (scope.kind == .module && _)) = false
    rw [a1]; rfl
  · have := List.all_eq_true.mp a4 p hp
    simp only [globOk, Bool.and_eq_true, beq_iff_eq, Bool.not_eq_true', Bool.or_eq_true, beq_eq_false_iff_ne] at this
    exact ⟨lookup_relabel_glob this.1.1, this.1.2.imp id fun q => ⟨q.1.1, q.1.2, q.2⟩, beq_eq_false_iff_ne.mpr this.2⟩
  · have := List.all_eq_true.mp a5 (y, n) hy
    exact lookup_relabel_free (beq_iff_eq.mp this)
theorem comp_core {x : Str} {px : Pos} {ifs : List Expr} {elt iter : Expr} {scope : Scope} {pos : Pos} {globs : List (Str × Value)} {cs : List (Str × Nat)} {okk : Sto → Prop} {vs : List V} {p : V → Bool} {f : V → V} {A : Around} {use : Option (Value → Sem Unit)} {Q : Value → Shared → Prop} {E : Value → Shared → Prop}
    (F : Sh c G fr) (hz : G.z = true) (hok : compOk c.K scope x globs cs = true) (hcs : ∀ y ∈ cs, y ∈ G.cells) (hsrc : SrcEv c fr iter m st vs st₁ okk) (hokk : ∀ acc, okk (st₁ ++ [.list acc])) (hsz : vs.length ≤ 100000)
    (hb : ∀ fr', Sh c ⟨[x], globs, G.z, G.k, false, cs⟩ fr' → ∀ acc v, v ∈ vs → Tst c fr' ifs [v] (st₁ ++ [.list acc]) (p v) ∧ (p v = true → Ev c fr' elt [v] (st₁ ++ [.list acc]) (.ok (f v)) (st₁ ++ [.list acc])))
    (hs : ∀ x, foldedSetIterable iter fr.env x = pure x) (hA : fr.At A) (I : Inv c fr ρ m st s)
    (hfin : ∀ ρ' s' D C mm, ρ <+: ρ' → Nxt fr ρ ρ' s s' → Inv c fr ρ' m (st₁ ++ [.list ((vs.filter p).map f)]) s' → s.heap.get? C = none → Alien c fr ρ' C → Rep ρ' (.ref D) (.obj st₁.length) → s'.heap.Ns C mm → compPost (model c.prog c.w) A E use Q (.ref D) C (.ok .next) s') :
    wpAny (model c.prog c.w) A (comprehension (.ListComp elt [⟨.Name x px, iter, ifs, 0⟩] scope pos) scope fr.env (firstIterPos [⟨.Name x px, iter, ifs, 0⟩] pos) (newList []) false (eval iter fr.env) use) Q E s := by
  have hok' := hok
  simp only [compOk, Bool.and_eq_true, beq_iff_eq, Bool.not_eq_true'] at hok'
  obtain ⟨⟨⟨⟨⟨⟨⟨a1, a2⟩, a3⟩, a4⟩, a5⟩, a6⟩, a7⟩, a8⟩ := hok'
  have hzd : fr.hd = none := F.fit.z hz
  let g : Str → Addr := fun y => (fr.env.cells.lookup y).getD 0
  have hg : ∀ y n, (y, n) ∈ cs → ∃ q, ρ[n]? = some q ∧ fr.env.cells.lookup y = some q.1 := fun y n hy => I.cells y n (F.cel y n (hcs _ hy)).1
  have hclos : closureFor scope fr.env = pure (((scope.names.filter (·.2 == .free)).map fun y => (y.1, g y.1)).reverse) := closureFor_of g fun y hy hk => by
    have := List.all_eq_true.mp a8 y hy
    simp [hk] at this
    obtain ⟨n, hn⟩ := this
    obtain ⟨q, _, h2⟩ := hg y.1 n hn
    show _ = some ((fr.env.cells.lookup y.1).getD 0)
    rw [h2]; rfl
  have hcl : ∀ y n, (y, n) ∈ cs → (((scope.names.filter (·.2 == .free)).map fun y => (y.1, g y.1)).reverse).lookup y = some (g y) := fun y n hy => by
    refine lookup_keyed (fun z hz => ?_) ?_
    · rw [List.mem_reverse, List.mem_map] at hz
      obtain ⟨w, _, rfl⟩ := hz
      rfl
    · have h5 := List.all_eq_true.mp a5 (y, n) hy
      have h6 : scope.names.lookup y = some .free := beq_iff_eq.mp h5
      have h7 : (y, NameKind.free) ∈ scope.names := by
        clear a1 a2 a3 a4 a5 a6 a7 a8 h5 hclos hg hok
        revert h6
        generalize scope.names = l
        intro h6
        induction l with
        | nil => simp at h6
        | cons w l ih =>
          obtain ⟨a, b⟩ := w
          rw [List.lookup_cons] at h6
          by_cases q : y = a
          · subst q; rw [beq_self_eq_true] at h6; cases h6; exact .head _
          · rw [beq_eq_false_iff_ne.mpr q] at h6; exact .tail _ (ih h6)
      simp only [List.map_reverse, List.map_map, List.mem_reverse]
      exact List.mem_map.mpr ⟨(y, .free), List.mem_filter.mpr ⟨h7, rfl⟩, rfl⟩
  generalize ((scope.names.filter (·.2 == .free)).map fun y => (y.1, g y.1)).reverse = cl at hclos hcl
  refine wpAny_comprehension_free (use := use) rfl hs hclos a1 (fun y hy hk => by have := List.all_eq_true.mp a7 y hy; simpa [hk] using this) (hsrc ρ A s _ E hA I fun ρ₁ s₁ It St p₁ N₁ I₁ W hst hItn al => ?_)
  obtain ⟨h, gg, d, tk, os⟩ := s₁
  have hDn : h.get? h.objs.size = none := Heap.get?_none_of_le (Nat.le_refl _)
  refine wpAny_newObj_type (wpAny_newFunctionEnv (fun y hy => by have := List.all_eq_true.mp a6 y hy; simpa using this) (fun y hy => by cases hy) (fun h₁ hns₁ hsb₁ => ?_) a1)
  dsimp only at hns₁ hsb₁ ⊢
  generalize hH2 : h.push { cls := .type "list", dict := none, data := .seq ([] : List Value).toArray } = H2 at hns₁ hsb₁ ⊢
  have kH : ∀ b o, h.get? b = some o → H2.get? b = some o := fun b o e => hH2 ▸ Heap.get?_push_of_some _ e
  have hL2 : H2.IsList h.objs.size ([] : List Value).toArray := by rw [← hH2]; exact ⟨_, Heap.get?_push_size _ rfl, rfl, _, rfl⟩
  have pr := prefix_add ρ₁ (h.objs.size, h.objs.size)
  have I₂ : Inv c fr (ρ₁ ++ [(h.objs.size, h.objs.size)]) m (st₁ ++ [.list []]) ⟨H2, gg, d, tk, os⟩ := I₁.make (p := (h.objs.size, h.objs.size)) (o' := .list []) kH hDn hDn ⟨[], hL2, .nil, rfl⟩ I₁.bare
  have N₂ : Nxt fr ρ (ρ₁ ++ [(h.objs.size, h.objs.size)]) s ⟨H2, gg, d, tk, os⟩ := N₁.trans (Nxt.make (p := (h.objs.size, h.objs.size)) kH hDn hDn)
  have hCn : H2.get? H2.objs.size = none := Heap.get?_none_of_le (Nat.le_refl _)
  obtain ⟨oI, eI⟩ := W.there _ _ hst
  have hCI : It ≠ H2.objs.size := fun q => by have := kH _ _ eI; rw [q, hCn] at this; cases this
  have k1 : ∀ b o, H2.get? b = some o → h₁.get? b = some o := fun b o e => hsb₁.extBut b o (fun q => by rw [q, hCn] at e; cases e) (Heap.get?_push_of_some _ e)
  have sb : SubC fr (compFx fr scope cl H2.objs.size x cs) := ⟨rfl, rfl, rfl, rfl, rfl⟩
  have S' := F.comp (cl := cl) (C := H2.objs.size) hok
  have I₃ : Inv c (compFx fr scope cl H2.objs.size x cs) (ρ₁ ++ [(h.objs.size, h.objs.size)]) [.undef] (st₁ ++ [.list []]) ⟨h₁, gg, d, tk + 0, os⟩ := I₂.enterC sb hCn (Nat.le_refl _) k1 hns₁ (fun i y v e1 e2 e3 => by
      have : v = .undef := by
        cases i with
        | zero => cases e2; rfl
        | succ i => simp at e2
      rw [this] at e3; cases e3) (fun y n hy => by
      obtain ⟨q, h1, h2⟩ := hg y n hy
      refine ⟨q, ?_, ?_⟩
      · obtain ⟨l, hl⟩ := p₁.trans pr
        rw [← hl, List.getElem?_append_left (List.getElem?_eq_some_iff.mp h1).1]; exact h1
      · have := hcl y n hy
        show cl.lookup y = some q.1
        rw [this]
        show some ((fr.env.cells.lookup y).getD 0) = _
        rw [h2]; rfl) I₂.bare
  have al₂ : Alien c fr (ρ₁ ++ [(h.objs.size, h.objs.size)]) It := ⟨(fun q => by
    obtain ⟨w, hw, e⟩ := mem_ads.mp q
    rcases List.mem_append.mp hw with hw | hw
    · exact al.ads (mem_ads.mpr ⟨w, hw, e⟩)
    · rw [List.mem_singleton.mp hw] at e
      have : It = h.objs.size := by rcases e with e | e <;> exact e
      rw [this, hDn] at eI; cases eI), al.locals, al.below, al.base, al.out⟩
  have al₃ : Alien c (compFx fr scope cl H2.objs.size x cs) (ρ₁ ++ [(h.objs.size, h.objs.size)]) It := ⟨al₂.ads, hCI, (fun q => by
    rcases List.mem_cons.mp q with q | q
    · exact al.locals q
    · exact al.below q), al.base, al.out⟩
  have hst₁ : St 0 h₁ := W.keep _ _ _ hst fun o e => k1 _ _ (kH _ _ e)
  have A3 : (compFx fr scope cl H2.objs.size x cs).At A := ⟨hA.frames, hA.handled, hA.depth, hA.units⟩
  have hCold : s.heap.get? H2.objs.size = none := N₂.noneOf hCn
  have loop : codeAny (model c.prog c.w) A (.compLoop (.ListComp elt [⟨.Name x px, iter, ifs, 0⟩] scope pos) 0 (.ref It) (.ref h.objs.size) (compEnvC scope cl H2.objs.size fr.env))
        (compPost (model c.prog c.w) A E use Q (.ref h.objs.size) H2.objs.size) ⟨h₁, gg, d, tk + 0, os⟩ := by
    refine comp_loop (fr := compFx fr scope cl H2.objs.size x cs) (s₀ := ⟨without h₁ It, gg, d, tk + 0, os⟩) (ρ₀ := ρ₁) S'.fri.own rfl hzd W hokk (hb _ S') A3 pr ?_ without_self I₃ al₃ hst₁ (by rw [← I₁.len]; simp) hsz ?_
    · exact Nxt.without (s := ⟨h₁, gg, d, tk + 0, os⟩) (s₁ := ⟨h₁, gg, d, tk + 0, os⟩) al₂.ads (fun _ _ _ e => e) rfl
    · intro ρ₃ s₄ m₄ p₃ N₃ I₄
      have I₂' := I₂.foreign (h' := without H2 It) hzd al₂.ads al₂.locals al₂.below al₂.base al₂.out (fun b o n e => by rw [without_other n]; exact e) (tk := tk)
      have hCw : (without H2 It).get? H2.objs.size = none := by rw [without_other (Ne.symm hCI)]; exact hCn
      have B := I₂'.backC sb hCw (h₁ := without h₁ It) (fun b o e => by
        by_cases q : b = It
        · subst q; rw [without_self] at e; cases e
        · rw [without_other q] at e ⊢; exact k1 b o e) p₃ N₃ I₄ rfl
      have N4 := (N₂.foreign hItn (h' := without H2 It) (fun b o n e => by rw [without_other n]; exact e) (tk := tk)).trans B.2
      have LT := I₂.locals_there
      obtain ⟨mm, hns, _⟩ := I₄.ns
      refine hfin ρ₃ s₄ _ _ mm ((p₁.trans pr).trans p₃) N4 B.1 hCold ⟨fun q => (I₄.fresh _ q).2.1 rfl, fun q => ?_, fun q => ?_, I₄.locals.1, fun q => ?_⟩ ?_ hns
      · obtain ⟨o, e, _⟩ := LT; rw [← q, hCn] at e; cases e
      · obtain ⟨⟨o, e, _⟩, _⟩ := I₂.below _ q; rw [hCn] at e; cases e
      · exact (I₂.out.old hCn) q
      · obtain ⟨l, rfl⟩ := p₃
        refine ⟨(h.objs.size, h.objs.size), ?_, rfl⟩
        rw [List.append_assoc, List.getElem?_append_right (by rw [I₁.len]; exact Nat.le_refl _)]
        simp [I₁.len]
  exact codeAny_compStart_list loop (W.self 0 _ _ _ _ (hA.handled.trans hzd) hst₁ loop)
theorem Ev.comp {x : Str} {px : Pos} {ifs : List Expr} {elt iter : Expr} {scope : Scope} {pos : Pos} (globs : List (Str × Value)) (cs : List (Str × Nat)) {okk : Sto → Prop} {vs : List V} (p : V → Bool) (f : V → V)
    (F : Sh c G fr) (hz : G.z = true) (hok : compOk c.K scope x globs cs = true) (hcs : ∀ y ∈ cs, y ∈ G.cells) (hsrc : SrcEv c fr iter m st vs st₁ okk) (hokk : ∀ acc, okk (st₁ ++ [.list acc])) (hsz : vs.length ≤ 100000)
    (hs : ∀ x, foldedSetIterable iter fr.env x = pure x)
    (hb : ∀ fr', Sh c ⟨[x], globs, G.z, G.k, false, cs⟩ fr' → ∀ acc v, v ∈ vs → Tst c fr' ifs [v] (st₁ ++ [.list acc]) (p v) ∧ (p v = true → Ev c fr' elt [v] (st₁ ++ [.list acc]) (.ok (f v)) (st₁ ++ [.list acc]))) :
    Ev c fr (.ListComp elt [⟨.Name x px, iter, ifs, 0⟩] scope pos) m st (.ok (.obj st₁.length)) (st₁ ++ [.list ((vs.filter p).map f)]) := fun ρ A s Q E hA I post => by
  rw [eval_ListComp]
  refine comp_core F hz hok hcs hsrc hokk hsz hb hs hA I fun ρ' s' D C mm p' N' I' hC al rD hns => ⟨mm, hns, fun h' hs' => ?_⟩
  exact post ρ' _ _ p' (N'.foreign hC fun b o n e => hs'.extBut b o n e) (I'.foreign (F.fit.z hz) al.ads al.locals al.below al.base al.out fun b o n e => hs'.extBut b o n e) rD
theorem Ex1.asgComp {y x : Str} {py px : Pos} {ifs : List Expr} {elt iter : Expr} {scope : Scope} {pos spos : Pos} (globs : List (Str × Value)) (cs : List (Str × Nat)) {okk : Sto → Prop} {vs : List V} (p : V → Bool) (f : V → V)
    (F : Sh c G fr) (hz : G.z = true) (hok : compOk c.K scope x globs cs = true) (hcs : ∀ y ∈ cs, y ∈ G.cells) (hsrc : SrcEv c fr iter m st vs st₁ okk) (hokk : ∀ acc, okk (st₁ ++ [.list acc])) (hsz : vs.length ≤ 100000)
    (hs : ∀ x, foldedSetIterable iter fr.env x = pure x)
    (hb : ∀ fr', Sh c ⟨[x], globs, G.z, G.k, false, cs⟩ fr' → ∀ acc v, v ∈ vs → Tst c fr' ifs [v] (st₁ ++ [.list acc]) (p v) ∧ (p v = true → Ev c fr' elt [v] (st₁ ++ [.list acc]) (.ok (f v)) (st₁ ++ [.list acc])))
    (hu : Up G.names m y (.obj st₁.length) m') (hsw : swapsWith (.ListComp elt [⟨.Name x px, iter, ifs, 0⟩] scope pos) (some (.Name y py)) spos.line fr.env = pure true) :
    Ex1 c fr (.Assign [.Name y py] (.ListComp elt [⟨.Name x px, iter, ifs, 0⟩] scope pos) spos) m st (.ok .next) m' (st₁ ++ [.list ((vs.filter p).map f)]) := fun ρ A s Q E hA I post => by
  rw [exec_Assign_Name_used _ _ _ _ hsw]
  refine wpAny_bind (wpAny_standAt (wpAny_bind ?_))
  show wpAny _ A (do let _ ← comprehension (.ListComp elt [⟨.Name x px, iter, ifs, 0⟩] scope pos) scope fr.env _ (newList []) false (eval iter fr.env) (some (PySem.assign (Expr.Name y py) fr.env))) _ _ s
  refine wpAny_bind (wpAny_mono (comp_core (Q := fun _ s' => Q .next s') (E := E) (use := some (PySem.assign (Expr.Name y py) fr.env)) F hz hok hcs hsrc hokk hsz hb hs hA I fun ρ' s' D C mm p' N' I' hC al rD hns => ?_) (fun _ s' hq => wpAny_pure (wpAny_pure hq)) fun _ _ e => e)
  show wpAny _ A (PySem.assign (Expr.Name y py) fr.env (.ref D)) _ _ _
  refine TriAt.standThen (TriAt.bindLoc F.fri.own (by rw [F.fri.nm]; exact hu) rD) A s' _ _ hA I' ?_
  intro ρ₂ s₂ _ p₂ N₂ I₂ _
  obtain ⟨oC, es, ep, eC, r⟩ := id hns
  obtain ⟨al₂, eC₂⟩ := al.step N₂ eC
  refine ⟨mm, ⟨oC, es, ep, eC₂, r⟩, fun h' hs' => ?_⟩
  exact post ρ₂ _ _ (p'.trans p₂) ((N'.trans N₂).foreign hC fun b o n e => hs'.extBut b o n e) (I₂.foreign (F.fit.z hz) al₂.ads al₂.locals al₂.below al₂.base al₂.out fun b o n e => hs'.extBut b o n e) trivial
end
end Mine
end
section
set_option Elab.async false
set_option maxRecDepth 100000
set_option linter.unusedVariables false
namespace Mine
open PySem PySem.Spec PySem.Calls PyProof.Rows PySem.W PySem.SeqAt
/-- == on plain values -/
def V.eqv : V → V → Bool
  | .none, .none => true
  | .bool a, .bool b => a == b
  | .int a, .int b => a == b
  | .bool a, .int b => (if a then 1 else 0) == b
  | .int a, .bool b => a == (if b then 1 else 0)
  | .str a, .str b => a == b
  | .bytes a, .bytes b => a.toList == b.toList
  | _, _ => false
def V.flat : V → Bool
  | .none => true
  | .bool _ => true
  | .int _ => true
  | .str _ => true
  | _ => false
def V.pair (a b : V) : Bool := (a.flat && b.flat) || (match a, b with | .bytes _, .bytes _ => true | _, _ => false)
theorem EqAt.flat {A : Around} {s : Shared} {ρ : Rho} {x y : Value} {a b : V} (h : V.pair a b = true) (rx : Rep ρ x a) (ry : Rep ρ y b) : EqAt A s x y (V.eqv a b) := by
  cases a <;> cases b <;> first
    | (exfalso; revert h; simp [V.pair, V.flat]; done)
    | skip
  · rw [show x = .none from rx, show y = .none from ry]; exact .same _
  · rw [show x = .none from rx, show y = .bool _ from ry]; exact .none_bool _
  · rw [show x = .none from rx]; obtain ⟨t, rfl⟩ := ry; exact .none_int _ _
  · rw [show x = .none from rx]; obtain ⟨t, rfl⟩ := ry; exact .none_str _ _
  · rw [show x = .bool _ from rx, show y = .none from ry]; exact .bool_none _
  · rw [show x = .bool _ from rx, show y = .bool _ from ry]; exact .bool_bool _ _
  · rw [show x = .bool _ from rx]; obtain ⟨t, rfl⟩ := ry; exact .bool_int _ _ _
  · rw [show x = .bool _ from rx]; obtain ⟨t, rfl⟩ := ry; exact .bool_str _ _ _
  · rw [show y = .none from ry]; obtain ⟨t, rfl⟩ := rx; exact .int_none _ _
  · rw [show y = .bool _ from ry]; obtain ⟨t, rfl⟩ := rx; exact .int_bool _ _ _
  · obtain ⟨t, rfl⟩ := rx; obtain ⟨u, rfl⟩ := ry; exact .int_int _ _ _ _
  · obtain ⟨t, rfl⟩ := rx; obtain ⟨u, rfl⟩ := ry; exact .int_str _ _ _ _
  · rw [show y = .none from ry]; obtain ⟨t, rfl⟩ := rx; exact .str_none _ _
  · rw [show y = .bool _ from ry]; obtain ⟨t, rfl⟩ := rx; exact .str_bool _ _ _
  · obtain ⟨t, rfl⟩ := rx; obtain ⟨u, rfl⟩ := ry; exact .str_int _ _ _ _
  · obtain ⟨t, rfl⟩ := rx; obtain ⟨u, rfl⟩ := ry; exact .str_str _ _ _ _
  · obtain ⟨t, rfl⟩ := rx; obtain ⟨u, rfl⟩ := ry; exact EqAt_bytes _ _ _ _
def eqvL : List V → List V → Bool
  | [], [] => true
  | a :: as, b :: bs => a.eqv b && eqvL as bs
  | _, _ => false
theorem eqvL_range : ∀ (vs us : List V), (((List.range (min vs.length us.length)).all fun j => V.eqv (vs.getD j .none) (us.getD j .none)) && (vs.length == us.length)) = eqvL vs us
  | [], [] => rfl
  | [], _ :: _ => by simp [eqvL]
  | _ :: _, [] => by simp [eqvL]
  | a :: as, b :: bs => by
    have ih := eqvL_range as bs
    unfold eqvL
    rw [← ih, List.length_cons, List.length_cons, Nat.succ_min_succ, List.range_succ_eq_map, List.all_cons, List.all_map, Bool.and_assoc]
    have e : ((fun j => ((a :: as).getD j V.none).eqv ((b :: bs).getD j V.none)) ∘ Nat.succ) = fun j => (as.getD j V.none).eqv (bs.getD j V.none) := by
      funext j; simp
    rw [e]
    simp
def veq (y : Value) (a : V) : Bool :=
  match y with
  | .none => V.eqv .none a
  | .bool b => V.eqv (.bool b) a
  | .int i _ => V.eqv (.int i) a
  | .str s _ => V.eqv (.str s) a
  | .bytes b _ => V.eqv (.bytes b) a
  | _ => false
theorem veq_of {ρ : Rho} {y : Value} {v a : V} (h : V.pair v a = true) (r : Rep ρ y v) : veq y a = V.eqv v a := by
  cases v <;> first
    | (exfalso; revert h; cases a <;> simp [V.pair, V.flat]; done)
    | (obtain ⟨t, rfl⟩ := r; rfl)
    | (obtain rfl := r; rfl)
section
variable {c : Wd} {fr fr' : Fx} {m m' m₀ m₁ m₂ : Loc} {st st' st₁ st₂ st₃ : Sto} {ρ ρ₀ ρ₁ ρ' : Rho} {s s₀ s₁ s' : Shared} {G : Shp}
theorem RepL.items {A : Around} {xs : List Value} {vs : List V} {x : Value} {a : V} (rx : Rep ρ x a) (rl : RepL ρ xs vs) (h : vs.all (fun v => v.pair a) = true) : (∀ y, y ∈ xs.toArray → EqAt A s y x (veq y a)) ∧ xs.toArray.any (fun y => veq y a) = vs.any fun v => v.eqv a := by
  induction rl with
  | nil => exact ⟨fun y hy => (by simp at hy), by simp⟩
  | @cons y v xs vs r1 r2 ih =>
    rw [List.all_cons, Bool.and_eq_true] at h
    obtain ⟨h1, h2⟩ := h
    obtain ⟨i1, i2⟩ := ih h2
    constructor
    · intro z hz
      rw [List.mem_toArray] at hz
      rcases List.mem_cons.mp hz with rfl | hz
      · rw [veq_of h1 r1]; exact EqAt.flat h1 r1 rx
      · exact i1 z (by rw [List.mem_toArray]; exact hz)
    · rw [← Array.any_toList] at i2 ⊢
      simp only [List.any_cons]
      rw [veq_of h1 r1]
      congr 1
theorem Cmp2.inT {n : Nat} {vs : List V} {a : V} (hn : st[n]? = some (.tuple vs)) (h : vs.all (fun v => v.pair a) = true) : Cmp2 c fr st .In a (.obj n) (.bool (vs.any fun v => v.eqv a)) := fun m ρ x y rx ry => .look fun A s Q E hA I hQ => by
  obtain ⟨p, hp, rfl⟩ := ry
  obtain ⟨xs, hl, rl, _⟩ := I.store n _ p hn hp
  have i := RepL.items (A := A.in1) (s := s) rx rl h
  exact in_tupleAt (fun y => veq y a) hl i.1 (by rw [i.2]; exact hQ _ s.toks rfl)
theorem Cmp2.notInT {n : Nat} {vs : List V} {a : V} (hn : st[n]? = some (.tuple vs)) (h : vs.all (fun v => v.pair a) = true) : Cmp2 c fr st .NotIn a (.obj n) (.bool (!vs.any fun v => v.eqv a)) := fun m ρ x y rx ry => .look fun A s Q E hA I hQ => by
  obtain ⟨p, hp, rfl⟩ := ry
  obtain ⟨xs, hl, rl, _⟩ := I.store n _ p hn hp
  have i := RepL.items (A := A.in1) (s := s) rx rl h
  exact notIn_tupleAt (fun y => veq y a) hl i.1 (by rw [i.2]; exact hQ _ s.toks rfl)
theorem Cmp2.inL {n : Nat} {vs : List V} {a : V} (hn : st[n]? = some (.list vs)) (h : vs.all (fun v => v.pair a) = true) : Cmp2 c fr st .In a (.obj n) (.bool (vs.any fun v => v.eqv a)) := fun m ρ x y rx ry => .look fun A s Q E hA I hQ => by
  obtain ⟨p, hp, rfl⟩ := ry
  obtain ⟨xs, hl, rl, _⟩ := I.store n _ p hn hp
  have i := RepL.items (A := A.in1) (s := s) rx rl h
  exact in_listAt (fun y => veq y a) hl i.1 (by rw [i.2]; exact hQ _ s.toks rfl)
theorem Cmp2.notInL {n : Nat} {vs : List V} {a : V} (hn : st[n]? = some (.list vs)) (h : vs.all (fun v => v.pair a) = true) : Cmp2 c fr st .NotIn a (.obj n) (.bool (!vs.any fun v => v.eqv a)) := fun m ρ x y rx ry => .look fun A s Q E hA I hQ => by
  obtain ⟨p, hp, rfl⟩ := ry
  obtain ⟨xs, hl, rl, _⟩ := I.store n _ p hn hp
  have i := RepL.items (A := A.in1) (s := s) rx rl h
  exact notIn_listAt (fun y => veq y a) hl i.1 (by rw [i.2]; exact hQ _ s.toks rfl)
theorem Cmp2.inS {a b : Str} : Cmp2 c fr st .In (.str a) (.str b) (.bool (Txt.contains b a)) := fun m ρ x y rx ry => by
  obtain ⟨t, rfl⟩ := rx; obtain ⟨u, rfl⟩ := ry
  exact .look fun A s Q E _ _ h => SB.contains (h _ s.toks rfl)
theorem Cmp2.inB {a b : Array UInt8} (hz : fr.hd = none) : Cmp2 c fr st .In (.bytes a) (.bytes b) (.bool (Builtin.Bytes.find? b a 0 b.size).isSome) := fun m ρ x y rx ry => by
  obtain ⟨t, rfl⟩ := rx; obtain ⟨u, rfl⟩ := ry
  exact .grows fun A s Q E hA I h => in_bytes (hA.handled.trans hz) fun h' tk k => h _ h' tk k rfl
theorem units_ok {fr : Fx} {A : Around} (hlv : fr.lv ≤ 900) (hA : fr.At A) : A.units < cLine := by
  have := hA.units
  show A.units < 9900
  omega
theorem Cmp2.eqT {n k : Nat} {vs us : List V} (hlv : fr.lv ≤ 900) (hn : st[n]? = some (.tuple vs)) (hk : st[k]? = some (.tuple us)) (h : ∀ j < min vs.length us.length, (vs.getD j .none).pair (us.getD j .none) = true) : Cmp2 c fr st .Eq (.obj n) (.obj k) (.bool (eqvL vs us)) := fun m ρ x y rx ry => .look fun A s Q E hA I hQ => by
  obtain ⟨p, hp, rfl⟩ := rx
  obtain ⟨q, hq, rfl⟩ := ry
  obtain ⟨xs, hl, rl, _⟩ := I.store n _ p hn hp
  obtain ⟨ys, hl', rl', _⟩ := I.store k _ q hk hq
  have e1 := rl.length
  have e2 := rl'.length
  refine eq_tupleAt (e := fun j => V.eqv (vs.getD j .none) (us.getD j .none)) hl hl' (units_ok hlv hA) (fun j h1 h2 => ?_) ?_
  · rw [List.size_toArray] at h1 h2
    have g1 : vs[j]? = some (vs.getD j .none) := by rw [List.getD_eq_getElem?_getD, List.getElem?_eq_getElem (by omega)]; rfl
    have g2 : us[j]? = some (us.getD j .none) := by rw [List.getD_eq_getElem?_getD, List.getElem?_eq_getElem (by omega)]; rfl
    obtain ⟨x, hx, rx⟩ := rl.get g1
    obtain ⟨y, hy, ry⟩ := rl'.get g2
    have a1 : xs.toArray[j] = x := by simpa [List.getElem?_eq_getElem h1] using hx
    have a2 : ys.toArray[j] = y := by simpa [List.getElem?_eq_getElem h2] using hy
    rw [a1, a2]
    exact EqAt.flat (h j (by omega)) rx ry
  · simp only [List.size_toArray, e1, e2]
    have := eqvL_range vs us
    rw [show (((List.range (min vs.length us.length)).all fun j => V.eqv (vs.getD j .none) (us.getD j .none)) && (vs.length == us.length)) = eqvL vs us from this]
    exact hQ _ s.toks rfl
theorem Cmp2.neT {n k : Nat} {vs us : List V} (hlv : fr.lv ≤ 900) (hn : st[n]? = some (.tuple vs)) (hk : st[k]? = some (.tuple us)) (h : ∀ j < min vs.length us.length, (vs.getD j .none).pair (us.getD j .none) = true) : Cmp2 c fr st .NotEq (.obj n) (.obj k) (.bool (!eqvL vs us)) := fun m ρ x y rx ry => .look fun A s Q E hA I hQ => by
  obtain ⟨p, hp, rfl⟩ := rx
  obtain ⟨q, hq, rfl⟩ := ry
  obtain ⟨xs, hl, rl, _⟩ := I.store n _ p hn hp
  obtain ⟨ys, hl', rl', _⟩ := I.store k _ q hk hq
  have e1 := rl.length
  have e2 := rl'.length
  refine RcNeAt.tuples (e := fun j => V.eqv (vs.getD j .none) (us.getD j .none)) hl hl' (units_ok hlv hA) (fun j h1 h2 => ?_) _ _ _ _ ?_
  · rw [List.size_toArray] at h1 h2
    have g1 : vs[j]? = some (vs.getD j .none) := by rw [List.getD_eq_getElem?_getD, List.getElem?_eq_getElem (by omega)]; rfl
    have g2 : us[j]? = some (us.getD j .none) := by rw [List.getD_eq_getElem?_getD, List.getElem?_eq_getElem (by omega)]; rfl
    obtain ⟨x, hx, rx⟩ := rl.get g1
    obtain ⟨y, hy, ry⟩ := rl'.get g2
    have a1 : xs.toArray[j] = x := by simpa [List.getElem?_eq_getElem h1] using hx
    have a2 : ys.toArray[j] = y := by simpa [List.getElem?_eq_getElem h2] using hy
    rw [a1, a2]
    exact EqAt.flat (h j (by omega)) rx ry
  · simp only [List.size_toArray, e1, e2]
    have := eqvL_range vs us
    rw [show (((List.range (min vs.length us.length)).all fun j => V.eqv (vs.getD j .none) (us.getD j .none)) && (vs.length == us.length)) = eqvL vs us from this]
    exact hQ _ s.toks rfl
def V.num : V → Bool
  | .none => true
  | .bool _ => true
  | .int _ => true
  | _ => false
theorem Rep.num {x : Value} {a : V} (h : a.num = true) (r : Rep ρ x a) (hp : Heap) : ∃ d, Reads hp x d [] ∧ d.canLay0 = true ∧ d.depth ≤ 1 ∧ (∀ b : V, b.num = true → ∀ (y : Value) ρ, Rep ρ y b → ∀ e, Reads hp y e [] → PyData.eqv d e = V.eqv a b) := by
  cases a <;> first
    | (exfalso; revert h; simp [V.num]; done)
    | skip
  · obtain rfl : x = .none := r
    refine ⟨_, .none, rfl, by decide, fun b hb y ρ ry e re => ?_⟩
    cases b <;> first | (exfalso; revert hb; simp [V.num]; done) | (obtain rfl := ry; cases re; rfl) | (obtain ⟨t, rfl⟩ := ry; cases re; rfl)
  · obtain rfl : x = .bool _ := r
    refine ⟨_, .bool _, rfl, by simp [PyData.depth], fun b hb y ρ ry e re => ?_⟩
    cases b <;> first | (exfalso; revert hb; simp [V.num]; done) | (obtain rfl := ry; cases re; rfl) | (obtain ⟨t, rfl⟩ := ry; cases re; rfl)
  · obtain ⟨t, rfl⟩ := r
    refine ⟨_, .int _ _, rfl, by simp [PyData.depth], fun b hb y ρ ry e re => ?_⟩
    cases b <;> first | (exfalso; revert hb; simp [V.num]; done) | (obtain rfl := ry; cases re; rfl) | (obtain ⟨t, rfl⟩ := ry; cases re; rfl)
theorem Cmp2.neF {a b : V} (hlv : fr.lv ≤ 900) (ha : a.num = true) (hb : b.num = true) : Cmp2 c fr st .NotEq a b (.bool (!a.eqv b)) := fun m ρ x y rx ry => .look fun A s Q E hA I hQ => by
  obtain ⟨d, r1, c1, d1, k⟩ := rx.num ha s.heap
  obtain ⟨e, r2, c2, d2, _⟩ := ry.num hb s.heap
  have := k b hb y ρ ry e r2
  refine compareNe_reads r1 r2 c1 c2 ?_ (by rw [this]; exact hQ _ s.toks rfl)
  have := hA.units
  show A.units + min d.depth e.depth < 9900
  omega
theorem Cmp2.eqTN {n : Nat} {vs : List V} (hlv : fr.lv ≤ 900) (hn : st[n]? = some (.tuple vs)) : Cmp2 c fr st .Eq (.obj n) .none (.bool false) := fun m ρ x y rx ry => .look fun A s Q E hA I hQ => by
  obtain ⟨p, hp, rfl⟩ := rx
  obtain rfl : y = .none := ry
  obtain ⟨xs, hl, rl, _⟩ := I.store n _ p hn hp
  exact RcAt.tuple_none hl (units_ok hlv hA) _ _ _ _ (hQ _ s.toks rfl)
theorem Cmp2.eqNT {n : Nat} {vs : List V} (hlv : fr.lv ≤ 900) (hn : st[n]? = some (.tuple vs)) : Cmp2 c fr st .Eq .none (.obj n) (.bool false) := fun m ρ x y rx ry => .look fun A s Q E hA I hQ => by
  obtain ⟨p, hp, rfl⟩ := ry
  obtain rfl : x = .none := rx
  obtain ⟨xs, hl, rl, _⟩ := I.store n _ p hn hp
  exact RcAt.none_tuple hl (units_ok hlv hA) _ _ _ _ (hQ _ s.toks rfl)
theorem Cmp2.eqNN : Cmp2 c fr st .Eq .none .none (.bool true) := fun m ρ x y rx ry => .look fun A s Q E hA I hQ => by
  obtain rfl : x = .none := rx
  obtain rfl : y = .none := ry
  exact RcAt.none_none _ _ _ _ (hQ _ s.toks rfl)
end
end Mine
end
section
set_option Elab.async false
set_option maxRecDepth 100000
set_option linter.unusedVariables false
namespace Mine
open PySem PySem.Spec PySem.Calls PyProof.Rows PySem.W PySem.SeqAt
section
variable {c : Wd} {fr fr' : Fx} {m m' m₀ m₁ m₂ : Loc} {st st' st₁ st₂ st₃ : Sto} {ρ ρ₀ ρ₁ ρ' : Rho} {s s₀ s₁ s' : Shared} {G : Shp}
theorem ifle (b : Bool) (n k : Nat) (h : n ≤ k) : (if b = true then n else n + 1) ≤ k + 1 := by split <;> omega
theorem Bt.notInSet (ok : c.Ok) (F : Sh c G fr) (htop : G.top = true) {l : Expr} {a x1 x2 x3 : Int} {p p1 p2 p3 pos : Pos} (h1 : Ev c fr l m st (.ok (.int a)) st) :
    Bt c fr (.Compare l [.NotIn] [.Set [.Constant (.int x1) 0 p1, .Constant (.int x2) 0 p2, .Constant (.int x3) 0 p3] 0 p] pos) m st (.ok (!((decide (a = x1) || decide (a = x2)) || decide (a = x3)))) st := fun ρ => by
  rw [isTrue_Compare1]
  refine (h1 ρ).bind fun ρ₁ x p₁ rx => ?_
  obtain ⟨t, rfl⟩ := rx
  intro A s Q E hA I post
  obtain ⟨mm, F0, hm⟩ := I.kit
  have N0 := I.news
  refine wpAny_bind (wpAny_holding ?_)
  have e0 : behindInMarks .NotIn (.Set [.Constant (.int x1) 0 p1, .Constant (.int x2) 0 p2, .Constant (.int x3) 0 p3] 0 p) = true := rfl
  unfold markedBehindIn
  rw [e0]
  refine wpAny_bind (kds_eval F0 N0 ok.kin (F.code htop) rfl rfl (Nat.le_of_ble_eq_true rfl) fun D h' led F1 N1 hD hso _ => ?_)
  dsimp only [KdsAll]
  refine wpAny_Constant_int (wpAny_Constant_int (wpAny_Constant_int ?_))
  have U : ∀ so, UpdF D so ((D, so) :: rest c fr s.heap) (fun o' => (D, o') :: rest c fr s.heap) := fun so => .head fun q hq => Nat.ne_of_lt (hD q hq)
  have hb : ∀ n : Nat, n ≤ 4 → n < scanBound := fun n h => by have : scanBound = 4096 := rfl; omega
  refine kds_fill_cons ?_
  refine kds_add (h₀ := c.base) (L := fr.env.locals) (m := mm) (knd := intKind c.prog c.w) (k := x1) ?_ ?_ (U _) hso (by decide) ?_ ?_ (fun h2 so2 F2 N2 hso2 => ?_)
  · exact F1
  · exact N1
  · exact (by simp [intKind, Value.isInt])
  · rfl
  refine kds_fill_cons ?_
  refine kds_add (h₀ := c.base) (L := fr.env.locals) (m := mm) (knd := intKind c.prog c.w) (k := x2) ?_ ?_ (U _) hso2 ?_ ?_ ?_ (fun h3 so3 F3 N3 hso3 => ?_)
  · exact F2
  · exact N2
  · exact hb _ (Nat.succ_le_succ (ifle _ _ 0 (Nat.le_refl _)) |> (Nat.le_trans · (by decide)))
  · exact (by simp [intKind, Value.isInt])
  · rfl
  refine kds_fill_cons ?_
  refine kds_add (h₀ := c.base) (L := fr.env.locals) (m := mm) (knd := intKind c.prog c.w) (k := x3) ?_ ?_ (U _) hso3 ?_ ?_ ?_ (fun h4 so4 F4 N4 hso4 => ?_)
  · exact F3
  · exact N3
  · exact hb _ (Nat.succ_le_succ (ifle _ _ 1 (ifle _ _ 0 (Nat.le_refl _))) |> (Nat.le_trans · (by decide)))
  · exact (by simp [intKind, Value.isInt])
  · rfl
  refine kds_fill_unled rfl ?_
  refine kds_unled (h₀ := c.base) (L := fr.env.locals) (m := mm) (knd := intKind c.prog c.w) ?_ ?_ (U _) hso4 ?_ (fun h5 so5 F5 N5 hso5 => ?_)
  · exact F4
  · exact N4
  · exact hb _ (Nat.le_trans (ifle _ _ 2 (ifle _ _ 1 (ifle _ _ 0 (Nat.le_refl _)))) (by decide))
  refine wpAny_bind ?_
  refine kds_unled (h₀ := c.base) (L := fr.env.locals) (m := mm) (knd := intKind c.prog c.w) ?_ ?_ (U _) hso5 ?_ (fun h6 so6 F6 N6 hso6 => ?_)
  · exact F5
  · exact N5
  · exact hb _ (Nat.le_trans (ifle _ _ 2 (ifle _ _ 1 (ifle _ _ 0 (Nat.le_refl _)))) (by decide))
  refine wpAny_pure ?_
  refine wpAny_bind (wpAny_standAt (wpAny_bind (wpAny_operate' ?_)))
  refine kse_notin (h₀ := c.base) (L := fr.env.locals) (knd := intKind c.prog c.w) (k := a) ?_ (U _) hso6 ?_ ?_ ?_ ?_
  · exact N6
  · exact hb _ (Nat.le_trans (ifle _ _ 2 (ifle _ _ 1 (ifle _ _ 0 (Nat.le_refl _)))) (by decide))
  · exact (by simp [intKind, Value.isInt])
  · rfl
  refine wpAny_holding (wpAny_truthy_bool ?_)
  obtain ⟨I', N'⟩ := I.step hm F6 N6 (fun q hq => .tail _ hq) (tk' := _)
  exact post ρ₁ _ _ (List.prefix_refl _) N' I' (by show _ = _; simp)
-- a sum that makes an object
def BinS (c : Wd) (fr : Fx) (st : Sto) (op : Operator) (a b v : V) (st' : Sto) : Prop := ∀ m ρ x y, Rep ρ x a → Rep ρ y b → TriAt c fr Rep ρ (binaryOp op x y) m st (.ok v) m st'
theorem Ev.binS {l r : Expr} {op : Operator} {pos : Pos} {a b v : V} (h1 : Ev c fr l m st (.ok a) st₁) (h2 : Ev c fr r m st₁ (.ok b) st₂) (h3 : BinS c fr st₂ op a b v st₃) : Ev c fr (.BinOp l op r pos) m st (.ok v) st₃ :=
  .binop h1 h2 fun ρ x y rx ry => h3 m ρ x y rx ry
theorem BinS.addL {n k : Nat} {l l' : List V} (hn : st[n]? = some (.list l)) (hk : st[k]? = some (.list l')) (hz : l.length + l'.length ≤ 100000) : BinS c fr st .Add (.obj n) (.obj k) (.obj st.length) (st ++ [.list (l ++ l')]) := fun m ρ x y rx ry => .makes fun A s Q E hA I hQ => by
  obtain ⟨p, hp, rfl⟩ := rx
  obtain ⟨q, hq, rfl⟩ := ry
  obtain ⟨xs, hl, rl, _⟩ := I.store n _ p hn hp
  obtain ⟨ys, hl', rl', _⟩ := I.store k _ q hk hq
  have e1 := rl.length
  have e2 := rl'.length
  obtain ⟨⟨cls, dd, data, sl⟩, ho, hc, n1, hd⟩ := id hl
  obtain ⟨⟨cls2, dd2, data2, sl2⟩, ho2, hc2, n2, hd2⟩ := id hl'
  simp only at hc hd hc2 hd2
  subst hc hd hc2 hd2
  have e : xs.toArray ++ ys.toArray = (xs ++ ys).toArray := by simp
  have hne : s.heap.get? s.heap.objs.size = none := Heap.get?_none_of_le (Nat.le_refl _)
  refine concat_meets (show s.TypeIs (.ref p.1) "list" from ⟨_, ho, rfl⟩) (show s.TypeIs (.ref q.1) "list" from ⟨_, ho2, rfl⟩) noFill_list_add seq_list_add PySem.F.slot_list_add PySem.F.entry_list_add (PySem.F.args_list_add_2 _ _) (list_addW p.1 q.1 xs.toArray ys.toArray n1 n2 dd dd2 sl sl2 (by rw [sizeLine_eq, List.size_toArray, List.size_toArray]; omega)) ⟨ho, ho2, ?_⟩
  rw [e]
  exact hQ (s.heap.objs.size, s.heap.objs.size) _ s.toks (fun b o e => Heap.get?_push_of_some _ e) hne hne ⟨xs ++ ys, ⟨_, Heap.get?_push_size _ rfl, rfl, _, rfl⟩, (rl.append rl').mono (prefix_add _ _), rfl⟩
theorem BinS.addT {n k : Nat} {l l' : List V} (hn : st[n]? = some (.tuple l)) (hk : st[k]? = some (.tuple l')) (hl0 : l ≠ []) (hl0' : l' ≠ []) (hz : l.length + l'.length ≤ 100000) : BinS c fr st .Add (.obj n) (.obj k) (.obj st.length) (st ++ [.tuple (l ++ l')]) := fun m ρ x y rx ry => .makes fun A s Q E hA I hQ => by
  obtain ⟨p, hp, rfl⟩ := rx
  obtain ⟨q, hq, rfl⟩ := ry
  obtain ⟨xs, hl, rl, _⟩ := I.store n _ p hn hp
  obtain ⟨ys, hl', rl', _⟩ := I.store k _ q hk hq
  have e1 := rl.length
  have e2 := rl'.length
  obtain ⟨⟨cls, dd, data, sl⟩, ho, hc, n1, hd⟩ := id hl
  obtain ⟨⟨cls2, dd2, data2, sl2⟩, ho2, hc2, n2, hd2⟩ := id hl'
  simp only at hc hd hc2 hd2
  subst hc hd hc2 hd2
  have e : xs.toArray ++ ys.toArray = (xs ++ ys).toArray := by simp
  have hne : s.heap.get? s.heap.objs.size = none := Heap.get?_none_of_le (Nat.le_refl _)
  have z1 : ¬ xs.toArray.isEmpty = true := by
    intro h; simp at h; rw [h] at e1; exact hl0 (List.length_eq_zero_iff.mp e1.symm)
  have z2 : ¬ ys.toArray.isEmpty = true := by
    intro h; simp at h; rw [h] at e2; exact hl0' (List.length_eq_zero_iff.mp e2.symm)
  refine concat_meets (show s.TypeIs (.ref p.1) "tuple" from ⟨_, ho, rfl⟩) (show s.TypeIs (.ref q.1) "tuple" from ⟨_, ho2, rfl⟩) noFill_tuple_add seq_tuple_add PySem.F.slot_tuple_add PySem.F.entry_tuple_add (PySem.F.args_tuple_add_2 _ _) (tuple_addW2 p.1 q.1 xs.toArray ys.toArray n1 n2 dd dd2 sl sl2 z1 z2 (by rw [sizeLine_eq, List.size_toArray, List.size_toArray]; omega)) ⟨ho, ho2, ?_⟩
  rw [e]
  exact hQ (s.heap.objs.size, s.heap.objs.size) _ s.toks (fun b o e => Heap.get?_push_of_some _ e) hne hne ⟨xs ++ ys, ⟨_, Heap.get?_push_size _ rfl, rfl, _, rfl⟩, (rl.append rl').mono (prefix_add _ _), rfl⟩
theorem Aug2.listAdd {n k : Nat} {l l' : List V} (hn : st[n]? = some (.list l)) (hk : st[k]? = some (.list l')) (hz : l.length + l'.length ≤ 100000) : Aug2 c fr st .Add (.obj n) (.obj k) (.obj n) (st.set n (.list (l ++ l'))) := fun m ρ x y rx ry => by
  intro A s Q E hA I post
  obtain ⟨p, hp, rfl⟩ := rx
  obtain ⟨q, hq, rfl⟩ := ry
  obtain ⟨xs, hl, rl, hpd⟩ := I.store n _ p hn hp
  obtain ⟨ys, hl', rl', _⟩ := I.store k _ q hk hq
  refine iadd_lists hl hl' (by rw [rl.length, rl'.length]; exact hz) fun h' hl2 hs => ?_
  have kk : ∀ b o, s.heap.get? b = some o → b ≠ p.1 → b ≠ p.2 → h'.get? b = some o := fun b o e n1 _ => hs.extBut b o n1 e
  refine post ρ _ _ (List.prefix_refl ρ) (Nxt.put hp kk fun b o e => ?_) (I.put (o' := .list _) hp kk ⟨_, hl2, rl.append rl', hpd⟩) ⟨p, hp, rfl⟩
  by_cases q : b = p.1
  · subst q
    obtain ⟨o', e', _⟩ := hl2
    exact ⟨o', e'⟩
  · exact ⟨o, hs.extBut b o q e⟩
theorem TriAt.setLast {n : Nat} {l : List V} {x y z : Value} {v : V} (ho : st[n]? = some (.list l)) (h0 : l ≠ []) (rx : Rep ρ x (.obj n)) (ry : Rep ρ y (.int (-1))) (rz : Rep ρ z v) :
    TriAt c fr RepU ρ (setItem x y z) m st (.ok ()) m (st.set n (.list (l.set (l.length - 1) v))) := by
  intro A s Q E hA I post
  obtain ⟨p, hp, rfl⟩ := rx
  obtain ⟨t, rfl⟩ := ry
  obtain ⟨xs, hl, rl, hpd⟩ := I.store n _ p ho hp
  have e1 := rl.length
  refine setItem_last hl (by rw [List.size_toArray, e1]; exact List.length_pos_iff.mpr h0) fun h' hl' hs => ?_
  have kk : ∀ b o, s.heap.get? b = some o → b ≠ p.1 → b ≠ p.2 → h'.get? b = some o := fun b o e n1 _ => (hs.2 b n1).trans e
  have e : xs.toArray.setIfInBounds (xs.toArray.size - 1) z = (xs.set (l.length - 1) z).toArray := by simp [e1]
  rw [e] at hl'
  refine post ρ _ () (List.prefix_refl ρ) (Nxt.put hp kk fun b o e => ?_) (I.put (o' := .list _) hp kk ⟨_, hl', rl.set rz _, hpd⟩) trivial
  by_cases q : b = p.1
  · subst q
    obtain ⟨o', e', _⟩ := hl'
    exact ⟨o', e'⟩
  · exact ⟨o, (hs.2 b q).trans e⟩
theorem Item.str {a : Str} {i : Int} {cc : Nat} (h1 : -(2 ^ 63) ≤ i ∧ i < 2 ^ 63) (hx : (seqIndex? i a.length).bind (a.cps[·]?) = some cc) : Item c fr st (.str a) (.int i) (.ok (.str ⟨#[cc]⟩)) st := fun m ρ x y value slice rx ry hs => by
  obtain ⟨t, rfl⟩ := rx
  obtain ⟨u, rfl⟩ := ry
  refine .look fun A s Q E _ I h => ?_
  exact tail_any (typeIs_str _ _ _) F.slot_str_getitem.lookup (PySem.P.getItem_str (by simp; omega) hx (h _ _ ⟨_, rfl⟩)) (subscripted_plain hs _ _)
theorem CallT.divmod {a b : Int} (hb : 0 < b) (hs : b.natAbs < 1073741824) : CallT c fr (.builtin "divmod") [.int a, .int b] [] st (.ok (.obj st.length)) (st ++ [.tuple [.int (a / b), .int (a % b)]]) := fun m ρ xs ys rx ry => by
  obtain ⟨x, r', rfl, r1, r2⟩ := rx.inv1
  obtain ⟨z, r'', rfl, r3, r4⟩ := r2.inv1
  obtain rfl := r4.inv0
  obtain rfl := RepL.inv0 ry
  obtain ⟨t, rfl⟩ := r1
  obtain ⟨u, rfl⟩ := r3
  refine .makes fun A s Q E hA I hQ => ?_
  have hne : s.heap.get? s.heap.objs.size = none := Heap.get?_none_of_le (Nat.le_refl _)
  refine divmod_int (by omega) ?_ (.inl (PyProof.noPylong_small hs))
  rw [Int.fdiv_eq_ediv_of_nonneg a (Int.le_of_lt hb), Int.fmod_eq_emod_of_nonneg a (Int.le_of_lt hb)]
  exact hQ (s.heap.objs.size, s.heap.objs.size) _ _ (fun b o e => Heap.get?_push_of_some _ e) hne hne ⟨[_, _], ⟨_, Heap.get?_push_size _ rfl, rfl, _, rfl⟩, .cons ⟨_, rfl⟩ (.cons ⟨_, rfl⟩ .nil), rfl⟩
theorem CallT.min2 {a b : Int} (hz : fr.hd = none) : CallT c fr (.builtin "min") [.int a, .int b] [] st (.ok (.int (min a b))) st := fun m ρ xs ys rx ry => by
  obtain ⟨x, r', rfl, r1, r2⟩ := rx.inv1
  obtain ⟨z, r'', rfl, r3, r4⟩ := r2.inv1
  obtain rfl := r4.inv0
  obtain rfl := RepL.inv0 ry
  obtain ⟨t, rfl⟩ := r1
  obtain ⟨u, rfl⟩ := r3
  refine .grows fun A s Q E hA I h => min_two_ints (hA.handled.trans hz) fun h' tk k => h _ h' tk k ?_
  split
  · exact ⟨u, by rw [show min a b = b by omega]⟩
  · exact ⟨t, by rw [show min a b = a by omega]⟩
theorem CallT.isStrB (ok : c.Ok) {a : Array UInt8} (hk : kitOne c.K (.type "bytes") (.type "str") = some false) : CallT c fr (.builtin "isinstance") [.bytes a, .glob (.type "str")] [] st (.ok (.bool false)) st := .look2 fun m ρ x z A s Q E rx rz hA I h => by
  obtain ⟨t, rfl⟩ := rx; obtain rfl := rz
  exact kia_one kitx_bytes (I.kin ok) trivial hk (fun e => nomatch e) fun tk => h _ _ rfl
end
end Mine
end
section
set_option Elab.async false
set_option maxRecDepth 100000
set_option linter.unusedVariables false
namespace Mine
open PySem PySem.Spec PySem.Calls PyProof.Rows PySem.W PySem.SeqAt
section
variable {c : Wd} {fr fr' : Fx} {m m' m₀ m₁ m₂ : Loc} {st st' st₁ st₂ st₃ : Sto} {ρ ρ₀ ρ₁ ρ' : Rho} {s s₀ s₁ s' : Shared} {G : Shp}
/-- the table has grown -/
theorem Inv.table (I : Inv c fr ρ m st s) (hz : fr.hd = none) (k : ∀ b o, b ≠ fr.out → s.heap.get? b = some o → s'.heap.get? b = some o) (ht : ∃ ps, s'.heap.get? fr.out = some (tabObj ps) ∧ TriplesOk ps.toList) (hg : AllBare s'.gens) : Inv c fr ρ m st s' := by
  have x := I.out
  refine ⟨fun b o e => k b o (fun q => by rw [q, x.base] at e; cases e) (I.stays b o e), ?_, ?_, I.cells, I.len, fun i o p e1 e2 => ?_, I.sep, I.fresh, I.locals, I.low, fun b hb => ?_, I.head, hg, (fun rr e he => by rw [hz] at he; cases he), ⟨x.eq, x.ads, x.locals, x.below, x.base, ht⟩⟩
  · refine FunFrames.same I.ff fun b o e q f => ⟨o, k b o (fun z => ?_) e, f⟩
    rcases I.frs_mem (fr := fr) q with q | q
    · exact x.locals (z ▸ q)
    · exact x.below (z ▸ q)
  · obtain ⟨mm, hn, hm⟩ := I.ns
    exact ⟨mm, hn.at' fun o e => k _ o (Ne.symm x.locals) e, hm⟩
  · have mem : ∀ b, b = p.1 ∨ b = p.2 → b ≠ fr.out := fun b hb q => x.ads (q ▸ mem_ads.mpr ⟨p, List.mem_of_getElem? e2, hb⟩)
    exact (I.store i o p e1 e2).keep (fun ob e => k _ _ (mem _ (.inl rfl)) e) (fun ob e => k _ _ (mem _ (.inr rfl)) e)
  · obtain ⟨⟨ob, e1, e2⟩, e3⟩ := I.below b hb
    exact ⟨⟨ob, k b _ (fun q => x.below (q ▸ hb)) e1, e2⟩, e3⟩
theorem Nxt.table (x : OutOk c fr ρ s.heap) (k : ∀ b o, b ≠ fr.out → s.heap.get? b = some o → s'.heap.get? b = some o) (ht : ∃ o, s'.heap.get? fr.out = some o) (os : s'.os = s.os) : Nxt fr ρ ρ s s' := by
  refine ⟨fun b o h h1 h2 h3 => ⟨fun _ => k b o h3 h, fun _ => ⟨o.slots, k b o h3 h⟩⟩, fun b o h => ?_, fun _ h => .inl h, os⟩
  by_cases q : b = fr.out
  · subst q; exact ht
  · exact ⟨o, k b o q h⟩
def genOk (scope : Scope) (x : Str) : Bool :=
  !scope.isCoroutine && scope.kind == .function && scope.names.all (fun y => !(y.2 == .cell) && !(y.2 == .free)) && scope.names.lookup (".0" : Str) == some .local && scope.names.lookup x == some .local && !(x == ("__debug__" : Str))
theorem Ev.any3 (ok : c.Ok) (F : Sh c G fr) (hz : G.z = true) {cd : Addr} (hcd : fr.env.code = .ref cd) (hC : CodeHd c.base cd c.out) {fn iter : Expr} {x : Str} {px xp zp cp gpos pos : Pos} {scope : Scope} {n : Nat} {i1 i2 i3 : Int} (hsc : genOk scope x = true)
    (h0 : Ev c fr fn m st (.ok (.glob (.builtin "any"))) st) (h1 : Ev c fr iter m st (.ok (.obj n)) st₁) (hn : st₁[n]? = some (.list [.int i1, .int i2, .int i3])) (hs : ∀ x, genFold iter fr.env x = pure x)
    (he : eval (.Call fn [.GeneratorExp (.Compare (.Name x xp) [.NotEq] [.Constant (.int 0) 0 zp] cp) [⟨.Name x px, iter, [], 0⟩] scope gpos] [] pos) fr.env =
      (do PySem.callWith pos (← eval fn fr.env) [] (backTo pos (starEach [.GeneratorExp (.Compare (.Name x xp) [.NotEq] [.Constant (.int 0) 0 zp] cp) [⟨.Name x px, iter, [], 0⟩] scope gpos] fr.env)) (backToKw pos (keywordEach [] fr.env)))) :
    Ev c fr (.Call fn [.GeneratorExp (.Compare (.Name x xp) [.NotEq] [.Constant (.int 0) 0 zp] cp) [⟨.Name x px, iter, [], 0⟩] scope gpos] [] pos) m st (.ok (.bool (i1 != 0 || i2 != 0 || i3 != 0))) st₁ := fun ρ A s Q E hA I post => by
  simp only [genOk, Bool.and_eq_true, beq_iff_eq, Bool.not_eq_true'] at hsc
  obtain ⟨⟨⟨⟨⟨g1, g2⟩, g3⟩, g4⟩, g5⟩, g6⟩ := hsc
  have hzd := F.fit.z hz
  have hh : A.handled = none := hA.handled.trans hzd
  rw [he]
  refine wpAny_bind (h0 ρ A s _ E hA I fun ρ₁ s₁ y p₁ N₁ I₁ ry => ?_)
  obtain rfl : y = .builtin "any" := ry
  have b1 := backTo_any (pos := pos) (env := fr.env) (es := [.GeneratorExp (.Compare (.Name x xp) [.NotEq] [.Constant (.int 0) 0 zp] cp) [⟨.Name x px, iter, [], 0⟩] scope gpos]) rfl
  refine callWith_of (P := c.K.In) (by rw [b1]; rfl) (fun h X => KeepOk.builtin.looks _ h X) (evalArgs_gen b1 rfl ?_)
  rw [starEach_plain rfl, spliced_cons]
  refine wpAny_bind ?_
  have hnames : ∀ y ∈ scope.names, y.2 ≠ .cell ∧ y.2 ≠ .free := fun y hy => by have := List.all_eq_true.mp g3 y hy; simpa using this
  refine wpAny_GeneratorExp_walksQD hh g1 (closureFor_none fun y hy => (hnames y hy).2) (fun y hy => (hnames y hy).1) g4 g5 g2 (by have := hA.depth; have := F.fit.lv; show A.depth < 1000; omega) ?_ hs
  refine h1 ρ₁ A s₁ _ _ hA I₁ fun ρ₂ s₂ xv p₂ N₂ I₂ rx => ?_
  obtain ⟨q, hq, rfl⟩ := rx
  obtain ⟨xs, hl, rl, _⟩ := I₂.store n _ q hn hq
  obtain ⟨hp, gg, d, tk, os⟩ := s₂
  have hlt : q.1 < hp.objs.size := by obtain ⟨_, e, _⟩ := hl; exact Heap.lt_size e
  have hItn : hp.get? hp.objs.size = none := Heap.get?_none_of_le (Nat.le_refl _)
  have kp : ∀ o b ob, hp.get? b = some ob → (hp.push o).get? b = some ob := fun o b ob e => Heap.get?_push_of_some _ e
  refine wpAny_pyIter_list hl ?_
  generalize hH3 : hp.push { cls := .type "list_iterator", data := .fields #[.ref q.1, .int 0 0] } = h3
  have k3 : ∀ b o, hp.get? b = some o → h3.get? b = some o := fun b o e => hH3 ▸ kp _ b o e
  have it3 : h3.IsListIter hp.objs.size q.1 0 := by rw [← hH3]; exact ⟨_, Heap.get?_push_size _ rfl, rfl, rfl⟩
  have I₃ : Inv c fr ρ₂ m st₁ ⟨h3, gg, d, tk, os⟩ := I₂.grow k3 I₂.bare
  obtain ⟨mc, nl⟩ := (I₃.top ok).nolimit
  refine ⟨(I₃.top ok).nolimit, ?_⟩
  obtain ⟨ps, tab, trip⟩ := I₃.out.tab
  have eo := I₃.out.eq
  have C3 : CodeHd h3 cd fr.out := by rw [eo]; exact hC.keeps fun b o e => I₃.stays b o e
  have code3 : h3.IsCode cd fr.out ps := C3.code tab trip
  have tab3 : h3.TableAt cd fr.out ps := C3.tab tab
  -- behind the code
  have fin : ∀ (cv : Value) (h4 : Heap) (tk4 : Nat), (∀ b o, b ≠ fr.out → h3.get? b = some o → h4.get? b = some o) → (∃ ps, h4.get? fr.out = some (tabObj ps) ∧ TriplesOk ps.toList) → h3.objs.size ≤ h4.objs.size →
      wpAny (model c.prog c.w) A (builtinsFor fr.env.globals fr.env.builtins) (fun bi s₄ => ∃ I fp wr n₀ P St₀ pz F, Value.ref hp.objs.size = .ref I ∧ (∀ A' : Around, A'.handled = none → Walks c.prog c.w A' I fp wr n₀ P St₀) ∧ St₀ 0 s₄.heap ∧ (∀ b ∈ fp, b < s₄.heap.objs.size) ∧ s₄.heap.NoLimit ∧ cStatics ∉ wr ∧
          (∀ href : Heap, (∀ b o, s₄.heap.get? b = some o → href.get? b = some o) →
            QuietGenD c.prog c.w (genEnv scope [] s₄.heap.objs.size cv bi fr.env) x [] (.Compare (.Name x xp) [.NotEq] [.Constant (.int 0) 0 zp] cp) (List.range s₄.heap.objs.size) wr P pz F href (A.depth + 1) (A.units + 8)) ∧
          (∀ a h₅ tk gs, gs.bare = true → s₄.heap.objs.size < a → h₅.objs.size = a + 1 → (∀ b o, s₄.heap.get? b = some o → h₅.get? b = some o) →
            WalksS c.prog c.w A.in4 a (a :: s₄.heap.objs.size :: List.range s₄.heap.objs.size) (s₄.heap.objs.size :: wr) (GenOnlyQ s₄.gens.size) (passing pz n₀ 0).length
              (fun j y => ∃ i, (passing pz n₀ 0)[j]? = some i ∧ F i y) (GenAt c.prog c.w A.in4 a s₄.gens.size s₄.heap.objs.size (List.range s₄.heap.objs.size) wr pz n₀ F) →
            GenAt c.prog c.w A.in4 a s₄.gens.size s₄.heap.objs.size (List.range s₄.heap.objs.size) wr pz n₀ F 0 { s₄ with gens := s₄.gens.push gs, toks := tk, heap := h₅ } →
            wpAny (model c.prog c.w) A (PySem.call (.builtin "any") [.ref a]) Q E { s₄ with gens := s₄.gens.push gs, toks := tk, heap := h₅ } ∧ c.K.In h₅)) E ⟨h4, gg, d, tk4, os⟩ := fun cv h4 tk4 k4 t4 hsz4 => by
    have I₄ : Inv c fr ρ₂ m st₁ ⟨h4, gg, d, tk4, os⟩ := I₃.table (s' := ⟨h4, gg, d, tk4, os⟩) hzd k4 t4 I₃.bare
    obtain ⟨bm, ob, B⟩ := bmod_of_top (I₄.top ok)
    have eg : fr.env.globals = mainGlobals := F.fri.own.globals
    rw [eg]
    refine wpAny_builtinsFor B.ns B.name B.ne B.obj B.cls B.dict B.data ?_
    have neI : hp.objs.size ≠ fr.out := I₂.out.old hItn
    have neq : q.1 ≠ fr.out := fun e => I₂.out.ads (e ▸ mem_ads.mpr ⟨q, List.mem_of_getElem? hq, .inl rfl⟩)
    have hs3 : h3.objs.size = hp.objs.size + 1 := by rw [← hH3, Heap.size_push]
    have lt4 : hp.objs.size < h4.objs.size := Nat.lt_of_lt_of_le (by rw [hs3]; exact Nat.lt_succ_self _) hsz4
    have cst : cStatics ≠ hp.objs.size := fun e => by
      obtain ⟨mc, hns, _⟩ := (I₂.top ok).nolimit
      have := hns.lt
      exact absurd this (by rw [e]; exact Nat.lt_irrefl _)
    refine ⟨hp.objs.size, [hp.objs.size, q.1], [hp.objs.size], xs.toArray.size, (fun i v => xs.toArray[i]? = some v), (fun i h => h.IsListIter hp.objs.size q.1 i ∧ h.IsList q.1 xs.toArray), (fun _ => true), (fun i y => y = .bool (([i1, i2, i3].getD i 0) != 0)), rfl,
      (fun A' hA' => Walks.list hA' _ _ (Nat.ne_of_lt hlt) xs.toArray), ⟨it3.at fun o e => k4 _ o neI e, hl.at fun o e => k4 _ o neq (k3 _ _ e)⟩, fun b hb => ?_, (I₄.top ok).nolimit, (by rw [List.mem_singleton]; exact cst), fun href _ => ⟨fun A' E' i v u m₂ hA' _ _ _ _ _ _ => ?_, fun A' E' i v u m₂ hA' _ _ hP _ hn' hm _ => ?_⟩, fun a h₅ tk' gs hgs hag hsz5 k5 W hat => ?_⟩
    · rcases List.mem_cons.mp hb with rfl | hb
      · exact lt4
      · rw [List.mem_singleton.mp hb]; exact Nat.lt_trans hlt lt4
    · exact wpAny_pure ⟨rfl, u.heap, u.toks, rfl, fun _ _ e => e⟩
    · have hi : i < 3 := by
        have := (Array.getElem?_eq_some_iff.mp hP).1
        rw [List.size_toArray, rl.length] at this
        exact this
      have hv : ∃ t, v = .int ([i1, i2, i3].getD i 0) t := by
        have e : [V.int i1, V.int i2, V.int i3][i]? = some (V.int ([i1, i2, i3].getD i 0)) := by
          rcases i with _ | _ | _ | i
          · rfl
          · rfl
          · rfl
          · omega
        obtain ⟨y, hy, t, ry⟩ := rl.get e
        have hP' : xs[i]? = some v := by simpa using hP
        have : y = v := Option.some.inj (hy.symm.trans hP')
        exact ⟨t, by rw [← this, ry]⟩
      obtain ⟨t, rfl⟩ := hv
      rw [eval_Compare1, markedBehindIn_of_false rfl]
      refine wpAny_bind (wpAny_Name (wpAny_loadName_local g2 g5 hn' hm ?_) g6)
      refine wpAny_bind (wpAny_holding (wpAny_Constant_int ?_))
      refine wpAny_bind (wpAny_standAt (wpAny_operate' (P.ne_int ⟨rfl, _, _, rfl, fun _ _ e => e⟩)))
    · have I₅ : Inv c fr ρ₂ m st₁ ⟨h₅, gg.push gs, d, tk', os⟩ := I₄.grow k5 (I₄.bare.push hgs)
      refine ⟨?_, I₅.kin ok⟩
      obtain ⟨mm, F5, _⟩ := I₅.kit
      have hL : fr.env.locals < hp.objs.size := by obtain ⟨_, e, _⟩ := I₂.locals_there; exact Heap.lt_size e
      have hk : (passing (fun _ => true) xs.toArray.size 0) = [0, 1, 2] := by
        rw [List.size_toArray, rl.length]; rfl
      refine any_rowsK (K := hp.objs.size - 1) F5 I₅.bare ⟨_, _, _, _, W, hat, (fun i s' st => st.1.typeIs), List.mem_cons_self, ?_, ?_⟩ (Nat.le_sub_one_of_lt hL) (fun j => match [0, 1, 2][j]? with | some i => [i1, i2, i3].getD i 0 != 0 | none => false) (fun j v s Q E hv hQ => ?_) fun s' F' G' hos hk' => ?_
      · intro b hb
        show b < h₅.objs.size
        rw [hsz5]
        rcases List.mem_cons.mp hb with rfl | hb
        · exact Nat.lt_succ_self _
        · rcases List.mem_cons.mp hb with rfl | hb
          · exact Nat.lt_succ_of_lt hag
          · exact Nat.lt_succ_of_lt (Nat.lt_trans (List.mem_range.mp hb) hag)
      · intro b hb
        rcases List.mem_cons.mp hb with rfl | hb
        · exact Nat.lt_of_le_of_lt (Nat.sub_le _ _) lt4
        · rw [List.mem_singleton.mp hb]; exact Nat.sub_lt (Nat.lt_of_le_of_lt (Nat.zero_le _) hL) Nat.zero_lt_one
      · obtain ⟨i, hi, rfl⟩ := hv
        rw [hk] at hi
        simp only [hi] at hQ
        exact wpAny_truthy_bool hQ
      · rw [hk]
        have kk : ∀ b o, b ≠ fr.out → hp.get? b = some o → s'.heap.get? b = some o := fun b o nb e => hk' b o (Nat.le_sub_one_of_lt (Heap.lt_size e)) (k5 b o (k4 b o nb (k3 b o e)))
        have to : ∃ ps, s'.heap.get? fr.out = some (tabObj ps) ∧ TriplesOk ps.toList := by
          obtain ⟨ps', t1, t2⟩ := t4
          obtain ⟨ps₀, t3, _⟩ := I₂.out.tab
          exact ⟨ps', hk' _ _ (Nat.le_sub_one_of_lt (Heap.lt_size t3)) (k5 _ _ t1), t2⟩
        have I' : Inv c fr ρ₂ m st₁ s' := I₂.table hzd kk to G'
        have N' : Nxt fr ρ₂ ρ₂ ⟨hp, gg, d, tk, os⟩ s' := Nxt.table I₂.out kk (by obtain ⟨ps', t1, _⟩ := to; exact ⟨_, t1⟩) hos
        exact post ρ₂ s' _ (p₁.trans p₂) ((N₁.trans N₂).trans N') I' (by show Value.bool _ = Value.bool _; simp [List.range, List.range.loop, Bool.or_assoc])
  cases hc : codeAmong gpos ps.toList with
  | some cv =>
    refine wpAny_genexprCode_hit hcd code3 hc ?_
    refine wpAny_mono (fin cv h3 tk (fun _ _ _ e => e) ⟨ps, tab, trip⟩ (Nat.le_refl _)) (fun bi s₄ h => ?_) fun _ _ e => e
    obtain ⟨I', fp, wr, n₀, P, St₀, pz, FF, e, W, hst, hfp, hl', hcw, hq', hQ⟩ := h
    refine ⟨I', fp, wr, n₀, P, St₀, pz, FF, e, W, hst, hfp, hl', hcw, hq', fun a h₅ tk' gs hgs hag hsz5 k5 W' hat => ?_⟩
    obtain ⟨q1, q2⟩ := hQ a h₅ tk' gs hgs hag hsz5 k5 W' hat
    refine wpAny_bind (wpAny_holding (wpAny_pure (wpAny_pure ?_)))
    refine fun Γ p hΓ => (wpAny_pure (M := model c.prog c.w) (A := A) (E := E) ?_ : wpAny _ _ (evalAll []) _ _ _) Γ p hΓ
    exact ⟨q2, q1⟩
  | none =>
    refine wpAny_genexprCodeX hcd code3 tab3 hc fun c' h4 tk4 hx _ hlt4 hcode4 _ htab4 _ => ?_
    have t4 : ∃ ps, h4.get? fr.out = some (tabObj ps) ∧ TriplesOk ps.toList := by
      obtain ⟨_, htb⟩ := htab4
      obtain ⟨o, vs, file, tf, flags, tg, inF, text, tt, op, _, _, _, _, _, _, _, e1, e2, e3, _⟩ := hcode4
      exact ⟨_, htb, e3⟩
    have sz4 : h3.objs.size ≤ h4.objs.size := Nat.le_of_lt (Nat.lt_of_le_of_lt (by assumption) hlt4)
    refine wpAny_mono (fin (.ref c') h4 tk4 hx t4 sz4) (fun bi s₄ h => ?_) fun _ _ e => e
    obtain ⟨I', fp, wr, n₀, P, St₀, pz, FF, e, W, hst, hfp, hl', hcw, hq', hQ⟩ := h
    refine ⟨I', fp, wr, n₀, P, St₀, pz, FF, e, W, hst, hfp, hl', hcw, hq', fun a h₅ tk' gs hgs hag hsz5 k5 W' hat => ?_⟩
    obtain ⟨q1, q2⟩ := hQ a h₅ tk' gs hgs hag hsz5 k5 W' hat
    refine wpAny_bind (wpAny_holding (wpAny_pure (wpAny_pure ?_)))
    refine fun Γ p hΓ => (wpAny_pure (M := model c.prog c.w) (A := A) (E := E) ?_ : wpAny _ _ (evalAll []) _ _ _) Γ p hΓ
    exact ⟨q2, q1⟩
end
end Mine
end
section
open PySem PySem.W PyProof.Rows
set_option Elab.async false
namespace Mine
local macro_rules | `(tactic| k_head) => `(tactic| x_head)
set_option maxRecDepth 100000 in
set_option maxHeartbeats 0 in
open_top hd for PySem.Challenge.rw_ev0022_01
end Mine
end
section
set_option Elab.async false
set_option maxRecDepth 100000
set_option linter.unusedVariables false
namespace Mine
open PySem PySem.Spec PySem.Calls PyProof.Rows PySem.W PySem.NumText
/-- a text's codes, as octets -/
abbrev TX := List Nat
def by8 (l : TX) : Array UInt8 := (l.map Nat.toUInt8).toArray
def Asc (l : TX) : Prop := ∀ c ∈ l, c < 128
theorem Asc.drop {l : TX} (h : Asc l) (n : Nat) : Asc (l.drop n) := fun c hc => h c (List.mem_of_mem_drop hc)
theorem Asc.take {l : TX} (h : Asc l) (n : Nat) : Asc (l.take n) := fun c hc => h c (List.mem_of_mem_take hc)
theorem Asc.append {l k : TX} (h : Asc l) (h' : Asc k) : Asc (l ++ k) := fun c hc => by rcases List.mem_append.mp hc with hc | hc; exact h c hc; exact h' c hc
theorem by8_size (l : TX) : (by8 l).size = l.length := by simp [by8]
theorem by8_asB (l : TX) : asB (⟨l.toArray⟩ : Str) = by8 l := by simp [asB, by8]
theorem u8_of {a : Nat} (ha : a < 128) : a.toUInt8.toNat = a := by
  rw [Nat.toUInt8, UInt8.toNat_ofNat']
  exact Nat.mod_eq_of_lt (by omega)
theorem u8_inj {a b : Nat} (ha : a < 128) (hb : b < 128) (h : a.toUInt8 = b.toUInt8) : a = b := by
  have := congrArg UInt8.toNat h
  rwa [u8_of ha, u8_of hb] at this
theorem by8_inj : ∀ {l k : TX}, Asc l → Asc k → (by8 l).toList = (by8 k).toList → l = k
  | [], [], _, _, _ => rfl
  | [], b :: k, _, _, h => by simp [by8] at h
  | a :: l, [], _, _, h => by simp [by8] at h
  | a :: l, b :: k, hl, hk, h => by
    simp only [by8, List.map_cons, List.cons.injEq] at h
    rw [u8_inj (hl a (.head _)) (hk b (.head _)) h.1, by8_inj (fun c hc => hl c (.tail _ hc)) (fun c hc => hk c (.tail _ hc)) (by simpa [by8] using h.2)]
theorem by8_eq {l k : TX} (hl : Asc l) (hk : Asc k) : ((by8 l).toList == (by8 k).toList) = (l == k) := by
  rw [Bool.eq_iff_iff, beq_iff_eq, beq_iff_eq]
  exact ⟨by8_inj hl hk, fun h => by rw [h]⟩
theorem by8_ne {l k : TX} (hl : Asc l) (hk : Asc k) : ((by8 l).toList != (by8 k).toList) = (l != k) := by
  unfold bne
  rw [by8_eq hl hk]
theorem picked_by8 (l : TX) (lo hi : Option Int) : cutB (by8 l) lo hi = by8 ((l.drop (lo.elim 0 (clipAt l.length))).take (hi.elim l.length (clipAt l.length) - lo.elim 0 (clipAt l.length))) := by
  unfold cutB
  rw [KBc.picked_eq, by8_size]
  simp [by8, List.map_take, List.map_drop]
theorem drop_min (l : TX) (p : Nat) : l.drop (min p l.length) = l.drop p := by
  by_cases h : p ≤ l.length
  · rw [Nat.min_eq_left h]
  · rw [Nat.min_eq_right (by omega), List.drop_of_length_le (by omega), List.drop_of_length_le (by omega)]
/-- s[p:p + n] -/
theorem cut_pn (l : TX) {lo hi : Int} (p n : Nat) (h1 : lo = p) (h2 : hi = p + n) : cutB (by8 l) (some lo) (some hi) = by8 ((l.drop p).take n) := by
  have h2' : hi = ((p + n : Nat) : Int) := by omega
  subst h1 h2'
  rw [picked_by8]
  simp only [Option.elim, clipAt_nat]
  rw [drop_min]
  congr 1
  by_cases h : p ≤ l.length
  · by_cases h' : p + n ≤ l.length
    · rw [Nat.min_eq_left h', Nat.min_eq_left h]; congr 1; omega
    · rw [Nat.min_eq_right (by omega), Nat.min_eq_left h, List.take_of_length_le (by rw [List.length_drop]; omega), List.take_of_length_le (by rw [List.length_drop]; omega)]
  · rw [List.drop_of_length_le (by omega)]; simp
theorem cut_p (l : TX) {lo : Int} (p : Nat) (h1 : lo = p) : cutB (by8 l) (some lo) none = by8 (l.drop p) := by
  subst h1
  rw [picked_by8]
  simp only [Option.elim, clipAt_nat]
  rw [drop_min, List.take_of_length_le (by rw [List.length_drop]; omega)]
theorem cut_n (l : TX) {hi : Int} (n : Nat) (h1 : hi = n) : cutB (by8 l) none (some hi) = by8 (l.take n) := by
  subst h1
  rw [picked_by8]
  simp only [Option.elim, clipAt_nat, List.drop_zero, Nat.sub_zero]
  congr 1
  by_cases h : n ≤ l.length
  · rw [Nat.min_eq_left h]
  · rw [Nat.min_eq_right (by omega), List.take_of_length_le (by omega), List.take_of_length_le (by omega)]
def isDig (c : Nat) : Bool := 48 ≤ c && c ≤ 57
theorem digB_u8 {c : Nat} (h : c < 128) : digB c.toUInt8 = isDig c := by
  unfold digB isDig
  have e := u8_of h
  rw [Bool.eq_iff_iff]
  simp only [Bool.and_eq_true, decide_eq_true_eq, UInt8.le_iff_toNat_le, e]
  constructor
  · exact fun ⟨a, b⟩ => ⟨a, b⟩
  · exact fun ⟨a, b⟩ => ⟨a, b⟩
theorem isdigit_by8 {l : TX} (h : Asc l) : (!(by8 l).toList.isEmpty && (by8 l).toList.all digB) = (!l.isEmpty && l.all isDig) := by
  congr 1
  · simp [by8]
  · simp only [by8, List.all_map]
    induction l with
    | nil => rfl
    | cons c l ih =>
      rw [List.all_cons, List.all_cons, ih fun x hx => h x (.tail _ hx)]
      congr 1
      exact digB_u8 (h c (.head _))
theorem strOfB_by8 {l : TX} (h : Asc l) : strOfB (by8 l) = ⟨l.toArray⟩ := by
  unfold strOfB by8
  congr 2
  simp only [List.map_map]
  refine (List.map_congr_left fun c hc => ?_).trans (List.map_id _)
  exact u8_of (h c hc)
theorem by8_asc {l : TX} (h : Asc l) : ∀ x ∈ (by8 l).toList, x.toNat < 128 := fun x hx => by
  simp only [by8, List.mem_map] at hx
  obtain ⟨c, hc, rfl⟩ := hx
  rw [u8_of (h c hc)]; exact h c hc
abbrev num (l : TX) : Nat := digitsVal l
theorem int_by8 {l : TX} (h : l.all isDig = true) (h0 : l ≠ []) (hl : l.length ≤ 640) : PySem.intText? (strOfB (by8 l)) = some (num l : Int) := by
  have ha : AllDigits l := fun c hc => by
    have := List.all_eq_true.mp h c hc
    unfold isDig at this
    simpa using this
  rw [strOfB_by8 fun c hc => by have := ha c hc; omega]
  have := intText_digits (x := ⟨l.toArray⟩) (by simpa using ha) (by simpa using h0) (by show l.toArray.size ≤ 4300; simp; omega)
  simpa using this
theorem digs_asc {l : TX} (h : l.all isDig = true) : Asc l := fun c hc => by
  have := List.all_eq_true.mp h c hc
  unfold isDig at this
  simp at this
  omega
/-- one sign among some -/
theorem find_one (b : Array UInt8) (x : UInt8) : (Builtin.Bytes.find? b #[x] 0 b.size).isSome = b.toList.contains x := by
  have ex : ∀ i (h : i < b.size), b.extract i (i + 1) = #[b[i]] := fun i h => by
    apply Array.ext
    · simp; omega
    · intro j h1 h2
      simp at h2
      subst h2
      simp
  unfold Builtin.Bytes.find?
  rw [Bool.eq_iff_iff, List.find?_isSome]
  constructor
  · rintro ⟨i, hi, he⟩
    simp only [List.mem_map, List.mem_range] at hi
    obtain ⟨j, hj, rfl⟩ := hi
    have hj' : j < b.size := by simp at hj; omega
    have he' : b.extract j (j + 1) = #[x] := by simpa using he
    rw [ex j hj'] at he'
    have : b[j] = x := by simpa using he'
    rw [List.contains_iff_mem, ← this]
    simp
  · intro h
    rw [List.contains_iff_mem] at h
    obtain ⟨j, hj, e⟩ := List.getElem_of_mem h
    have hj' : j < b.size := by simpa using hj
    refine ⟨j, by simp; omega, ?_⟩
    have : b[j] = x := by simpa using e
    simp only [List.size_toArray, List.length_cons, List.length_nil, Nat.zero_add]
    rw [ex j hj', this]
    simp
end Mine
end
section
set_option Elab.async false
set_option maxRecDepth 100000
set_option linter.unusedVariables false
namespace Mine
open PySem PySem.Spec PySem.Calls PyProof.Rows PySem.W PySem.NumText
open Builtin Builtin.Str
/-- n in w digits -/
def dgs : Nat → Nat → TX
  | 0, _ => []
  | w + 1, n => dgs w (n / 10) ++ [48 + n % 10]
theorem dgs_len : ∀ w n, (dgs w n).length = w
  | 0, _ => rfl
  | w + 1, n => by simp [dgs, dgs_len w]
theorem dgs_dig : ∀ w n, (dgs w n).all isDig = true
  | 0, _ => rfl
  | w + 1, n => by
    have : isDig (48 + n % 10) = true := by unfold isDig; simp; omega
    simp [dgs, dgs_dig w, this]
theorem digit_char (m : Nat) (h : m < 10) : (Nat.digitChar m).toNat = 48 + m := by
  have : ∀ d : Nat, d < 10 → (Nat.digitChar d).toNat = 48 + d := by decide
  exact this m h
def tens (n : Nat) : TX := (Nat.toDigits 10 n).map Char.toNat
theorem tens_lt {n : Nat} (h : n < 10) : tens n = [48 + n] := by
  unfold tens
  rw [Nat.toDigits_of_lt_base h]
  simp [digit_char n h]
theorem tens_ge {n : Nat} (h : 10 ≤ n) : tens n = tens (n / 10) ++ [48 + n % 10] := by
  have hm : n % 10 < 10 := Nat.mod_lt n (by decide)
  have t : Nat.toDigits 10 (n / 10) ++ Nat.toDigits 10 (n % 10) = Nat.toDigits 10 (10 * (n / 10) + n % 10) := Nat.toDigits_append_toDigits (by decide) (by omega) hm
  rw [Nat.div_add_mod] at t
  unfold tens
  rw [← t, List.map_append, Nat.toDigits_of_lt_base hm]
  simp [digit_char _ hm]
theorem tens_ne (n : Nat) : tens n ≠ [] := by
  by_cases h : n < 10
  · rw [tens_lt h]; simp
  · rw [tens_ge (by omega)]; simp
theorem dgs_tens : ∀ w n, 1 ≤ w → n < 10 ^ w → dgs w n = List.replicate (w - (tens n).length) 48 ++ tens n ∧ (tens n).length ≤ w
  | 0, _, h, _ => by omega
  | w + 1, n, _, hn => by
    by_cases h : n < 10
    · rw [tens_lt h]
      have z : ∀ w, dgs w 0 = List.replicate w 48 := fun w => by
        induction w with
        | zero => rfl
        | succ w ih => simp [dgs, ih, List.replicate_succ']
      simp only [dgs, Nat.div_eq_of_lt h, Nat.mod_eq_of_lt h, z]
      simp
    · have hw : 1 ≤ w := by
        rcases w with _ | w
        · simp at hn; omega
        · omega
      obtain ⟨h1, h2⟩ := dgs_tens w (n / 10) hw (by rw [Nat.pow_succ] at hn; omega)
      rw [tens_ge (by omega)]
      simp only [dgs, h1, List.length_append, List.length_cons, List.length_nil]
      refine ⟨?_, by omega⟩
      rw [List.append_assoc]
      congr 2
      omega
theorem tens_dig (n : Nat) : ∀ c ∈ tens n, 48 ≤ c ∧ c ≤ 57 := fun c hc => by
  obtain ⟨ch, hch, rfl⟩ := List.mem_map.mp hc
  exact digit_range (Nat.isDigit_of_mem_toDigits (by decide) (by decide) hch)
theorem signs_nat (n : Nat) : (Str.ofString (toString ((n : Nat) : Int))).cps.toList = tens n := by
  rw [signs_ofString]
  show (Nat.repr n).toList.map Char.toNat = _
  rw [Nat.toList_repr]
  rfl
theorem field_num {z : Bool} {w : Option Nat} {n : Nat} : dz z w (n : Int) = List.replicate (w.getD 0 - (tens n).length) (if z then 48 else 32) ++ tens n := by
  have h0 : decide ((n : Int) < 0) = false := by simp
  have e : percentInt { zero := z, width := w, type := 100 } false (tens n) = tens n := by
    simp [percentInt]
  unfold dz
  simp only [h0, Int.natAbs_natCast, signs_nat, e]
  unfold percentField
  simp only [Option.all_none, Bool.and_true, Bool.not_false]
  by_cases hw : w.all (· ≤ (tens n).length) = true
  · rw [if_pos hw]
    cases w with
    | none => simp
    | some w =>
      simp at hw
      simp [Nat.sub_eq_zero_of_le hw]
  · rw [if_neg hw]
    obtain ⟨c, r, ec⟩ : ∃ c r, tens n = c :: r := by
      cases h : tens n with
      | nil => exact (tens_ne n h).elim
      | cons c r => exact ⟨c, r, rfl⟩
    have hc := tens_dig n c (by rw [ec]; exact .head _)
    rw [ec]
    have a45 : c ≠ 45 := by omega
    have a43 : c ≠ 43 := by omega
    cases z <;> simp
    · split
      · rename_i h; simp at h; omega
      · rename_i h; simp at h; omega
      · simp
    · split
      · rename_i h; simp at h; omega
      · rename_i h; simp at h; omega
      · simp
theorem dz_pad {w n : Nat} (hw : 1 ≤ w) (h : n < 10 ^ w) : dz true (some w) (n : Int) = dgs w n := by
  rw [field_num, (dgs_tens w n hw h).1]
  rfl
theorem tens_len (n k : Nat) (hk : 1 ≤ k) (h : n < 10 ^ k) : (tens n).length ≤ k := (dgs_tens k n hk h).2
theorem dz_len {n k : Nat} (hk : 1 ≤ k) (h : n < 10 ^ k) : (dz false none (n : Int)).length ≤ k := by
  rw [field_num]
  have := tens_len n k hk h
  simp
  exact this
theorem num_dgs : ∀ w n, n < 10 ^ w → num (dgs w n) = n
  | 0, n, h => by simp at h; subst h; rfl
  | w + 1, n, h => by
    show digitsVal (dgs w (n / 10) ++ [48 + n % 10]) = n
    rw [digitsVal_snoc]
    have := num_dgs w (n / 10) (by rw [Nat.pow_succ] at h; omega)
    unfold num at this
    omega
theorem log2_small {i : Int} (h : i.natAbs < 1000000000000) : i.natAbs.log2 < 1920 := by
  by_cases h0 : i.natAbs = 0
  · rw [h0]; decide
  · have h40 : i.natAbs < 2 ^ 40 := Nat.lt_trans h (by decide)
    exact Nat.lt_trans ((Nat.log2_lt h0).mpr h40) (by decide)
/-- s[lo:hi] -/
def sl (l : TX) (lo hi : Int) : TX := (l.drop lo.toNat).take (hi.toNat - lo.toNat)
theorem cut_sl (l : TX) {lo hi : Int} (h1 : 0 ≤ lo) (h2 : 0 ≤ hi) : cutB (by8 l) (some lo) (some hi) = by8 (sl l lo hi) := by
  unfold sl
  by_cases h : lo ≤ hi
  · exact cut_pn l lo.toNat (hi.toNat - lo.toNat) (by omega) (by omega)
  · obtain ⟨a, rfl⟩ := Int.eq_ofNat_of_zero_le h1
    obtain ⟨b, rfl⟩ := Int.eq_ofNat_of_zero_le h2
    rw [picked_by8]
    simp only [Option.elim, clipAt_nat]
    have : min b l.length - min a l.length = 0 := by omega
    rw [this]
    have e2 : (b : Int).toNat - (a : Int).toNat = 0 := by omega
    rw [e2]
    simp
theorem sl_asc {l : TX} (h : Asc l) (lo hi : Int) : Asc (sl l lo hi) := (h.drop _).take _
theorem sl_len (l : TX) (lo hi : Int) : (sl l lo hi).length ≤ l.length := by unfold sl; simp; omega
theorem sl_len' (l : TX) (lo hi : Int) : (sl l lo hi).length ≤ hi.toNat - lo.toNat := by unfold sl; simp; omega
/-- n digits at p -/
def dg (l : TX) (p n : Int) : Option Int := if ((sl l p (p + n)).length : Int) = n ∧ (sl l p (p + n)).all isDig = true then some (num (sl l p (p + n)) : Int) else none
theorem fold_lt : ∀ (l : TX) (a : Nat), l.all isDig = true → l.foldl (fun acc c => acc * 10 + (c - 48)) a < (a + 1) * 10 ^ l.length
  | [], a, _ => by simp
  | c :: l, a, h => by
    simp only [List.all_cons, Bool.and_eq_true] at h
    have h1 := h.1
    unfold isDig at h1
    simp at h1
    have := fold_lt l (a * 10 + (c - 48)) h.2
    simp only [List.foldl_cons, List.length_cons, Nat.pow_succ]
    refine Nat.lt_of_lt_of_le this ?_
    have : a * 10 + (c - 48) + 1 ≤ (a + 1) * 10 := by omega
    calc _ ≤ (a + 1) * 10 * 10 ^ l.length := Nat.mul_le_mul_right _ this
      _ = _ := by rw [Nat.mul_assoc, Nat.mul_comm 10]
theorem num_lt {l : TX} (h : l.all isDig = true) : num l < 10 ^ l.length := by
  have := fold_lt l 0 h
  simpa [num, digitsVal] using this
theorem dg_range {l : TX} {p n v : Int} (h : dg l p n = some v) : 0 ≤ v ∧ v < 10 ^ n.toNat := by
  unfold dg at h
  split at h
  · rename_i hc
    cases h
    have := num_lt hc.2
    have e : (sl l p (p + n)).length = n.toNat := by omega
    rw [e] at this
    refine ⟨by omega, ?_⟩
    have h2 : ((num (sl l p (p + n)) : Nat) : Int) < ((10 ^ n.toNat : Nat) : Int) := Int.ofNat_lt.mpr this
    simpa using h2
  · cases h
end Mine
end
section
set_option Elab.async false
set_option maxRecDepth 100000
set_option linter.unusedVariables false
namespace Mine
open PySem PySem.Spec PySem.Calls PyProof.Rows PySem.W
section
variable {c : Wd} {fr : Fx} {m m' m₁ m₂ : Loc} {st st' st₁ st₂ st₃ : Sto} {ρ : Rho} {s : Shared} {G : Shp}
theorem Ev.by8 {x : List UInt8} {k : Nat} {pos : Pos} (l : TX) (h : x.toArray = by8 l) : Ev c fr (.Constant (.bytes x) k pos) m st (.ok (.bytes (by8 l))) st := h ▸ Ev.bytes
theorem Ev.by8A {x : List UInt8} {k : Nat} {pos : Pos} {l : TX} (h : x.toArray = Mine.by8 l) : Ev c fr (.Constant (.bytes x) k pos) m st (.ok (.bytes (Mine.by8 l))) st := h ▸ Ev.bytes
theorem Ev.methA (ok : c.Ok) {o : Expr} {name : Str} {apos : Pos} {v : V} {f : Value} {first vs args : List V} {ks : List (Str × V)} {es : List Expr} {kws : List Keyword} {pos : Pos} {r : Out V} (h1 : Ev c fr o m st (.ok v) st₁) (hm : Meth c fr st₁ v name f first) (hk : KeepOk c f)
    (ha : EvL c fr es m st₁ vs st₂) (hkw : EvK c fr kws m st₂ ks st₃) (hargs : first ++ vs = args) (hc : CallT c fr f args ks st₃ r st') (hs : es.any starred = false)
    (he : ∃ pl : Sem Bool, eval (.Call (.Attribute o name apos) es kws pos) fr.env = (do
      let ov ← eval o fr.env
      standAt apos.atName
      let (f, first) ← holding [ov] (getMethod ov name pl)
      PySem.callWith pos f first (backTo pos (starEach es fr.env)) (backToKw pos (keywordEach kws fr.env)))) :
    Ev c fr (.Call (.Attribute o name apos) es kws pos) m st r st' := .methT ok h1 hm hk ha hkw (hargs ▸ hc) hs he
theorem Cmp2.eq8 {l k : TX} (hl : Asc l) (hk : Asc k) : Cmp2 c fr st .Eq (.bytes (by8 l)) (.bytes (by8 k)) (.bool (l == k)) := by
  rw [← by8_eq hl hk]; exact Cmp2.eqBy
theorem Cmp2.ne8 {l k : TX} (hl : Asc l) (hk : Asc k) : Cmp2 c fr st .NotEq (.bytes (by8 l)) (.bytes (by8 k)) (.bool (l != k)) := by
  rw [← by8_ne hl hk]; exact Cmp2.neBy
theorem Cut.sl8 {l : TX} {lo hi : Int} (hz : l.length ≤ 100000) (h1 : 0 ≤ lo) (h2 : 0 ≤ hi) : Cut c fr st (.bytes (by8 l)) (.int lo) (.int hi) (.ok (.bytes (by8 (sl l lo hi)))) st := by
  rw [← cut_sl l h1 h2]; exact Cut.bytes (i := some lo) (j := some hi) rfl rfl (by rw [by8_size]; exact hz)
theorem Cut.from8 {l : TX} {lo : Int} (hz : l.length ≤ 100000) (h1 : 0 ≤ lo) : Cut c fr st (.bytes (by8 l)) (.int lo) .none (.ok (.bytes (by8 (l.drop lo.toNat)))) st := by
  rw [← cut_p l lo.toNat (lo := lo) (by omega)]; exact Cut.bytes (i := some lo) (j := none) rfl trivial (by rw [by8_size]; exact hz)
theorem Cut.upto8 {l : TX} {hi : Int} (hz : l.length ≤ 100000) (h1 : 0 ≤ hi) : Cut c fr st (.bytes (by8 l)) .none (.int hi) (.ok (.bytes (by8 (l.take hi.toNat)))) st := by
  rw [← cut_n l hi.toNat (hi := hi) (by omega)]; exact Cut.bytes (i := none) (j := some hi) trivial rfl (by rw [by8_size]; exact hz)
theorem CallT.len8 {l : TX} (hz : l.length ≤ 100000) : CallT c fr (.builtin "len") [.bytes (by8 l)] [] st (.ok (.int l.length)) st := by
  have := CallT.lenB (c := c) (fr := fr) (st := st) (a := by8 l) (by rw [by8_size]; exact hz)
  rwa [by8_size] at this
theorem CallT.isdigit8 {l : TX} (h : Asc l) : CallT c fr (.builtin "bytes.isdigit") [.bytes (by8 l)] [] st (.ok (.bool (!l.isEmpty && l.all isDig))) st := by
  rw [← isdigit_by8 h]; exact CallT.isdigit
theorem CallT.decode8 {l : TX} (h : Asc l) (hz : l.length ≤ 100000) : CallT c fr (.builtin "bytes.decode") [.bytes (by8 l), .str (Str.ofString "ascii")] [] st (.ok (.str ⟨l.toArray⟩)) st := by
  rw [← strOfB_by8 h]; exact CallT.decode (by8_asc h) (by rw [by8_size]; exact hz)
theorem CallT.int8 {l : TX} (h : l.all isDig = true) (h0 : l ≠ []) (hl : l.length ≤ 640) : CallT c fr (.type "int") [.bytes (by8 l)] [] st (.ok (.int (num l : Int))) st :=
  CallT.intB (by8_asc (digs_asc h)) (by rw [by8_size]; exact hl) (int_by8 h h0 hl)
theorem CallT.encode8 {l : TX} (h : Asc l) (hz : l.length ≤ 100000) : CallT c fr (.builtin "str.encode") [.str ⟨l.toArray⟩, .str (Str.ofString "ascii")] [] st (.ok (.bytes (by8 l))) st := by
  rw [← by8_asB]; exact CallT.encode (fun c hc => h c (by simpa using hc)) (by simpa [Str.length] using hz)
theorem Truth.by8 {l : TX} (hz : l.length ≤ 100000) : Truth c fr st (.bytes (Mine.by8 l)) (!l.isEmpty) := by
  have := Truth.bytes (c := c) (fr := fr) (st := st) (a := Mine.by8 l) (by rw [by8_size]; exact Nat.le_trans hz (by decide))
  rw [by8_size] at this
  have e : ((l.length : Int) != 0) = !l.isEmpty := by cases l <;> simp [bne]; omega
  rwa [e] at this
theorem Bt.cmpA {l r : Expr} {op : CmpOp} {pos : Pos} {a b : V} {t : Bool} (h1 : Ev c fr l m st (.ok a) st₁) (h2 : Ev c fr r m st₁ (.ok b) st₂) (h3 : Cmp2 c fr st₂ op a b (.bool t)) (hm : behindInMarks op r = false) :
    Bt c fr (.Compare l [op] [r] pos) m st (.ok t) st₂ := .cmp (v := .none) h1 h2 h3 hm
theorem Cmp2.in8 {x : Nat} {b : TX} (hx : x < 128) (hb : Asc b) (hz : fr.hd = none) : Cmp2 c fr st .In (.bytes (Mine.by8 [x])) (.bytes (Mine.by8 b)) (.bool (b.contains x)) := by
  have e : (Builtin.Bytes.find? (Mine.by8 b) (Mine.by8 [x]) 0 (Mine.by8 b).size).isSome = b.contains x := by
    rw [show Mine.by8 [x] = #[x.toUInt8] from rfl, find_one]
    rw [Bool.eq_iff_iff, List.contains_iff_mem, List.contains_iff_mem]
    simp only [Mine.by8, List.mem_map]
    constructor
    · rintro ⟨a, ha, e⟩
      rw [← u8_inj (hb a ha) hx e]; exact ha
    · exact fun h => ⟨x, h, rfl⟩
  rw [← e]; exact Cmp2.inB hz
end
end Mine
end
section
set_option Elab.async false
set_option maxRecDepth 100000
set_option linter.unusedVariables false
namespace Mine
open PySem PySem.Spec PySem.Calls PyProof.Rows PySem.W
/-- a format's pieces -/
inductive Pc where
  | lit (l : TX)
  | d0 (w : Nat)
  | d | s | r
def textP : List Pc → TX
  | [] => []
  | .lit l :: r => l ++ textP r
  | .d0 w :: r => 37 :: 48 :: (48 + w) :: 100 :: textP r
  | .d :: r => 37 :: 100 :: textP r
  | .s :: r => 37 :: 115 :: textP r
  | .r :: r => 37 :: 114 :: textP r
def noLit : List Pc → Bool
  | .lit _ :: _ => false
  | _ => true
def okP (n : Nat) : List Pc → Bool
  | [] => true
  | .lit l :: r => !l.isEmpty && l.all (· != 37) && l.length != n && noLit r && okP n r
  | .d0 w :: r => decide (2 ≤ w) && decide (w ≤ 9) && okP n r
  | _ :: r => okP n r
def fmt : List Pc → List V → TX
  | .lit l :: r, vs => l ++ fmt r vs
  | .d0 w :: r, .int i :: vs => dz true (some w) i ++ fmt r vs
  | .d :: r, .int i :: vs => dz false none i ++ fmt r vs
  | .s :: r, .str x :: vs => x.cps.toList ++ fmt r vs
  | .r :: r, .str x :: vs => (reprText x).cps.toList ++ fmt r vs
  | _, _ => []
def fitsP : List Pc → List V → Prop
  | [], [] => True
  | .lit _ :: r, vs => fitsP r vs
  | .d0 _ :: r, .int i :: vs => i.natAbs < 1000000000000 ∧ fitsP r vs
  | .d :: r, .int i :: vs => i.natAbs < 1000000000000 ∧ fitsP r vs
  | .s :: r, .str _ :: vs => fitsP r vs
  | .r :: r, .str x :: vs => (reprText x).length ≤ sizeLine ∧ fitsP r vs
  | _, _ => False
theorem span_loop {t : TX} (ht : t = [] ∨ ∃ r, t = 37 :: r) : ∀ (l acc : TX), l.all (· != 37) = true → List.span.loop (· != 37) (l ++ t) acc = (acc.reverse ++ l, t)
  | [], acc, _ => by rcases ht with rfl | ⟨r, rfl⟩ <;> simp [List.span.loop]
  | c :: l, acc, h => by
    simp only [List.all_cons, Bool.and_eq_true] at h
    simp only [List.cons_append, List.span.loop, h.1]
    rw [span_loop ht l (c :: acc) h.2]
    simp
theorem span_no {l t : TX} (h : l.all (· != 37) = true) (ht : t = [] ∨ ∃ r, t = 37 :: r) : (l ++ t).span (· != 37) = (l, t) := by
  unfold List.span
  rw [span_loop ht l [] h]
  rfl
theorem text_head : ∀ {ps : List Pc}, noLit ps = true → textP ps = [] ∨ ∃ r, textP ps = 37 :: r
  | [], _ => .inl rfl
  | .lit _ :: _, h => by cases h
  | .d0 _ :: _, _ => .inr ⟨_, rfl⟩
  | .d :: _, _ => .inr ⟨_, rfl⟩
  | .s :: _, _ => .inr ⟨_, rfl⟩
  | .r :: _, _ => .inr ⟨_, rfl⟩
theorem Pct.of (n : Nat) : ∀ (ps : List Pc) (vs : List V), okP n ps = true → fitsP ps vs → Pct n (textP ps) vs (fmt ps vs)
  | [], [], _, _ => .nil
  | [], _ :: _, _, h => h.elim
  | .lit l :: r, vs, h, hf => by
    simp only [okP, Bool.and_eq_true, bne_iff_ne, ne_eq] at h
    obtain ⟨⟨⟨⟨h1, h2⟩, h3⟩, h4⟩, h5⟩ := h
    have e : fmt (.lit l :: r) vs = l ++ fmt r vs := by rw [fmt]
    rw [e]
    exact .lit (l := l) (t := textP r) (span_no h2 (text_head h4)) rfl (by intro q; subst q; cases h1) h3 (Pct.of n r vs h5 hf)
  | .d0 w :: r, .int i :: vs, h, hf => by
    simp only [okP, Bool.and_eq_true, decide_eq_true_eq] at h
    have := Pct.dec (n := n) (d := 48 + w) (by omega) (log2_small hf.1) (Pct.of n r vs h.2 hf.2)
    rwa [Nat.add_sub_cancel_left] at this
  | .d :: r, .int i :: vs, h, hf => .dec0 (log2_small hf.1) (Pct.of n r vs h hf.2)
  | .s :: r, .str x :: vs, h, hf => .str (Pct.of n r vs h hf)
  | .r :: r, .str x :: vs, h, hf => .rep hf.1 (Pct.of n r vs h hf.2)
  | .d0 _ :: _, [], _, h => h.elim
  | .d :: _, [], _, h => h.elim
  | .s :: _, [], _, h => h.elim
  | .r :: _, [], _, h => h.elim
  | .d0 _ :: _, .none :: _, _, h => h.elim
  | .d0 _ :: _, .bool _ :: _, _, h => h.elim
  | .d0 _ :: _, .str _ :: _, _, h => h.elim
  | .d0 _ :: _, .bytes _ :: _, _, h => h.elim
  | .d0 _ :: _, .obj _ :: _, _, h => h.elim
  | .d0 _ :: _, .glob _ :: _, _, h => h.elim
  | .d0 _ :: _, .undef :: _, _, h => h.elim
  | .d :: _, .none :: _, _, h => h.elim
  | .d :: _, .bool _ :: _, _, h => h.elim
  | .d :: _, .str _ :: _, _, h => h.elim
  | .d :: _, .bytes _ :: _, _, h => h.elim
  | .d :: _, .obj _ :: _, _, h => h.elim
  | .d :: _, .glob _ :: _, _, h => h.elim
  | .d :: _, .undef :: _, _, h => h.elim
  | .s :: _, .none :: _, _, h => h.elim
  | .s :: _, .bool _ :: _, _, h => h.elim
  | .s :: _, .int _ :: _, _, h => h.elim
  | .s :: _, .bytes _ :: _, _, h => h.elim
  | .s :: _, .obj _ :: _, _, h => h.elim
  | .s :: _, .glob _ :: _, _, h => h.elim
  | .s :: _, .undef :: _, _, h => h.elim
  | .r :: _, .none :: _, _, h => h.elim
  | .r :: _, .bool _ :: _, _, h => h.elim
  | .r :: _, .int _ :: _, _, h => h.elim
  | .r :: _, .bytes _ :: _, _, h => h.elim
  | .r :: _, .obj _ :: _, _, h => h.elim
  | .r :: _, .glob _ :: _, _, h => h.elim
  | .r :: _, .undef :: _, _, h => h.elim
section
variable {c : Wd} {fr : Fx} {m m' m₁ m₂ : Loc} {st st' st₁ st₂ st₃ : Sto} {ρ : Rho} {s : Shared} {G : Shp}
theorem Ev.pct (ps : List Pc) {l r : Expr} {pos : Pos} {X : Str} {n : Nat} {vs : List V} (h1 : Ev c fr l m st (.ok (.str X)) st₁) (h2 : Ev c fr r m st₁ (.ok (.obj n)) st₂) (hn : st₂[n]? = some (.tuple vs)) (hX : X.cps.toList = textP ps) (ho : okP X.length ps = true) (hf : fitsP ps vs) (hz : (fmt ps vs).length ≤ 1000000) :
    Ev c fr (.BinOp l .Mod r pos) m st (.ok (.str ⟨(fmt ps vs).toArray⟩)) st₂ := .modT h1 h2 hn (hX ▸ Pct.of _ ps vs ho hf) hz
theorem Bin2.pctI (ps : List Pc) {X : Str} {i : Int} (hX : X.cps.toList = textP ps) (ho : okP X.length ps = true) (hf : fitsP ps [.int i]) (hi : i.natAbs < 1000000000000) (hz : (fmt ps [.int i]).length ≤ 1000000) : Bin2 c fr .Mod (.str X) (.int i) (.str ⟨(fmt ps [.int i]).toArray⟩) :=
  .modI (hX ▸ Pct.of _ ps _ ho hf) (log2_small hi) hz
theorem Bin2.pctS (ps : List Pc) {X y : Str} (hX : X.cps.toList = textP ps) (ho : okP X.length ps = true) (hf : fitsP ps [.str y]) (hy : y.length ≤ 1000000) (hz : (fmt ps [.str y]).length ≤ 1000000) : Bin2 c fr .Mod (.str X) (.str y) (.str ⟨(fmt ps [.str y]).toArray⟩) :=
  .modS (hX ▸ Pct.of _ ps _ ho hf) hy hz
end
/-- a literal's codes -/
def tx (x : String) : TX := (Str.ofString x).cps.toList
end Mine
end
section
set_option Elab.async false
set_option maxRecDepth 100000
set_option linter.unusedVariables false
namespace Mine
open PySem PySem.Spec PySem.Calls PyProof.Rows PySem.W
section
variable {c : Wd} {fr : Fx} {m m' m₁ m₂ : Loc} {st st' st₁ st₂ st₃ : Sto} {ρ : Rho} {s : Shared} {G : Shp}
theorem Ex1.setAtE {o i e : Expr} {spos pos : Pos} {X : Exn} (h1 : Ev c fr e m st (.exc X) st₁) (hs : swapsWith e (some (.Subscript o i spos)) pos.line fr.env = pure false) :
    Ex1 c fr (.Assign [.Subscript o i spos] e pos) m st (.exc X) m st₁ := fun ρ => by
  rw [arm_exec_Assign]
  show TriAt c fr RepF ρ (standAt pos >>= fun _ => swapsWith e (some (.Subscript o i spos)) pos.line fr.env >>= fun b => if b = true then _ else _) _ _ _ _ _
  rw [hs]
  refine TriAt.standThen ?_
  show TriAt c fr RepF ρ (eval e fr.env >>= fun v => swappedStores [.Subscript o i spos] e fr.env >>= fun sw => assignStores fr.env v sw ((assignEach [.Subscript o i spos] fr.env).map (·.2))) _ _ _ _ _
  exact (h1 ρ).bindE
theorem Ex1.asgTupE {es : List Expr} {k : Nat} {tpos pos : Pos} {e : Expr} {X : Exn} (h : Ev c fr e m st (.exc X) st₁) (hs : swapsWith e (some (.Tuple es k tpos)) pos.line fr.env = pure false) :
    Ex1 c fr (.Assign [.Tuple es k tpos] e pos) m st (.exc X) m st₁ := fun ρ => by
  rw [arm_exec_Assign]
  show TriAt c fr RepF ρ (standAt pos >>= fun _ => swapsWith e (some (.Tuple es k tpos)) pos.line fr.env >>= fun b => if b = true then _ else _) _ _ _ _ _
  rw [hs]
  refine TriAt.standThen ?_
  show TriAt c fr RepF ρ (eval e fr.env >>= fun v => swappedStores [.Tuple es k tpos] e fr.env >>= fun sw => assignStores fr.env v sw ((assignEach [.Tuple es k tpos] fr.env).map (·.2))) _ _ _ _ _
  exact (h ρ).bindE
theorem Ex1.setAtL {o i e : Expr} {spos pos : Pos} {n : Nat} {l : List V} {j : Int} {v : V} (h1 : Ev c fr e m st (.ok v) st₁) (h2 : Ev c fr o m st₁ (.ok (.obj n)) st₁) (h3 : Ev c fr i m st₁ (.ok (.int j)) st₁)
    (ho : st₁[n]? = some (.list l)) (h0 : 0 ≤ j) (hj : j < 1000) (hl : Nat.blt j.toNat l.length = true)
    (hs : swapsWith e (some (.Subscript o i spos)) pos.line fr.env = pure false) (hss : swappedStores [.Subscript o i spos] e fr.env = pure none) :
    Ex1 c fr (.Assign [.Subscript o i spos] e pos) m st (.ok .next) m (st₁.set n (.list (l.set j.toNat v))) :=
  .setAt (l := l) h1 h2 h3 (fun ρ x y z rx ry rz => .setAt ho h0 (by omega) (by have := Nat.le_of_ble_eq_true hl; omega) rx ry rz) hs hss
theorem Ex1.setAtZ {o i e : Expr} {spos pos : Pos} {n : Nat} {l : List V} {v : V} (h1 : Ev c fr e m st (.ok v) st₁) (h2 : Ev c fr o m st₁ (.ok (.obj n)) st₁) (h3 : Ev c fr i m st₁ (.ok (.int (-1))) st₁)
    (ho : st₁[n]? = some (.list l)) (hl : l ≠ [])
    (hs : swapsWith e (some (.Subscript o i spos)) pos.line fr.env = pure false) (hss : swappedStores [.Subscript o i spos] e fr.env = pure none) :
    Ex1 c fr (.Assign [.Subscript o i spos] e pos) m st (.ok .next) m (st₁.set n (.list (l.set (l.length - 1) v))) :=
  .setAt (l := l) h1 h2 h3 (fun ρ x y z rx ry rz => .setLast ho hl rx ry rz) hs hss
theorem Ex1.asgEA {x : Str} {pos' pos : Pos} {e : Expr} {X : Exn} (h : Ev c fr e m st (.exc X) st₁) (hs : swapsWith e (some (.Name x pos')) pos.line fr.env = pure false) :
    Ex1 c fr (.Assign [.Name x pos'] e pos) m st (.exc X) m st₁ := .assignE h hs
/-- a, b = f(..) -/
theorem Ex1.asgTupA (F : Sh c G fr) (hz : G.z = true) {es : List Expr} {k : Nat} {xs : List Str} {tpos pos : Pos} {e : Expr} {n : Nat} {vs : List V} (h : Ev c fr e m st (.ok (.obj n)) st₁) (ht : st₁[n]? = some (.tuple vs)) (hl : vs.length = es.length) (hn : NamesOf es xs) (hu : StN fr m st₁ xs vs m' st₂)
    (hs : swapsWith e (some (.Tuple es k tpos)) pos.line fr.env = pure false) (hw : swappedStores [.Tuple es k tpos] e fr.env = pure none) (hstar : (assignEach es fr.env).findIdx? (·.1) = none) (hlen : (assignEach es fr.env).length = es.length) :
    Ex1 c fr (.Assign [.Tuple es k tpos] e pos) m st (.ok .next) m' st₂ := .asgTup F.fri.own (F.fit.z hz) hn h ht hl hu hs hw hstar hlen
theorem St1.locA (F : Sh c G fr) {x : Str} {v : V} (h : Up G.names m x v m') : St1 fr m st x v m' st := .loc (by rw [F.fri.nm]; exact h)
theorem Ext.set' (h : Ext st st') {n : Nat} (hn : st.length ≤ n) (o : MObj) : Ext st (st'.set n o) := h.set hn o
theorem get_set_ne {n k : Nat} {o o' : MObj} (h : st[k]? = some o') (hn : n ≠ k) : (st.set n o)[k]? = some o' := by
  rw [List.getElem?_set_ne hn]; exact h
theorem dg_short {l : TX} {p n : Int} (h0 : 0 ≤ p) (h1 : 1 ≤ n) (h : (l.length : Int) < p + n) : dg l p n = none := by
  unfold dg
  rw [if_neg]
  intro ⟨a, _⟩
  unfold sl at a
  simp at a
  omega
theorem sl_one {l : TX} {p : Int} (h0 : 0 ≤ p) (h : p < l.length) : ∃ x, sl l p (p + 1) = [x] ∧ x ∈ l := by
  have hp : p.toNat < l.length := by omega
  refine ⟨l[p.toNat], ?_, List.getElem_mem _⟩
  unfold sl
  rw [List.drop_eq_getElem_cons hp, show (p + 1).toNat - p.toNat = 1 by omega]
  rfl
theorem sl_none {l : TX} {p q : Int} (h : (l.length : Int) ≤ p) : sl l p q = [] := by
  unfold sl
  rw [List.drop_of_length_le (by omega)]
  simp
end
end Mine
end
section
set_option Elab.async false
set_option maxRecDepth 100000
set_option linter.unusedVariables false
namespace Mine
open PySem PySem.Spec PySem.Calls PyProof.Rows PySem.W
section
variable {c : Wd} {fr : Fx} {m m' m₁ m₂ : Loc} {st st' st₁ st₂ st₃ : Sto} {ρ : Rho} {s : Shared} {G : Shp}
theorem Ev.noTs (hz : fr.hd = none) {o : Expr} {apos pos : Pos} {es : List Expr} {kws : List Keyword} {i : Int} (h1 : Ev c fr o m st (.ok (.int i)) st₁)
    (he : ∃ pl : Sem Bool, eval (.Call (.Attribute o "total_seconds" apos) es kws pos) fr.env = (do
      let ov ← eval o fr.env
      standAt apos.atName
      let (f, first) ← holding [ov] (getMethod ov "total_seconds" pl)
      PySem.callWith pos f first (backTo pos (starEach es fr.env)) (backToKw pos (keywordEach kws fr.env)))) :
    Ev c fr (.Call (.Attribute o "total_seconds" apos) es kws pos) m st (.exc ⟨"AttributeError", false⟩) st₁ := fun ρ => by
  obtain ⟨pl, he⟩ := he
  rw [he]
  refine (h1 ρ).bind fun ρ₁ x p rx => TriAt.standThen (TriAt.bindE (rep := RepM) (TriAt.holding ?_))
  obtain ⟨t, rfl⟩ := rx
  intro A s Q E hA I post
  refine int_no_attr (hA.handled.trans hz) fun h' tk e hx => post ρ₁ _ e (List.prefix_refl _) (Nxt.grow hx.keeps) (I.grow hx.keeps I.bare) hx.new (.inl ?_)
  obtain ⟨ob, vs, q1, q2, q3, q4⟩ := hx.there
  exact ⟨ob, vs, q1, q2, q3, (fun e => by cases e), q4⟩
theorem FrI.handling {names : List Str} {globs : List (Str × Value)} {e : Addr} {b : Bool} (h : FrI c fr names globs) : FrI c (fr.handling e b) names globs :=
  ⟨⟨h.own.kind, h.own.globals, h.own.builtins, h.own.locs, h.own.nodup, h.own.scopeOk⟩, h.nm, h.glb⟩
theorem Ev.glF {names : List Str} {globs : List (Str × Value)} {x : Str} {pos : Pos} {v : Value} (ok : c.Ok) (F : FrI c fr names globs) (hv : (x, v) ∈ globs) : Ev c fr (.Name x pos) m st (.ok (.glob v)) st := .gl ok F hv
theorem Calls.make0 (ok : c.Ok) {z : Bool} {k : Nat} {C : Addr} (hm : makesIn c.K C = true) (hi : findIn c.K (.ref C) "__init__" = some (some (.builtin "object.__init__"))) : Calls c z k (.glob (.ref C)) [] [] st (.ok (.obj st.length)) (st ++ [.inst C []]) := by
  intro fr m ρ x xs ks hlv rx rxs rks A s Q E hA I post
  obtain rfl : x = .ref C := rx
  obtain rfl := rxs.inv0
  obtain rfl := rks.inv0
  obtain ⟨hh, g, d, t, os⟩ := s
  have X := I.kin ok
  have e1 : hh.get? hh.objs.size = none := Heap.get?_none_of_le (Nat.le_refl _)
  have e2 : hh.get? (hh.objs.size + 1) = none := Heap.get?_none_of_le (Nat.le_succ _)
  have kp : ∀ b o, hh.get? b = some o → ((hh.push emptyDict).push (instObj C hh.objs.size)).get? b = some o := fun b o e => Heap.get?_push_of_some _ (Heap.get?_push_of_some _ e)
  have g1 : ((hh.push emptyDict).push (instObj C hh.objs.size)).get? hh.objs.size = some emptyDict := Heap.get?_push_of_some _ (Heap.get?_push_size _ rfl)
  have g2 : ((hh.push emptyDict).push (instObj C hh.objs.size)).get? (hh.objs.size + 1) = some (instObj C hh.objs.size) := by
    have := Heap.get?_push_size (hh.push emptyDict) (o := instObj C hh.objs.size) rfl
    rwa [Heap.size_push] at this
  have ho : HoldsAt ((hh.push emptyDict).push (instObj C hh.objs.size)) (ρ ++ [(hh.objs.size + 1, hh.objs.size)]) (hh.objs.size + 1) hh.objs.size (.inst C []) := ⟨_, [], 0, g2, g1, .nil⟩
  have I' := I.make kp e2 e1 ho I.bare (d' := d) (tk' := t) (os' := os)
  have N' : Nxt fr ρ (ρ ++ [(hh.objs.size + 1, hh.objs.size)]) ⟨hh, g, d, t, os⟩ ⟨(hh.push emptyDict).push (instObj C hh.objs.size), g, d, t, os⟩ := Nxt.make kp e2 e1
  have pp := prefix_add ρ (hh.objs.size + 1, hh.objs.size)
  have Y := makes_of (M := model c.prog c.w) X hm
  have ln : (ρ ++ [(hh.objs.size + 1, hh.objs.size)])[st.length]? = some (hh.objs.size + 1, hh.objs.size) := by rw [← I.len]; simp
  show codeAny (model c.prog c.w) A (.call (.ref C) ⟨[], []⟩) _ _
  refine make_core Y (looks_findIn X hi) (fun self => Looks.of_pure (oi_bind self)) (.inr ⟨rfl, rfl⟩) ?_
  have t1 : Looks (model c.prog c.w) ((hh.push emptyDict).push (instObj C hh.objs.size)) (typeOf (.ref (hh.objs.size + 1))) (.ref C) := (Looks.ld g2).andThen .now
  have t2 : Looks (model c.prog c.w) ((hh.push emptyDict).push (instObj C hh.objs.size)) (isInstance (.ref (hh.objs.size + 1)) (.type "object")) true := t1.andThen (Y.top.keeps kp)
  refine codeAny_call_builtin oi_plain entry_oi (@check_slot (model c.prog c.w) _ _ _ "object.__init__" "object" "__init__" (.ref (hh.objs.size + 1)) [] [] _ oi_kind oi_split t2 (oi_args (.ref (hh.objs.size + 1))) ?_)
  rw [oi_run]
  exact wpAny_pure (And.intro rfl (post _ _ _ pp N' I' ⟨_, ln, rfl⟩))
end
end Mine
end
section
set_option Elab.async false
set_option maxRecDepth 100000
set_option linter.unusedVariables false
namespace Mine
open PySem PySem.Spec PySem.Calls PyProof.Rows PySem.W
section
variable {c : Wd} {fr : Fx} {m m' m₁ m₂ : Loc} {st st' st₁ st₂ st₃ : Sto} {ρ : Rho} {s : Shared} {G : Shp} {P : Out FV → Loc → Sto → Prop}
theorem Ex.app {b1 b2 : List Stmt} {o : Out FV} (h1 : Ex c fr b1 m st (.ok .next) m₁ st₁) (h2 : Ex c fr b2 m₁ st₁ o m₂ st₂) : Ex c fr (b1 ++ b2) m st o m₂ st₂ := fun ρ => by
  rw [execs_append]
  exact (h1 ρ).bind fun ρ₁ f p rf => by
    cases f <;> first | exact rf.elim | exact h2 ρ₁
theorem Ex.appS {b1 b2 : List Stmt} {f : FV} (hf : f ≠ .next) (h1 : Ex c fr b1 m st (.ok f) m₁ st₁) : Ex c fr (b1 ++ b2) m st (.ok f) m₁ st₁ := fun ρ => by
  rw [execs_append]
  refine (h1 ρ).bind fun ρ₁ x p rf => ?_
  cases x <;> cases f <;> first | exact rf.elim | exact absurd rfl hf | exact .pure rf
theorem Ex.appE {b1 b2 : List Stmt} {X : Exn} (h1 : Ex c fr b1 m st (.exc X) m₁ st₁) : Ex c fr (b1 ++ b2) m st (.exc X) m₁ st₁ := fun ρ => by
  rw [execs_append]
  exact (h1 ρ).bindE
/-- on to what follows -/
def nextOr (R : Loc → Sto → Prop) (P : Out FV → Loc → Sto → Prop) : Out FV → Loc → Sto → Prop
  | .ok .next, m, st => R m st
  | o, m, st => P o m st
theorem XP.app {b1 b2 : List Stmt} (h : XP c G b1 m st (nextOr (fun m st => XP c G b2 m st P) P)) : XP c G (b1 ++ b2) m st P := by
  obtain ⟨o, m', st', h1, h2⟩ := h
  cases o with
  | ok f =>
    cases f with
    | next =>
      obtain ⟨o2, m2, st2, h3, h4⟩ := h2
      exact ⟨o2, m2, st2, fun fr F => .app (h1 fr F) (h3 fr F), h4⟩
    | brk => exact ⟨.ok .brk, m', st', fun fr F => .appS (f := .brk) (by intro e; cases e) (h1 fr F), h2⟩
    | cont => exact ⟨.ok .cont, m', st', fun fr F => .appS (f := .cont) (by intro e; cases e) (h1 fr F), h2⟩
    | ret v => exact ⟨.ok (.ret v), m', st', fun fr F => .appS (f := (.ret v)) (by intro e; cases e) (h1 fr F), h2⟩
  | exc X => exact ⟨.exc X, m', st', fun fr F => .appE (h1 fr F), h2⟩
theorem XP.split (n : Nat) {b : List Stmt} (h : XP c G (b.take n) m st (nextOr (fun m st => XP c G (b.drop n) m st P) P)) : XP c G b m st P := by
  rw [← List.take_append_drop n b]; exact .app h
/-- a body in every frame of the shape, of the code -/
def XPc (c : Wd) (G : Shp) (cd : Value) (b : List Stmt) (m : Loc) (st : Sto) (P : Out FV → Loc → Sto → Prop) : Prop := ∃ o m' st', (∀ fr, Sh c G fr → fr.env.code = cd → Ex c fr b m st o m' st') ∧ P o m' st'
theorem XPc.of {cd : Value} {b : List Stmt} (h : XP c G b m st P) : XPc c G cd b m st P := by
  obtain ⟨o, m', st', h1, h2⟩ := h
  exact ⟨o, m', st', fun fr F _ => h1 fr F, h2⟩
theorem XPc.app {cd : Value} {b1 b2 : List Stmt} (h : XP c G b1 m st (nextOr (fun m st => XPc c G cd b2 m st P) P)) : XPc c G cd (b1 ++ b2) m st P := by
  obtain ⟨o, m', st', h1, h2⟩ := h
  cases o with
  | ok f =>
    cases f with
    | next =>
      obtain ⟨o2, m2, st2, h3, h4⟩ := h2
      exact ⟨o2, m2, st2, fun fr F hc => .app (h1 fr F) (h3 fr F hc), h4⟩
    | brk => exact ⟨.ok .brk, m', st', fun fr F hc => .appS (f := .brk) (by intro e; cases e) (h1 fr F), h2⟩
    | cont => exact ⟨.ok .cont, m', st', fun fr F hc => .appS (f := .cont) (by intro e; cases e) (h1 fr F), h2⟩
    | ret v => exact ⟨.ok (.ret v), m', st', fun fr F hc => .appS (f := (.ret v)) (by intro e; cases e) (h1 fr F), h2⟩
  | exc X => exact ⟨.exc X, m', st', fun fr F hc => .appE (h1 fr F), h2⟩
theorem XPc.split {cd : Value} (n : Nat) {b : List Stmt} (h : XP c G (b.take n) m st (nextOr (fun m st => XPc c G cd (b.drop n) m st P) P)) : XPc c G cd b m st P := by
  rw [← List.take_append_drop n b]; exact .app h
theorem Calls.defXc {f : Addr} {oc : Value} {od : Option Addr} {osl : Array (Option Value)} {name qual : Str} {params : Arguments} {body : List Stmt} {scope : Scope} {dV kV doc pm cdv ct : Value} {an : Option Addr}
    {args binds : List V} {kw : List (Str × V)} {P' : Out V → Sto → Prop} (n : Nat) (names : List Str) (globs : List (Str × Value)) (z : Bool) (k : Nat) (m₀ : Loc) (ok : c.Ok)
    (hK : c.K.lookup f = some ⟨oc, od, .func (fnOf name qual params body scope dV kV doc pm an cdv ct), osl⟩) (hcd : codeIn c.K cdv qual = true) (hsc : scopeOk c.K scope names globs = true) (hcell : (scope.names.all fun x => !(x.2 == .cell)) = true)
    (hbind : ∀ (s : Shared) (ρ : Rho) (xs ks : List Value), c.K.In s.heap → RepL ρ xs args → RepL ρ ks (kw.map (·.2)) → ∃ ys, BindsTo s (fnOf name qual params body scope dV kV doc pm an cdv ct) ⟨xs, (kw.map (·.1)).zip ks⟩ ((names.take n).zip ys) ∧ RepL ρ ys binds)
    (hn : binds.length = n) (hn' : n ≤ names.length) (hm : binds ++ List.replicate (names.length - n) .undef = m₀)
    (hbody : XPc c ⟨names, globs, z, k, true, []⟩ cdv body m₀ st fun o m' st' => ∃ r, retOf o = some r ∧ P' r st') : ∃ r st', Calls c z (k + 1) (.glob (.ref f)) args kw st r st' ∧ P' r st' := by
  subst hm
  obtain ⟨o, m', st', h, r, hr, hP⟩ := hbody
  exact ⟨r, st', .defAt n ok hK rfl rfl rfl hcd hsc hcell hbind hn hn' hr fun fr' F hl hd he => (h fr' ⟨F, hl, fun _ => hd, (fun _ _ q => nomatch q), fun _ => by obtain ⟨L, he⟩ := he; rw [he]; exact kdsCode_of hcd, fun _ _ _ q => nomatch q⟩ (by obtain ⟨L, he⟩ := he; rw [he]; rfl)).toC, hP⟩
/-- the turns of a while, in every frame of the shape -/
def WP (c : Wd) (G : Shp) (test : Expr) (body : List Stmt) (m : Loc) (st : Sto) (P : Out FV → Loc → Sto → Prop) : Prop := ∃ j o m' st', (∀ fr, Sh c G fr → Wl c fr test body j m st o m' st') ∧ P o m' st'
theorem WP.stop {test : Expr} {body : List Stmt} (h : ∀ fr, Sh c G fr → Bt c fr test m st (.ok false) st₁) (hP : P (.ok .next) m st₁) : WP c G test body m st P := ⟨0, _, _, _, fun fr F => .stop (h fr F), hP⟩
def turnOr (R : Loc → Sto → Prop) (P : Out FV → Loc → Sto → Prop) : Out FV → Loc → Sto → Prop
  | .ok .next, m, st => R m st
  | .ok .cont, m, st => R m st
  | .ok .brk, m, st => P (.ok .next) m st
  | o, m, st => P o m st
theorem WP.turn {test : Expr} {body : List Stmt} (h : ∀ fr, Sh c G fr → Bt c fr test m st (.ok true) st₁) (hb : XP c G body m st₁ (turnOr (fun m st => WP c G test body m st P) P)) : WP c G test body m st P := by
  obtain ⟨o, m', st', h1, h2⟩ := hb
  cases o with
  | ok f =>
    cases f with
    | next =>
      obtain ⟨j, o2, m2, st2, h3, h4⟩ := h2
      exact ⟨j + 1, o2, m2, st2, fun fr F => .turn (h fr F) (h1 fr F) (.inl rfl) (h3 fr F), h4⟩
    | cont =>
      obtain ⟨j, o2, m2, st2, h3, h4⟩ := h2
      exact ⟨j + 1, o2, m2, st2, fun fr F => .turn (h fr F) (h1 fr F) (.inr rfl) (h3 fr F), h4⟩
    | brk => exact ⟨0, _, _, _, fun fr F => .brk (h fr F) (h1 fr F), h2⟩
    | ret v => exact ⟨0, _, _, _, fun fr F => .ret (h fr F) (h1 fr F), h2⟩
  | exc X => exact ⟨0, _, _, _, fun fr F => .exc (h fr F) (h1 fr F), h2⟩
theorem XP.while_ (ht : G.top = true) {test : Expr} {body r : List Stmt} {pos : Pos} (h : WP c G test body m st (nextOr (fun m st => XP c G r m st P) P)) : XP c G (.While test body [] pos :: r) m st P := by
  obtain ⟨j, o, m', st', h1, h2⟩ := h
  cases o with
  | ok f =>
    cases f with
    | next =>
      obtain ⟨o2, m2, st2, h3, h4⟩ := h2
      exact ⟨o2, m2, st2, fun fr F => .cons (.while_ (F.head ht) (h1 fr F)) (h3 fr F), h4⟩
    | brk => exact ⟨.ok .brk, m', st', fun fr F => .stop (f := .brk) (by intro e; cases e) (.while_ (F.head ht) (h1 fr F)), h2⟩
    | cont => exact ⟨.ok .cont, m', st', fun fr F => .stop (f := .cont) (by intro e; cases e) (.while_ (F.head ht) (h1 fr F)), h2⟩
    | ret v => exact ⟨.ok (.ret v), m', st', fun fr F => .stop (f := (.ret v)) (by intro e; cases e) (.while_ (F.head ht) (h1 fr F)), h2⟩
  | exc X => exact ⟨_, m', st', fun fr F => .stopE (.while_ (F.head ht) (h1 fr F)), h2⟩
theorem Bin2.pow10 {b : Int} (h0 : 0 ≤ b) (h1 : b ≤ 9) : Bin2 c fr .Pow (.int 10) (.int b) (.int (10 ^ b.toNat)) := fun m st ρ x y rx ry => by
  obtain ⟨t, rfl⟩ := rx; obtain ⟨u, rfl⟩ := ry
  refine .look fun A s Q E _ _ h => ?_
  by_cases hb : b = 0
  · subst hb
    exact PySem.AutoIntOps.pow_0 (by decide) rfl (h _ _ ⟨_, rfl⟩)
  · refine PySem.AutoIntOps.pow_4 h0 (by simpa using hb) (by decide) (by decide) ?_ (h _ _ ⟨_, rfl⟩)
    have : b = 1 ∨ b = 2 ∨ b = 3 ∨ b = 4 ∨ b = 5 ∨ b = 6 ∨ b = 7 ∨ b = 8 ∨ b = 9 := by omega
    rcases this with rfl | rfl | rfl | rfl | rfl | rfl | rfl | rfl | rfl <;> decide
theorem bits_small {a : Int} (h : a.natAbs < 1000000000000) : Builtin.Int.intBits a ≤ 64 := by
  unfold Builtin.Int.intBits
  split
  · decide
  · rename_i h0
    have h0 : a.natAbs ≠ 0 := by simpa using h0
    have := (Nat.log2_lt h0).mpr (Nat.lt_trans h (by decide : 1000000000000 < 2 ^ 40))
    omega
end
end Mine
end
section
set_option Elab.async false
set_option maxRecDepth 100000
set_option maxHeartbeats 400000
set_option linter.unusedVariables false
namespace Mine
open PySem PySem.Spec PySem.Calls PyProof.Rows PySem.W
section
variable {c : Wd} {fr : Fx} {m m' m₁ m₂ : Loc} {st st' st₁ st₂ st₃ : Sto} {ρ : Rho} {s : Shared} {G : Shp} {P : Out FV → Loc → Sto → Prop}
theorem callEnv_ks {fd : FuncData} {L f cda cc : Addr} (hfg : fd.globals = mainGlobals) (hcl : fd.closure = [(("__class__" : Str), cc)]) (hcode : fd.code = .ref cda) (hfi : fd.builtins = builtinsNs) : callEnv fd L f = ksEnv fd.qualname fd.scope L f (.ref cda) cc := by
  obtain ⟨a1, a2, a3, a4, a5, a6, a7, a8, a9, a10, a11, a12, a13, a14, a15⟩ := fd
  dsimp only at hfg hcl hcode hfi
  subst hfg hcl hcode hfi
  rfl
theorem not_inter (F : Sh c G fr) : interactive fr.env = false := by
  unfold interactive
  rw [F.fri.own.kind]
  rfl
theorem Ex1.expr (F : Sh c G fr) {e : Expr} {pos : Pos} {v : V} (h : Ev c fr e m st (.ok v) st₁) (hs : swapsWith e none pos.line fr.env = pure false) : Ex1 c fr (.Expr e pos) m st (.ok .next) m st₁ := fun ρ => by
  rw [exec_Expr fr.env e pos (not_inter F) hs]
  refine TriAt.standThen ((h ρ).bind fun ρ₁ x p rx => ?_)
  intro A s Q E hA I post
  exact wpAny_dropValue (post ρ₁ s .next (List.prefix_refl _) (Nxt.refl ..) I trivial)
theorem Ex1.exprE (F : Sh c G fr) {e : Expr} {pos : Pos} {X : Exn} (h : Ev c fr e m st (.exc X) st₁) (hs : swapsWith e none pos.line fr.env = pure false) : Ex1 c fr (.Expr e pos) m st (.exc X) m st₁ := fun ρ => by
  rw [exec_Expr fr.env e pos (not_inter F) hs]
  exact TriAt.standThen (h ρ).bindE
theorem Calls.defSuper {f cda cc C D f2 : Addr} {oc : Value} {od : Option Addr} {osl : Array (Option Value)} {fd : FuncData} {ar : Arg} {attr : Str} {rest : List Stmt} {p0 p1 apos cpos pos : Pos} {es : List Expr}
    {args binds vs : List V} {kw : List (Str × V)} {P' : Out V → Sto → Prop} {i : Nat} {fs : List (Str × V)} {r1 : Out V} (n : Nat) (names : List Str) (globs : List (Str × Value)) (z : Bool) (k : Nat) (m₀ : Loc) (ok : c.Ok)
    (hK : c.K.lookup f = some ⟨oc, od, .func fd, osl⟩) (hfb : fd.body = .stmts (.Expr (.Call (.Attribute (.Call (.Name "super" p0) [] [] p1) attr apos) es [] cpos) pos :: rest)) (hfg : fd.globals = mainGlobals) (hfi : fd.builtins = builtinsNs) (hcd : codeIn c.K fd.code fd.qualname = true)
    (hsc : scopeOk c.K fd.scope names globs = true) (hcell : (fd.scope.names.all fun x => !(x.2 == .cell)) = true)
    (hbind : ∀ (s : Shared) (ρ : Rho) (xs ks : List Value), c.K.In s.heap → RepL ρ xs args → RepL ρ ks (kw.map (·.2)) → ∃ ys, BindsTo s fd ⟨xs, (kw.map (·.1)).zip ks⟩ ((names.take n).zip ys) ∧ RepL ρ ys binds)
    (hn : binds.length = n) (hn' : n ≤ names.length) (hm : binds ++ List.replicate (names.length - n) .undef = m₀)
    (S : SuperFacts c f fd ar cda cc C D f2 attr) (hcl : fd.closure = [(("__class__" : Str), cc)]) (hcode : fd.code = .ref cda) (hks : fd.scope.names.lookup ("super" : Str) = some .globalImplicit) (hkc : fd.scope.names.lookup ("__class__" : Str) = some .free) (hka : fd.scope.names.lookup ar.arg = some .local) (hkf : fd.scope.kind = .function)
    (hv : Lk names m₀ ar.arg (.obj i)) (h : st[i]? = some (.inst C fs)) (ha : ∀ fr, Sh c ⟨names, globs, z, k, true, []⟩ fr → EvL c fr es m₀ st vs st₁) (hc : Calls c z k (.glob (.ref f2)) (.obj i :: vs) [] st₁ r1 st₂) (hs : es.any starred = false)
    (hr : (∃ v, r1 = .ok v ∧ XP c ⟨names, globs, z, k, true, []⟩ rest m₀ st₂ fun o m' st' => ∃ r, retOf o = some r ∧ P' r st') ∨ (∃ X, r1 = .exc X ∧ P' (.exc X) st₂))
    (hsw : ∀ env : Env, swapsWith (.Call (.Attribute (.Call (.Name "super" p0) [] [] p1) attr apos) es [] cpos) none pos.line env = pure false)
    (he : ∀ env : Env, ∃ pl : Sem Bool, eval (.Call (.Attribute (.Call (.Name "super" p0) [] [] p1) attr apos) es [] cpos) env = (do
      let ov ← attributeBase (.Call (.Name "super" p0) [] [] p1) attr env (eval (.Call (.Name "super" p0) [] [] p1) env)
      standAt apos.atName
      let (f, first) ← holding [ov] (getMethod ov attr pl)
      PySem.callWith cpos f first (backTo cpos (starEach es env)) [])) : ∃ r st', Calls c z (k + 1) (.glob (.ref f)) args kw st r st' ∧ P' r st' := by
  subst hm
  have mk : ∀ fr' : Fx, FrI c fr' names globs → fr'.fit z k → fr'.Head → (∃ L, fr'.env = callEnv fd L f) → Sh c ⟨names, globs, z, k, true, []⟩ fr' := fun fr' F hl hd he => ⟨F, hl, fun _ => hd, (fun _ _ q => nomatch q), fun _ => by obtain ⟨L, he⟩ := he; rw [he]; exact kdsCode_of hcd, fun _ _ _ q => nomatch q⟩
  have sup : ∀ (o : Out FV) (m' : Loc) (st' : Sto), (∀ fr', Sh c ⟨names, globs, z, k, true, []⟩ fr' → (∃ v, r1 = .ok v ∧ Ex c fr' rest (binds ++ List.replicate (names.length - n) .undef) st₂ o m' st') ∨ ∃ X, r1 = .exc X ∧ o = .exc X ∧ m' = (binds ++ List.replicate (names.length - n) .undef) ∧ st' = st₂) →
      ∀ fr' : Fx, FrI c fr' names globs → fr'.fit z k → fr'.Head → (∃ L, fr'.env = callEnv fd L f) → ExC c fr' (.func (.Expr (.Call (.Attribute (.Call (.Name "super" p0) [] [] p1) attr apos) es [] cpos) pos :: rest) fr'.env) (.Expr (.Call (.Attribute (.Call (.Name "super" p0) [] [] p1) attr apos) es [] cpos) pos :: rest) (binds ++ List.replicate (names.length - n) .undef) st o m' st' := fun o m' st' hh fr' F hl hd he' => by
    have F' := mk fr' F hl hd he'
    obtain ⟨L, e⟩ := he'
    refine ExC.super (q := fd.qualname) (scope := fd.scope) (L := L) ok S ?_ hks hkc hka hkf (by rw [F.nm]; exact hv) h (ha fr' F') hc hl hs (hh fr' F') (not_inter F') (hsw _) (he _)
    rw [e, callEnv_ks hfg hcl hcode hfi]
  rcases hr with ⟨v, rfl, o, m', st', h1, r, h2, h3⟩ | ⟨X, rfl, h3⟩
  · exact ⟨r, st', .defAt n ok hK hfb hfg hfi hcd hsc hcell hbind hn hn' h2 (sup o m' st' fun fr' F' => .inl ⟨v, rfl, h1 fr' F'⟩), h3⟩
  · exact ⟨.exc X, st₂, .defAt n ok hK hfb hfg hfi hcd hsc hcell hbind hn hn' rfl (sup (.exc X) _ st₂ fun fr' F' => .inr ⟨X, rfl, rfl, rfl, rfl⟩), h3⟩
end
end Mine
end
section
set_option Elab.async false
set_option maxRecDepth 100000
set_option linter.unusedVariables false
namespace Mine
open PySem PySem.Spec PySem.Calls PyProof.Rows PySem.W
def starE : Expr → Bool
  | .Starred .. => true
  | _ => false
theorem if_no {α : Type} {b : Bool} {x y : α} (h : b = false) : (if b = true then x else y) = y := by rw [h]; rfl
theorem swapped2 {env : Env} {a b : Str} {pa pb p1 p2 : Pos} {v1 v2 : Expr} {k1 k2 : Nat} (hk : env.blockKind = .function) (ha : env.kindOf a = some .local) (hb : env.kindOf b = some .local) (hl : (pb.line == pa.line) = true) (hd : ([a, b] : List Str).eraseDups.length = 2)
    (hs : ([v1, v2].any starE) = false) (h3 : [v1, v2].all (foldedForSure 8) = false) (h4 : [v1, v2].all (constantsAlone 8) = false) :
    swappedStores [.Tuple [.Name a pa, .Name b pb] k1 p1] (.Tuple [v1, v2] k2 p2) env = pure (some [a, b]) := by
  have hn : ([.Name a pa, .Name b pb] : List Expr).filterMap (fun | .Name id pos => if env.kindOf id == some .local && pos.line == pa.line then some id else none | _ => none) = [a, b] := by
    rw [List.filterMap_cons]
    simp only [ha, hb, hl, beq_self_eq_true, Bool.and_self, if_true, List.filterMap_cons, List.filterMap_nil]
  have e : swappedStores [.Tuple [.Name a pa, .Name b pb] k1 p1] (.Tuple [v1, v2] k2 p2) env =
    (if (env.blockKind != .function) = true then pure none else if ([v1, v2].any starE) = true then pure none else
      (fun names => if (names.length != 2 || names.eraseDups.length != names.length) = true then pure none else if ([v1, v2].all (foldedForSure 8)) = true then pure none else if ([v1, v2].all (constantsAlone 8)) = true then (unsupported "assign.tuple-of-constant-expressions:order-of-the-stores" : Sem PUnit) >>= fun _ => pure (some names) else pure (some names)) (([.Name a pa, .Name b pb] : List Expr).filterMap (fun | .Name id pos => if env.kindOf id == some .local && pos.line == pa.line then some id else none | _ => none))) := by
    rfl
  rw [e, hn]
  rw [if_no (by rw [hk]; rfl), if_no hs]
  dsimp only
  rw [hd, if_no (b := ([a, b].length != 2 || 2 != [a, b].length)) rfl, if_no h3, if_no h4]
theorem swapped3 {env : Env} {a b c : Str} {pa pb pc p1 p2 : Pos} {v1 v2 v3 : Expr} {k1 k2 : Nat} (hk : env.blockKind = .function) (ha : env.kindOf a = some .local) (hb : env.kindOf b = some .local) (hc : env.kindOf c = some .local) (hl : (pb.line == pa.line) = true) (hl' : (pc.line == pa.line) = true) (hd : ([a, b, c] : List Str).eraseDups.length = 3)
    (hs : ([v1, v2, v3].any starE) = false) (h3 : [v1, v2, v3].all (foldedForSure 8) = false) (h4 : [v1, v2, v3].all (constantsAlone 8) = false) :
    swappedStores [.Tuple [.Name a pa, .Name b pb, .Name c pc] k1 p1] (.Tuple [v1, v2, v3] k2 p2) env = pure (some [a, b, c]) := by
  have hn : ([.Name a pa, .Name b pb, .Name c pc] : List Expr).filterMap (fun | .Name id pos => if env.kindOf id == some .local && pos.line == pa.line then some id else none | _ => none) = [a, b, c] := by
    rw [List.filterMap_cons]
    simp only [ha, hb, hc, hl, hl', beq_self_eq_true, Bool.and_self, if_true, List.filterMap_cons, List.filterMap_nil]
  have e : swappedStores [.Tuple [.Name a pa, .Name b pb, .Name c pc] k1 p1] (.Tuple [v1, v2, v3] k2 p2) env =
    (if (env.blockKind != .function) = true then pure none else if ([v1, v2, v3].any starE) = true then pure none else
      (fun names => if (names.length != 3 || names.eraseDups.length != names.length) = true then pure none else if ([v1, v2, v3].all (foldedForSure 8)) = true then pure none else if ([v1, v2, v3].all (constantsAlone 8)) = true then (unsupported "assign.tuple-of-constant-expressions:order-of-the-stores" : Sem PUnit) >>= fun _ => pure (some names) else pure (some names)) (([.Name a pa, .Name b pb, .Name c pc] : List Expr).filterMap (fun | .Name id pos => if env.kindOf id == some .local && pos.line == pa.line then some id else none | _ => none))) := by
    rfl
  rw [e, hn]
  rw [if_no (by rw [hk]; rfl), if_no hs]
  dsimp only
  rw [hd, if_no (b := ([a, b, c].length != 3 || 3 != [a, b, c].length)) rfl, if_no h3, if_no h4]
theorem blockKind_fn {fr : Fx} (ow : fr.Own) : fr.env.blockKind = .function := by
  unfold Env.blockKind
  rw [ow.kind]
  rfl
theorem local_of {fr : Fx} {c : Wd} {G : Shp} (F : Sh c G fr) {x : Str} (h : x ∈ G.names) : fr.env.kindOf x = some .local := (F.fri.own.loc (by rw [F.fri.nm]; exact h)).1
end Mine
end
section
set_option Elab.async false
set_option maxRecDepth 100000
set_option linter.unusedVariables false
namespace Mine
open PySem PySem.Spec PySem.Calls PyProof.Rows PySem.W
section
variable {c : Wd} {fr : Fx} {m m' m₁ m₂ : Loc} {st st' st₁ st₂ st₃ : Sto} {ρ : Rho} {s : Shared} {G : Shp}
-- cells
theorem St1.cellA (F : Sh c G fr) (ht : G.top = true) {x : Str} {n : Nat} {o : Option V} {v : V} (hx : (x, n) ∈ G.cells) (ho : st[n]? = some (.cell o)) : St1 fr m st x v m (st.set n (.cell (some v))) := .cell (F.cel x n hx).1 (F.celk ht x n hx) ho
theorem Ev.cellA (F : Sh c G fr) {x : Str} {pos : Pos} {n : Nat} {v : V} (hx : (x, n) ∈ G.cells) (hn : st[n]? = some (.cell (some v))) (hd : (x == ("__debug__" : Str)) = false) (hd2 : (x == ("__classdict__" : Str)) = false) : Ev c fr (.Name x pos) m st (.ok v) st :=
  .cell F.fri.own (F.cel x n hx).1 (F.cel x n hx).2 hn hd hd2
theorem Ex1.asgCell (F : Sh c G fr) (ht : G.top = true) {x : Str} {pos' pos : Pos} {e : Expr} {n : Nat} {o : Option V} {v : V} (h : Ev c fr e m st (.ok v) st₁) (hx : (x, n) ∈ G.cells) (ho : st₁[n]? = some (.cell o)) (hs : swapsWith e (some (.Name x pos')) pos.line fr.env = pure false) :
    Ex1 c fr (.Assign [.Name x pos'] e pos) m st (.ok .next) m (st₁.set n (.cell (some v))) := .asgS F.fri.own h (.cellA F ht hx ho) hs
-- a list of the base
theorem CallT.lenG {a : Addr} {items : Array Value} (hb : c.base.IsList a items) (hz : items.size ≤ 100000) : CallT c fr (.builtin "len") [.glob (.ref a)] [] st (.ok (.int items.size)) st := .look1 fun m ρ x A s Q E rx hA I h => by
  obtain rfl : x = .ref a := rx
  obtain ⟨o, ho, hc, nn, hd⟩ := hb
  exact call_len_list ⟨o, I.stays a o ho, hc, nn, hd⟩ (by omega) (h _ _ ⟨_, rfl⟩)
theorem Item.listG {a : Addr} {items : Array Value} {i : Int} {y : Value} {v : V} (hb : c.base.IsList a items) (h0 : 0 ≤ i) (h1 : i < 2 ^ 63) (hx : items[i.toNat]? = some y) (hr : ∀ ρ, Rep ρ y v) : Item c fr st (.glob (.ref a)) (.int i) (.ok v) st := fun m ρ x z value slice rx rz hs => by
  obtain rfl : x = .ref a := rx
  obtain ⟨u, rfl⟩ := rz
  refine .look fun A s Q E _ I h => ?_
  obtain ⟨o, ho, hc, nn, hd⟩ := hb
  have hl : s.heap.IsList a items := ⟨o, I.stays a o ho, hc, nn, hd⟩
  exact tail_any hl.typeIs slot_list_getitem.lookup (wpAny_getItem_list hl h0 h1 hx (h y s.toks (hr ρ))) (subscripted_plain hs _ _)
-- join
theorem RepL.strs {ρ : Rho} : ∀ {xs : List Value} {parts : List Str}, RepL ρ xs (parts.map V.str) → ∃ l : List (Str × Tok), xs = strValues l ∧ l.map (·.1) = parts
  | _, [], r => ⟨[], r.inv0, rfl⟩
  | _, p :: parts, r => by
    obtain ⟨x, xs, rfl, ⟨t, rfl⟩, r2⟩ := RepL.inv1 (v := .str p) (vs := parts.map V.str) r
    obtain ⟨l, rfl, h⟩ := RepL.strs r2
    exact ⟨(p, t) :: l, rfl, by simp [h]⟩
theorem Meth.join {x : Str} : Meth c fr st (.str x) "join" (.builtin "str.join") [.str x] := fun m ρ y pl rx => by
  obtain ⟨t, rfl⟩ := rx
  refine .look fun A s Q E _ I hQ => ?_
  have h := hQ (.builtin "str.join", [.str x t]) s.toks ⟨rfl, .cons ⟨t, rfl⟩ .nil⟩
  with_reducible exact GM.of (.str x t) (typeIs_str _ _ _) F.slot_str_join F.type_str_join GM.noRef h
theorem CallT.join {x : Str} {n : Nat} {parts : List Str} (hn : st[n]? = some (.list (parts.map V.str))) (hok : JoinOk x parts = true) : CallT c fr (.builtin "str.join") [.str x, .obj n] [] st (.ok (.str (Txt.join x parts))) st := .look2 fun m ρ y z A s Q E rx rz hA I hQ => by
  obtain ⟨t, rfl⟩ := rx
  obtain ⟨p, hp, rfl⟩ := rz
  obtain ⟨xs, hl, rl, _⟩ := I.store n _ p hn hp
  obtain ⟨l, rfl, ht⟩ := rl.strs
  exact SC.join hl ht hok fun t' k => hQ _ _ ⟨_, rfl⟩
end
end Mine
end
section
set_option Elab.async false
set_option maxRecDepth 100000
set_option linter.unusedVariables false
namespace Mine
open PySem PySem.Spec PySem.Calls PyProof.Rows PySem.W
-- stores that are not swapped
theorem swap_shape2 {env : Env} {t1 t2 : Expr} {p1 p2 : Pos} {v1 v2 : Expr} {k1 k2 : Nat} : swappedStores [.Tuple [t1, t2] k1 p1] (.Tuple [v1, v2] k2 p2) env =
    (if (env.blockKind != .function) = true then pure none else if ([v1, v2].any starE) = true then pure none else
      (fun names => if (names.length != 2 || names.eraseDups.length != names.length) = true then pure none else if ([v1, v2].all (foldedForSure 8)) = true then pure none else if ([v1, v2].all (constantsAlone 8)) = true then (unsupported "assign.tuple-of-constant-expressions:order-of-the-stores" : Sem PUnit) >>= fun _ => pure (some names) else pure (some names)) (([t1, t2] : List Expr).filterMap (fun | .Name id pos => if env.kindOf id == some .local && pos.line == t1.pos.line then some id else none | _ => none))) := by
  rfl
theorem if_yes {α : Type} {b : Bool} {x y : α} (h : b = true) : (if b = true then x else y) = x := by rw [h]; rfl
theorem swapCell2 {env : Env} {a b : Str} {pa pb p1 p2 : Pos} {v1 v2 : Expr} {k1 k2 : Nat} (hk : env.blockKind = .function) (ha : env.kindOf a = some .cell) (hs : ([v1, v2].any starE) = false) :
    swappedStores [.Tuple [.Name a pa, .Name b pb] k1 p1] (.Tuple [v1, v2] k2 p2) env = pure none := by
  rw [swap_shape2, if_no (by rw [hk]; rfl), if_no hs]
  dsimp only
  rw [if_yes]
  have e1 : (env.kindOf a == some .local) = false := by rw [ha]; rfl
  rw [List.filterMap_cons]
  simp only [e1, Bool.false_and, Bool.false_eq_true, if_false, List.filterMap_cons, List.filterMap_nil]
  split <;> simp
theorem swapConst2 {env : Env} {a b : Str} {pa pb p1 p2 : Pos} {v1 v2 : Expr} {k1 k2 : Nat} (hk : env.blockKind = .function) (hs : ([v1, v2].any starE) = false) (h3 : [v1, v2].all (foldedForSure 8) = true) :
    swappedStores [.Tuple [.Name a pa, .Name b pb] k1 p1] (.Tuple [v1, v2] k2 p2) env = pure none := by
  rw [swap_shape2, if_no (by rw [hk]; rfl), if_no hs]
  dsimp only
  rw [if_yes h3]
  split <;> rfl
theorem swapSub2 {env : Env} {o i : Expr} {b : Str} {pa pb p1 p2 : Pos} {v1 v2 : Expr} {k1 k2 : Nat} (hk : env.blockKind = .function) (hs : ([v1, v2].any starE) = false) :
    swappedStores [.Tuple [.Subscript o i pa, .Name b pb] k1 p1] (.Tuple [v1, v2] k2 p2) env = pure none := by
  rw [swap_shape2, if_no (by rw [hk]; rfl), if_no hs]
  dsimp only
  rw [if_yes]
  rw [List.filterMap_cons]
  simp only [List.filterMap_cons, List.filterMap_nil]
  split <;> simp
section
variable {c : Wd} {fr : Fx} {m m' m₁ m₂ : Loc} {st st' st₁ st₂ st₃ : Sto} {ρ : Rho} {s : Shared} {G : Shp}
/-- o[i] = y, with y at hand -/
theorem TriAt.assignSub {o i : Expr} {spos : Pos} {n : Nat} {l : List V} {j : Int} {v : V} {y : Value} (h2 : Ev c fr o m st (.ok (.obj n)) st) (h3 : Ev c fr i m st (.ok (.int j)) st) (ho : st[n]? = some (.list l)) (h0 : 0 ≤ j) (hj : j < 1000) (hl : j < l.length) (ry : Rep ρ y v) :
    TriAt c fr RepU ρ (PySem.assign (.Subscript o i spos) fr.env y) m st (.ok ()) m (st.set n (.list (l.set j.toNat v))) := by
  rw [arm_assign_Subscript]
  refine (TriAt.holding (h2 ρ)).bind fun ρ₂ x p₂ rx => (TriAt.holding (h3 ρ₂)).bind fun ρ₃ k p₃ rk => TriAt.standThen ((TriAt.holding (TriAt.setAt ho h0 (by omega) hl (rx.mono p₃) rk ((ry.mono p₂).mono p₃))).bind fun ρ₄ _ p₄ _ => ?_)
  intro A s Q E hA I post Γ p hΓ
  rw [Sem.wp_release]
  exact post ρ₄ s () (List.prefix_refl _) (Nxt.refl ..) I trivial
theorem Ex1.asgSubName (F : Sh c G fr) (hz : G.z = true) {o i e : Expr} {spos npos tpos pos : Pos} {x : Str} {k n j : Nat} {q : Int} {l : List V} {v1 v2 : V} (h : Ev c fr e m st (.ok (.obj n)) st₁) (ht : st₁[n]? = some (.tuple [v1, v2])) (h2 : Ev c fr o m st₁ (.ok (.obj j)) st₁) (h3 : Ev c fr i m st₁ (.ok (.int q)) st₁)
    (ho : st₁[j]? = some (.list l)) (h0 : 0 ≤ q) (hq : q < 1000) (hl : q < l.length) (hu : Up G.names m x v2 m')
    (hs : swapsWith e (some (.Tuple [.Subscript o i spos, .Name x npos] k tpos)) pos.line fr.env = pure false) (hw : swappedStores [.Tuple [.Subscript o i spos, .Name x npos] k tpos] e fr.env = pure none) :
    Ex1 c fr (.Assign [.Tuple [.Subscript o i spos, .Name x npos] k tpos] e pos) m st (.ok .next) m' (st₁.set j (.list (l.set q.toNat v1))) := fun ρ => by
  rw [arm_exec_Assign]
  show TriAt c fr RepF ρ (standAt pos >>= fun _ => swapsWith e (some (.Tuple [.Subscript o i spos, .Name x npos] k tpos)) pos.line fr.env >>= fun b => if b = true then _ else _) _ _ _ _ _
  rw [hs]
  refine TriAt.standThen ?_
  show TriAt c fr RepF ρ (eval e fr.env >>= fun v => swappedStores [.Tuple [.Subscript o i spos, .Name x npos] k tpos] e fr.env >>= fun sw => assignStores fr.env v sw ((assignEach [.Tuple [.Subscript o i spos, .Name x npos] k tpos] fr.env).map (·.2))) _ _ _ _ _
  rw [hw]
  refine (h ρ).bind fun ρ₁ y p ry => ?_
  show TriAt c fr RepF ρ₁ ((standAt tpos >>= fun _ => PySem.unpack y (assignEach [.Subscript o i spos, .Name x npos] fr.env)) >>= fun _ => pure .next) _ _ _ _ _
  refine TriAt.bind (rep := RepU) (b := ()) (TriAt.standThen ?_) fun _ _ _ _ => .pure trivial
  unfold PySem.unpack
  rw [show (assignEach [.Subscript o i spos, .Name x npos] fr.env).findIdx? (·.1) = none from rfl, show (assignEach [.Subscript o i spos, .Name x npos] fr.env).length = 2 from rfl]
  refine TriAt.bind (TriAt.holding (TriAt.unpack (F.fit.z hz) ht rfl ry)) fun ρ₂ ys p₂ rys => ?_
  obtain ⟨y1, r1, rfl, q1, rl1⟩ := rys.inv1
  obtain ⟨y2, r2, rfl, q2, rl2⟩ := rl1.inv1
  obtain rfl := rl2.inv0
  show TriAt c fr RepU ρ₂ (do PySem.holding [y2] (PySem.assign (.Subscript o i spos) fr.env y1); (do PySem.holding [] (do standAt npos; bindName fr.env x y2); assignInOrder [] [])) m st₁ _ m' _
  refine TriAt.bind (TriAt.holding (TriAt.assignSub h2 h3 ho h0 hq hl q1)) fun ρ₃ _ p₃ _ => ?_
  exact TriAt.bind (TriAt.holding (TriAt.standThen (TriAt.bind1 F.fri.own (St1.locA F hu) (q2.mono p₃)))) fun _ _ _ _ => .pure trivial
end
end Mine
end
section
set_option Elab.async false
set_option linter.unusedVariables false
namespace Mine
/-- the common forms of a day: year, month, day, place -/
def com3 (l : TX) (y mo p : Int) : Option (Int × Int × Int × Int) :=
  match dg l p 2 with
  | none => none
  | some d => some (y, mo, d, p + 2)
def com2 (l : TX) (b : Bool) (y mo p : Int) : Option (Int × Int × Int × Int) :=
  if p ≥ (l.length : Int) then (if b then some (y, mo, 1, p) else none) else
  if b = true ∧ (sl l p (p + 1) == [45]) = false then none else com3 l y mo (if b then p + 1 else p)
def com1 (l : TX) (b : Bool) (y p : Int) : Option (Int × Int × Int × Int) :=
  match dg l p 2 with
  | none => none
  | some mo => com2 l b y mo (p + 2)
def common (l : TX) : Option (Int × Int × Int × Int) :=
  match dg l 0 4 with
  | none => none
  | some y => if 4 ≥ (l.length : Int) then some (y, 1, 1, 4) else com1 l (sl l 4 (4 + 1) == [45]) y (if (sl l 4 (4 + 1) == [45]) = true then 4 + 1 else 4)
end Mine
end
section
set_option Elab.async false
set_option maxRecDepth 100000
set_option linter.unusedVariables false
namespace Mine
open PySem PySem.Spec PySem.Calls PyProof.Rows PySem.W
structure Pk where
  w : World
  base : Heap
  p : Program
  loose : List Str
  mean : ExcName → Option Value
  mg : Str → Option Value
  mb : Str → Option Value
def noTab1 (p : Addr × Obj) : Bool := match p.2.cls, p.2.data with
  | .none, .fields _ => false
  | _, _ => true
noncomputable def K1 (P : Params) : Frag := (hd.heap_39 P).filter noTab1
noncomputable def C1 (q : Pk) : Wd := ⟨(OpenLaw.row PySem.Challenge.rw_ev0022_01).prog, q.w, K1 q.w.params, q.base, q.p, q.loose, q.mean, q.mg, q.mb, 606⟩
end Mine
end
namespace Mine
section
set_option maxRecDepth 100000
open PySem PySem.Spec PySem.Calls PyProof.Rows PySem.W
-- the walk's own line
local macro_rules | `(tactic| walk_at "lk") => `(tactic| (first | with_reducible exact Lk.here | (with_reducible apply Lk.there; first | with_reducible exact Lk.here | (with_reducible apply Lk.there; first | with_reducible exact Lk.here | (with_reducible apply Lk.there; first | with_reducible exact Lk.here | (with_reducible apply Lk.there; first | with_reducible exact Lk.here | (with_reducible apply Lk.there; first | with_reducible exact Lk.here | (with_reducible apply Lk.there; first | with_reducible exact Lk.here | (with_reducible apply Lk.there; first | with_reducible exact Lk.here | (with_reducible apply Lk.there; first | with_reducible exact Lk.here | (with_reducible apply Lk.there; first | with_reducible exact Lk.here | (with_reducible apply Lk.there; first | with_reducible exact Lk.here | (with_reducible apply Lk.there; first | with_reducible exact Lk.here | (with_reducible apply Lk.there; first | with_reducible exact Lk.here | (with_reducible apply Lk.there; first | with_reducible exact Lk.here | (with_reducible apply Lk.there; first | with_reducible exact Lk.here | (with_reducible apply Lk.there; first | with_reducible exact Lk.here | (with_reducible apply Lk.there; first | with_reducible exact Lk.here | (with_reducible apply Lk.there; first | with_reducible exact Lk.here | (with_reducible apply Lk.there; first | with_reducible exact Lk.here | (with_reducible apply Lk.there; first | with_reducible exact Lk.here | (with_reducible apply Lk.there; first | with_reducible exact Lk.here | (with_reducible apply Lk.there; first | with_reducible exact Lk.here | (with_reducible apply Lk.there; first | with_reducible exact Lk.here | (with_reducible apply Lk.there; first | with_reducible exact Lk.here | (with_reducible apply Lk.there; first | with_reducible exact Lk.here | (with_reducible apply Lk.there; first | with_reducible exact Lk.here | (with_reducible apply Lk.there; first | with_reducible exact Lk.here | (with_reducible apply Lk.there; first | with_reducible exact Lk.here | (with_reducible apply Lk.there; first | with_reducible exact Lk.here | (with_reducible apply Lk.there; first | with_reducible exact Lk.here | (with_reducible apply Lk.there; first | with_reducible exact Lk.here | (with_reducible apply Lk.there; first | with_reducible exact Lk.here | (with_reducible apply Lk.there; first | with_reducible exact Lk.here | (with_reducible apply Lk.there; first | with_reducible exact Lk.here | (with_reducible apply Lk.there; fail))))))))))))))))))))))))))))))))))))
local macro_rules | `(tactic| walk_at "up") => `(tactic| (first | with_reducible exact Up.here | (with_reducible apply Up.there; first | with_reducible exact Up.here | (with_reducible apply Up.there; first | with_reducible exact Up.here | (with_reducible apply Up.there; first | with_reducible exact Up.here | (with_reducible apply Up.there; first | with_reducible exact Up.here | (with_reducible apply Up.there; first | with_reducible exact Up.here | (with_reducible apply Up.there; first | with_reducible exact Up.here | (with_reducible apply Up.there; first | with_reducible exact Up.here | (with_reducible apply Up.there; first | with_reducible exact Up.here | (with_reducible apply Up.there; first | with_reducible exact Up.here | (with_reducible apply Up.there; first | with_reducible exact Up.here | (with_reducible apply Up.there; first | with_reducible exact Up.here | (with_reducible apply Up.there; first | with_reducible exact Up.here | (with_reducible apply Up.there; first | with_reducible exact Up.here | (with_reducible apply Up.there; first | with_reducible exact Up.here | (with_reducible apply Up.there; first | with_reducible exact Up.here | (with_reducible apply Up.there; first | with_reducible exact Up.here | (with_reducible apply Up.there; first | with_reducible exact Up.here | (with_reducible apply Up.there; first | with_reducible exact Up.here | (with_reducible apply Up.there; first | with_reducible exact Up.here | (with_reducible apply Up.there; first | with_reducible exact Up.here | (with_reducible apply Up.there; first | with_reducible exact Up.here | (with_reducible apply Up.there; first | with_reducible exact Up.here | (with_reducible apply Up.there; first | with_reducible exact Up.here | (with_reducible apply Up.there; first | with_reducible exact Up.here | (with_reducible apply Up.there; first | with_reducible exact Up.here | (with_reducible apply Up.there; first | with_reducible exact Up.here | (with_reducible apply Up.there; first | with_reducible exact Up.here | (with_reducible apply Up.there; first | with_reducible exact Up.here | (with_reducible apply Up.there; first | with_reducible exact Up.here | (with_reducible apply Up.there; first | with_reducible exact Up.here | (with_reducible apply Up.there; first | with_reducible exact Up.here | (with_reducible apply Up.there; first | with_reducible exact Up.here | (with_reducible apply Up.there; first | with_reducible exact Up.here | (with_reducible apply Up.there; fail))))))))))))))))))))))))))))))))))))
local macro_rules | `(tactic| walk_at "in") => `(tactic| (first | with_reducible exact List.mem_cons_self | (with_reducible apply List.mem_cons_of_mem; first | with_reducible exact List.mem_cons_self | (with_reducible apply List.mem_cons_of_mem; first | with_reducible exact List.mem_cons_self | (with_reducible apply List.mem_cons_of_mem; first | with_reducible exact List.mem_cons_self | (with_reducible apply List.mem_cons_of_mem; first | with_reducible exact List.mem_cons_self | (with_reducible apply List.mem_cons_of_mem; first | with_reducible exact List.mem_cons_self | (with_reducible apply List.mem_cons_of_mem; first | with_reducible exact List.mem_cons_self | (with_reducible apply List.mem_cons_of_mem; first | with_reducible exact List.mem_cons_self | (with_reducible apply List.mem_cons_of_mem; first | with_reducible exact List.mem_cons_self | (with_reducible apply List.mem_cons_of_mem; first | with_reducible exact List.mem_cons_self | (with_reducible apply List.mem_cons_of_mem; first | with_reducible exact List.mem_cons_self | (with_reducible apply List.mem_cons_of_mem; first | with_reducible exact List.mem_cons_self | (with_reducible apply List.mem_cons_of_mem; first | with_reducible exact List.mem_cons_self | (with_reducible apply List.mem_cons_of_mem; first | with_reducible exact List.mem_cons_self | (with_reducible apply List.mem_cons_of_mem; first | with_reducible exact List.mem_cons_self | (with_reducible apply List.mem_cons_of_mem; first | with_reducible exact List.mem_cons_self | (with_reducible apply List.mem_cons_of_mem; first | with_reducible exact List.mem_cons_self | (with_reducible apply List.mem_cons_of_mem; first | with_reducible exact List.mem_cons_self | (with_reducible apply List.mem_cons_of_mem; first | with_reducible exact List.mem_cons_self | (with_reducible apply List.mem_cons_of_mem; first | with_reducible exact List.mem_cons_self | (with_reducible apply List.mem_cons_of_mem; first | with_reducible exact List.mem_cons_self | (with_reducible apply List.mem_cons_of_mem; first | with_reducible exact List.mem_cons_self | (with_reducible apply List.mem_cons_of_mem; first | with_reducible exact List.mem_cons_self | (with_reducible apply List.mem_cons_of_mem; first | with_reducible exact List.mem_cons_self | (with_reducible apply List.mem_cons_of_mem; first | with_reducible exact List.mem_cons_self | (with_reducible apply List.mem_cons_of_mem; first | with_reducible exact List.mem_cons_self | (with_reducible apply List.mem_cons_of_mem; first | with_reducible exact List.mem_cons_self | (with_reducible apply List.mem_cons_of_mem; first | with_reducible exact List.mem_cons_self | (with_reducible apply List.mem_cons_of_mem; first | with_reducible exact List.mem_cons_self | (with_reducible apply List.mem_cons_of_mem; first | with_reducible exact List.mem_cons_self | (with_reducible apply List.mem_cons_of_mem; first | with_reducible exact List.mem_cons_self | (with_reducible apply List.mem_cons_of_mem; first | with_reducible exact List.mem_cons_self | (with_reducible apply List.mem_cons_of_mem; first | with_reducible exact List.mem_cons_self | (with_reducible apply List.mem_cons_of_mem; first | with_reducible exact List.mem_cons_self | (with_reducible apply List.mem_cons_of_mem; fail))))))))))))))))))))))))))))))))))))
local macro_rules | `(tactic| walk_at "bin2") => `(tactic| first
  | with_reducible exact Bin2.add | with_reducible exact Bin2.sub | with_reducible exact Bin2.addB | with_reducible exact Bin2.mulR (by decide) | with_reducible exact Bin2.mulL (by decide) | with_reducible exact Bin2.mulL (by assumption) | with_reducible exact Bin2.fdivP (by decide) (by decide) | with_reducible exact Bin2.modP (by decide) | with_reducible exact Bin2.cat (by assumption))
local macro_rules | `(tactic| walk_at "cmp2") => `(tactic| first
  | with_reducible exact Cmp2.eqI | with_reducible exact Cmp2.neI | with_reducible exact Cmp2.ltI | with_reducible exact Cmp2.leI | with_reducible exact Cmp2.gtI | with_reducible exact Cmp2.geI | with_reducible exact Cmp2.neBB | ((with_reducible apply Cmp2.eq8); (· walk_at "asc"); (· walk_at "asc")) | ((with_reducible apply Cmp2.ne8); (· walk_at "asc"); (· walk_at "asc")) | with_reducible exact Cmp2.eqBy | with_reducible exact Cmp2.neBy | with_reducible exact Cmp2.eqS | with_reducible exact Cmp2.isNN | with_reducible exact Cmp2.isNotNN | with_reducible exact Cmp2.isN rfl | with_reducible exact Cmp2.isNotN rfl)
local macro_rules | `(tactic| walk_at "truth") => `(tactic| first
  | with_reducible exact Truth.bool | with_reducible exact Truth.none | with_reducible exact Truth.int | ((with_reducible apply Truth.by8); omega) | with_reducible exact Truth.str (by assumption) | with_reducible exact Truth.bytes (by assumption))
local macro_rules | `(tactic| walk_at "item") => `(tactic| first | assumption | apply_assumption -exfalso -symm | (exact Item.list (by assumption) (by omega) (by omega) rfl))
local macro_rules | `(tactic| walk_at "keep") => `(tactic| first | with_reducible exact KeepOk.builtin | with_reducible exact KeepOk.type | exact KeepOk.own rfl)
local macro_rules | `(tactic| walk_at "call") => `(tactic| first
  | ((with_reducible apply CallT.len8); omega) | ((with_reducible apply CallT.isdigit8); walk_at "asc") | ((with_reducible apply CallT.decode8); (· walk_at "asc"); (· omega))
  | ((with_reducible apply CallT.lenB); assumption) | ((with_reducible apply CallT.lenS); assumption) | with_reducible exact CallT.isStrS | with_reducible exact CallT.isdigit
  | ((with_reducible apply CallT.of); (· first | assumption | apply_assumption -exfalso -symm); (· exact Fx.fit.id (Sh.fit ‹Sh _ _ _›) (Nat.le_of_ble_eq_true rfl)))
  | assumption
  | apply_assumption -exfalso -symm)
local macro_rules | `(tactic| walk_at "evl") => `(tactic| first | with_reducible exact EvL.nil | ((with_reducible apply EvL.cons); (· walk_at "ev"); (· walk_at "evl"); (· rfl)))
local macro_rules | `(tactic| walk_at "evk") => `(tactic| first | with_reducible exact EvK.nil | ((with_reducible apply EvK.cons); (· walk_at "ev"); (· walk_at "evk")))
local macro_rules | `(tactic| walk_at "evo") => `(tactic| first | exact EvO.none | ((apply EvO.some); walk_at "ev"))
local macro_rules | `(tactic| walk_at "asc") => `(tactic| first | assumption | exact sl_asc ‹_› _ _ | exact Asc.drop ‹_› _ | exact Asc.take ‹_› _ | (unfold Mine.Asc; decide))
local macro_rules | `(tactic| walk_at "cut") => `(tactic| first
  | ((with_reducible apply Cut.sl8); (· omega); (· omega); (· omega)) | ((with_reducible apply Cut.from8); (· omega); (· omega)) | ((with_reducible apply Cut.upto8); (· omega); (· omega)))
local macro_rules | `(tactic| walk_at "dz") => `(tactic| first | exact log2_small (by omega))
local macro_rules | `(tactic| walk_at "pct") => `(tactic| first
  | exact Pct.nil
  | ((refine Pct.lit rfl rfl (by decide) (by decide) ?_); walk_at "pct")
  | ((refine Pct.dec0 ?_ ?_); (· walk_at "dz"); (· walk_at "pct"))
  | ((refine Pct.dec (by decide) ?_ ?_); (· walk_at "dz"); (· walk_at "pct"))
  | ((refine Pct.rep ?_ ?_); (· first | assumption | (apply_assumption)); (· walk_at "pct"))
  | ((refine Pct.str ?_); walk_at "pct"))
local macro_rules | `(tactic| walk_at "meth") => `(tactic| first
  | with_reducible exact Meth.bytesIsdigit | with_reducible exact Meth.decode | with_reducible exact Meth.encode
  | ((with_reducible apply Meth.inst ‹Wd.Ok _›); (· walk_at "get"); (· rfl); (· rfl); (· rfl); (· rfl)))
local macro_rules | `(tactic| walk_at "get") => `(tactic| first | assumption | exact get_last | ((refine get_set (o := ?_) ?_); rotate_left; walk_at "get") | ((refine Ext.get Ext.add ?_); walk_at "get"))
local macro_rules | `(tactic| walk_at "gattr") => `(tactic| first
  | ((with_reducible apply Get.ownA ‹Wd.Ok _›); (· walk_at "get"); (· rfl); (· rfl); (· rfl); (· rfl); (· rfl); (· first | rfl | assumption))
  | ((with_reducible apply Get.cls ‹Wd.Ok _›); (· walk_at "get"); (· rfl); (· rfl); (· rfl); (· rfl); (· rfl); (· rfl); (· rfl); (· exact fun ρ => ⟨_, rfl⟩)))
local macro_rules | `(tactic| walk_at "ev") => `(tactic| first
  | ((with_reducible show Ev _ _ (Expr.Name _ _) _ _ _ _); first | ((with_reducible apply Ev.lcA); (· assumption); (· walk_at "lk"); (· first | rfl | assumption)) | ((with_reducible apply Ev.glI); (· assumption); (· assumption); (· walk_at "in")) | ((with_reducible apply Ev.glA); (· assumption); (· assumption); (· walk_at "in")) | fail)
  | ((with_reducible show Ev _ _ (Expr.Constant _ _ _) _ _ _ _); first | with_reducible exact Ev.int | with_reducible exact Ev.str | ((with_reducible apply Ev.by8A); (first | exact (rfl : _ = Mine.by8 [45]) | exact (rfl : _ = Mine.by8 [58]) | exact (rfl : _ = Mine.by8 [87]) | exact (rfl : _ = Mine.by8 [45, 43, 90, 122]) | exact (rfl : _ = Mine.by8 []) | exact (rfl : _ = Mine.by8 [46]) | exact (rfl : _ = Mine.by8 [44]) | exact (rfl : _ = Mine.by8 [90]) | exact (rfl : _ = Mine.by8 [122]) | exact (rfl : _ = Mine.by8 [43]))) | with_reducible exact Ev.bytes | with_reducible exact Ev.nil | with_reducible exact Ev.bool | fail)
  | ((with_reducible show Ev _ _ (Expr.Attribute _ _ _) _ _ _ _); (with_reducible apply Ev.attr); (· walk_at "ev"); (· walk_at "gattr"); (· rfl))
  | ((with_reducible show Ev _ _ (Expr.BinOp _ _ _ _) _ _ _ _); (with_reducible apply Ev.bin); (· walk_at "ev"); (· walk_at "ev"); (· walk_at "bin2"))
  | ((with_reducible show Ev _ _ (Expr.Compare _ _ _ _) _ _ _ _); (with_reducible apply Ev.cmp); (· walk_at "ev"); (· walk_at "ev"); (· walk_at "cmp2"); (· rfl))
  | ((with_reducible show Ev _ _ (Expr.UnaryOp _ _ _) _ _ _ _); (with_reducible apply Ev.neg); (· walk_at "ev"))
  | ((with_reducible show Ev _ _ (Expr.BoolOp _ _ _) _ _ _ _); first
    | ((with_reducible apply Ev.andB); (· walk_at "ev"); (· (intro _; walk_at "ev")))
    | ((with_reducible apply Ev.orB); (· walk_at "ev"); (· (intro _; walk_at "ev")))
    | ((with_reducible apply Ev.and2); (· walk_at "ev"); (· walk_at "truth"); (· (intro _; walk_at "ev")))
    | ((with_reducible apply Ev.or2); (· walk_at "ev"); (· walk_at "truth"); (· (intro _; walk_at "ev"))) | fail)
  | ((with_reducible show Ev _ _ (Expr.Call _ _ _ _) _ _ _ _); first
    | ((with_reducible apply Ev.methA); (· assumption); (· walk_at "ev"); (· walk_at "meth"); (· walk_at "keep"); (· walk_at "evl"); (· walk_at "evk"); (· exact List.singleton_append); (· walk_at "call"); (· rfl); (· exact ⟨_, rfl⟩))
    | ((with_reducible apply Ev.callT); (· assumption); (· walk_at "ev"); (· walk_at "keep"); (· walk_at "evl"); (· walk_at "evk"); (· walk_at "call"); (· rfl); (· rfl)) | fail)
  | ((with_reducible show Ev _ _ (Expr.Subscript _ _ _) _ _ _ _); first
    | ((with_reducible apply Ev.cut); (· walk_at "ev"); (· walk_at "evo"); (· walk_at "evo"); (· walk_at "cut"))
    | ((with_reducible apply Ev.sub); (· walk_at "ev"); (· walk_at "ev"); (· walk_at "item"); (· rfl)) | fail)
  | ((with_reducible show Ev _ _ (Expr.Tuple _ _ _) _ _ _ _); (with_reducible apply Ev.tuple); (· walk_at "evl"); (· exact Nat.le_of_ble_eq_true rfl))
  | ((with_reducible show Ev _ _ (Expr.List _ _) _ _ _ _); (with_reducible apply Ev.list); (· walk_at "evl"); (· exact Nat.le_of_ble_eq_true rfl))
  | fail)
local macro_rules | `(tactic| walk_at "bt") => `(tactic| first
  | ((with_reducible show Bt _ _ (Expr.Compare _ _ _ _) _ _ _ _); first
    | ((with_reducible apply Bt.cmpA); (· walk_at "ev"); (· walk_at "ev"); (· walk_at "cmp2"); (· rfl))
    | ((with_reducible apply Bt.chain); (· walk_at "ev"); (· walk_at "ev"); (· walk_at "cmp2"); (· (intro _; walk_at "ev")); (· (intro _; walk_at "cmp2")); (· rfl)) | fail)
  | ((with_reducible show Bt _ _ (Expr.UnaryOp _ _ _) _ _ _ _); (with_reducible apply Bt.not); (· walk_at "bt"))
  | ((with_reducible show Bt _ _ (Expr.BoolOp _ _ _) _ _ _ _); first
    | ((with_reducible apply Bt.and2); (· walk_at "bt"); (· (intro _; walk_at "bt")))
    | ((with_reducible apply Bt.or2); (· walk_at "bt"); (· (intro _; walk_at "bt")))
    | ((with_reducible apply Bt.andN); (· walk_at "bt"); (· (intro _; walk_at "bt")))
    | ((with_reducible apply Bt.orN); (· walk_at "bt"); (· (intro _; walk_at "bt"))) | fail)
  | ((with_reducible apply Bt.plain); (· walk_at "ev"); (· walk_at "truth"); (· (intro _; rfl)))
  | fail)
local macro_rules | `(tactic| walk_at "inv") => `(tactic| (intro s ρ xs ks X rx rk; (repeat (rcases rx with _ | ⟨r1, rx⟩)); (repeat (rcases rk with _ | ⟨k1, rk⟩))))
local macro_rules | `(tactic| walk_at "reps") => `(tactic| (repeat (first | exact RepL.nil | (refine RepL.cons ?_ ?_; (· first | assumption | exact ⟨_, rfl⟩ | exact rfl)))))
local macro_rules | `(tactic| walk_at "hb1") => `(tactic| (walk_at "inv"; refine ⟨[_], kp_binds ‹Frag.In _ _› (fun S => rfl), ?_⟩; walk_at "reps"))
local macro_rules | `(tactic| walk_at "hb2") => `(tactic| (walk_at "inv"; refine ⟨[_, _], kp_binds ‹Frag.In _ _› (fun S => rfl), ?_⟩; walk_at "reps"))
local macro_rules | `(tactic| walk_at "hb3") => `(tactic| (walk_at "inv"; refine ⟨[_, _, _], kp_binds ‹Frag.In _ _› (fun S => rfl), ?_⟩; walk_at "reps"))
local macro_rules | `(tactic| walk_at "hb4") => `(tactic| (walk_at "inv"; refine ⟨[_, _, _, _], kp_binds ‹Frag.In _ _› (fun S => rfl), ?_⟩; walk_at "reps"))
local macro_rules | `(tactic| walk_at "hb5") => `(tactic| (walk_at "inv"; refine ⟨[_, _, _, _, _], kp_binds ‹Frag.In _ _› (fun S => rfl), ?_⟩; walk_at "reps"))
local macro_rules | `(tactic| walk_at "hb6") => `(tactic| (walk_at "inv"; refine ⟨[_, _, _, _, _, _], kp_binds ‹Frag.In _ _› (fun S => rfl), ?_⟩; walk_at "reps"))
local macro_rules | `(tactic| walk_at "asg") => `(tactic| ((with_reducible apply XP.step); (· (intro _ _; (with_reducible apply Ex1.asgA ‹Sh _ _ _›); (· walk_at "ev"); (· walk_at "up"); (· rfl)))))
local macro_rules | `(tactic| walk_at "ret") => `(tactic| ((with_reducible apply XP.ret); (· (intro _ _; walk_at "ev"))))
local macro_rules | `(tactic| walk_at "ite") => `(tactic| ((with_reducible apply XP.ite); (· (intro _ _; walk_at "bt")); (all_goals (try simp only [List.cons_append, List.nil_append]))))

local macro_rules | `(tactic| walk_at "raiseV") => `(tactic| ((with_reducible apply XP.exc); (· (intro _ _; (with_reducible apply Ex1.raiseA ‹Wd.Ok _› ‹Sh _ _ _› F.excCall_ValueError F.excRaise_ValueError); (· walk_at "in"); (· walk_at "evl"); (· exact Nat.le_of_ble_eq_true rfl); (· rfl)))))
local macro_rules | `(tactic| walk_at "raiseO") => `(tactic| ((with_reducible apply XP.exc); (· (intro _ _; (with_reducible apply Ex1.raiseA ‹Wd.Ok _› ‹Sh _ _ _› F.excCall_OverflowError F.excRaise_OverflowError); (· walk_at "in"); (· walk_at "evl"); (· exact Nat.le_of_ble_eq_true rfl); (· rfl)))))
local macro_rules | `(tactic| walk_at "set") => `(tactic| ((with_reducible apply XP.step); (· (intro _ _; (with_reducible apply Ex1.setA ‹Wd.Ok _›); (· walk_at "ev"); (· walk_at "ev"); (· walk_at "get"); (· rfl); (· exact Nat.le_of_ble_eq_true rfl); (· rfl); (· rfl); (· rfl)))))
local macro_rules | `(tactic| walk_at "setAt") => `(tactic| ((with_reducible apply XP.step); (· (intro _ _; (with_reducible apply Ex1.setAtL); (· walk_at "ev"); (· walk_at "ev"); (· walk_at "ev"); (· walk_at "get"); (· decide); (· decide); (· rfl); (· rfl); (· rfl)))))
local macro_rules | `(tactic| walk_at "setAtE") => `(tactic| ((with_reducible apply XP.exc); (· (intro _ _; (with_reducible apply Ex1.setAtE); (· walk_at "ev"); (· rfl)))))
local macro_rules | `(tactic| walk_at "asgE") => `(tactic| ((with_reducible apply XP.exc); (· (intro _ _; (with_reducible apply Ex1.asgEA); (· walk_at "ev"); (· rfl)))))
local macro_rules | `(tactic| walk_at "retE") => `(tactic| ((with_reducible apply XP.retE); (· (intro _ _; walk_at "ev"))))
local macro_rules | `(tactic| walk_at "aug2") => `(tactic| first | with_reducible exact Aug2.addI | with_reducible exact Aug2.addB)
local macro_rules | `(tactic| walk_at "aug") => `(tactic| ((with_reducible apply XP.step); (· (intro _ _; (with_reducible apply Ex1.augA ‹Sh _ _ _›); (· walk_at "lk"); (· rfl); (· walk_at "ev"); (· walk_at "aug2"); (· walk_at "up")))))
local macro_rules | `(tactic| walk_at "expr") => `(tactic| ((with_reducible apply XP.step); (· (intro _ _; (with_reducible apply Ex1.expr ‹Sh _ _ _›); (· walk_at "ev"); (· rfl)))))
local macro_rules | `(tactic| walk_at "exprE") => `(tactic| ((with_reducible apply XP.exc); (· (intro _ _; (with_reducible apply Ex1.exprE ‹Sh _ _ _›); (· walk_at "ev"); (· rfl)))))
section
set_option Elab.async false
set_option maxRecDepth 100000
set_option linter.unusedVariables false
open PySem PySem.Spec PySem.Calls PyProof.Rows PySem.W
variable {q : Pk}
def leap (y : Int) : Bool := y % 4 == 0 && (y % 100 != 0 || y % 400 == 0)
theorem isleap_ (ok : (C1 q).Ok) (z : Bool) (y : Int) (st : Sto) : Calls (C1 q) z 1 (.glob (.ref 29)) [.int y] [] st (.ok (.bool (leap y))) st := Calls.of <| by
  refine Calls.defX (c := C1 q) (f := 29) (binds := [.int y]) 1 ["year"] [] z 0 [.int y] ok rfl rfl rfl rfl ?_ rfl (by decide) rfl ?_
  · walk_at "hb1"
  · walk_at "ret"
    exact ⟨_, rfl, rfl, rfl⟩
def pastL : List Int := [0, 0, 31, 59, 90, 120, 151, 181, 212, 243, 273, 304, 334, 365]
def bi (b : Bool) : Int := if b = true then 1 else 0
def before (y mo : Int) : Int := (y - 1) * 365 + (y - 1) / 4 - (y - 1) / 100 + (y - 1) / 400 + pastL.getD mo.toNat 0 + bi (decide (mo > 2) && leap y)
theorem past_ (ok : (C1 q).Ok) {fr : Fx} {st : Sto} {i : Int} (h0 : 0 ≤ i) (h1 : i < 14) : Item (C1 q) fr st (.glob (.ref 22)) (.int i) (.ok (.int (pastL.getD i.toNat 0))) st :=
  Item.ints (c := C1 q) ok rfl rfl rfl (by walk_at "reps") h0 h1 (by decide)

theorem before_ (ok : (C1 q).Ok) (z : Bool) (y mo : Int) (h0 : 0 ≤ mo) (h1 : mo < 14) (st : Sto) : Calls (C1 q) z 2 (.glob (.ref 36)) [.int y, .int mo] [] st (.ok (.int (before y mo))) st := Calls.of <| by
  refine Calls.defX (c := C1 q) (f := 36) (binds := [.int y, .int mo]) 2 ["year", "month", "past"] [("_PAST", .ref 22), ("isleap", .ref 29)] z 1 [.int y, .int mo, .undef] ok rfl rfl rfl rfl ?_ rfl (by decide) rfl ?_
  · walk_at "hb2"
  · have hc := isleap_ ok z y st
    have hp := fun fr => past_ (fr := fr) (st := st) ok h0 h1
    walk_at "asg"
    walk_at "ret"
    exact ⟨_, rfl, rfl, rfl⟩

def length (y mo : Int) : Int := pastL.getD (mo + 1).toNat 0 - pastL.getD mo.toNat 0 + bi (mo == 2 && leap y)
theorem length_ (ok : (C1 q).Ok) (z : Bool) (y mo : Int) (st : Sto) : Calls (C1 q) z 2 (.glob (.ref 43)) [.int y, .int mo] [] st (if 1 ≤ mo ∧ mo ≤ 12 then .ok (.int (length y mo)) else .exc ⟨"ValueError", z⟩) st := Calls.of <| by
  refine Calls.defX (c := C1 q) (f := 43) (binds := [.int y, .int mo]) 2 ["year", "month"] [("_PAST", .ref 22), ("isleap", .ref 29), ("ValueError", .type "ValueError")] z 1 [.int y, .int mo] ok rfl rfl rfl rfl ?_ rfl (by decide) rfl ?_
  · walk_at "hb2"
  · have hc := isleap_ ok z y st
    walk_at "ite"
    · intro ht
      walk_at "raiseV"
      refine ⟨_, rfl, ?_, rfl⟩
      rw [if_neg (show ¬ (1 ≤ mo ∧ mo ≤ 12) by simp at ht; omega)]
    · intro ht
      have h1 : 1 ≤ mo := by simp at ht; omega
      have h2 : mo ≤ 12 := by simp at ht; omega
      have hp := fun fr => past_ (fr := fr) (st := st) ok (i := mo) (by omega) (by omega)
      have hp2 := fun fr => past_ (fr := fr) (st := st) ok (i := mo + 1) (by omega) (by omega)
      walk_at "ret"
      refine ⟨_, rfl, ?_, rfl⟩
      rw [if_pos (show 1 ≤ mo ∧ mo ≤ 12 from ⟨h1, h2⟩)]
      rfl
end
section
set_option Elab.async false
set_option maxRecDepth 100000
set_option maxHeartbeats 4000000
set_option simprocs false
set_option linter.unusedVariables false
open PySem PySem.Spec PySem.Calls PyProof.Rows PySem.W
variable {q : Pk}
theorem held_ (ok : (C1 q).Ok) (z : Bool) (n : Int) (st : Sto) : Calls (C1 q) z 1 (.glob (.ref 50)) [.int n] [] st (if 1 ≤ n ∧ n ≤ 3652059 then .ok (.int n) else .exc ⟨"OverflowError", z⟩) st := Calls.of <| by
  refine Calls.defX (c := C1 q) (f := 50) (binds := [.int n]) 1 ["n"] [("OverflowError", .type "OverflowError")] z 0 [.int n] ok rfl rfl rfl rfl ?_ rfl (by decide) rfl ?_
  · walk_at "hb1"
  · walk_at "ite"
    · intro ht
      walk_at "raiseO"
      refine ⟨_, rfl, ?_, rfl⟩
      rw [if_neg (show ¬ (1 ≤ n ∧ n ≤ 3652059) by simp at ht; omega)]
    · intro ht
      walk_at "ret"
      refine ⟨_, rfl, ?_, rfl⟩
      rw [if_pos (show 1 ≤ n ∧ n ≤ 3652059 by simp at ht; omega)]
def clockOk (h m s u : Int) : Prop := (0 ≤ h ∧ h ≤ 23) ∧ (0 ≤ m ∧ m ≤ 59) ∧ (0 ≤ s ∧ s ≤ 59) ∧ (0 ≤ u ∧ u ≤ 999999)
instance (h m s u : Int) : Decidable (clockOk h m s u) := by unfold clockOk; infer_instance
theorem clock_ (ok : (C1 q).Ok) (z : Bool) (h m s u : Int) (st : Sto) : Calls (C1 q) z 1 (.glob (.ref 57)) [.int h, .int m, .int s, .int u] [] st (if clockOk h m s u then .ok .none else .exc ⟨"ValueError", z⟩) st := Calls.of <| by
  refine Calls.defX (c := C1 q) (f := 57) (binds := [.int h, .int m, .int s, .int u]) 4 ["hour", "minute", "second", "microsecond"] [("ValueError", .type "ValueError")] z 0 [.int h, .int m, .int s, .int u] ok rfl rfl rfl rfl ?_ rfl (by decide) rfl ?_
  · walk_at "hb4"
  · walk_at "ite"
    · intro ht
      walk_at "raiseV"
      refine ⟨_, rfl, ?_, rfl⟩
      rw [if_neg (show ¬ clockOk h m s u by unfold clockOk; simp at ht; omega)]
    · intro ht
      with_reducible apply XP.nil
      refine ⟨_, rfl, ?_, rfl⟩
      rw [if_pos (show clockOk h m s u by unfold clockOk; simp at ht; omega)]
end
section
set_option Elab.async false
set_option maxRecDepth 100000
set_option maxHeartbeats 4000000
set_option simprocs false
set_option linter.unusedVariables false
open PySem PySem.Spec PySem.Calls PyProof.Rows PySem.W
variable {q : Pk}
abbrev td (d s u : Int) : MObj := .inst 124 [("days", .int d), ("seconds", .int s), ("microseconds", .int u)]
def tdS (s us mi h : Int) : Int := s + mi * 60 + h * 3600 + us / 1000000
theorem tdInit (ok : (C1 q).Ok) (z : Bool) {n : Nat} {d s us mi h : Int} {st : Sto} {args : List V} {kw : List (Str × V)} (hn : st[n]? = some (.inst 124 []))
    (hbind : ∀ (sh : Shared) (ρ : Rho) (xs ks : List Value), (C1 q).K.In sh.heap → RepL ρ xs args → RepL ρ ks (kw.map (·.2)) → ∀ fd, (∃ oc od osl, (C1 q).K.lookup 79 = some ⟨oc, od, .func fd, osl⟩) → ∃ ys, BindsTo sh fd ⟨xs, (kw.map (·.1)).zip ks⟩ ((["self", "days", "seconds", "microseconds", "minutes", "hours"] : List Str).zip ys) ∧ RepL ρ ys [.obj n, .int d, .int s, .int us, .int mi, .int h])
    (hd : -999999999 ≤ d + tdS s us mi h / 86400 ∧ d + tdS s us mi h / 86400 ≤ 999999999) :
    Calls (C1 q) z 1 (.glob (.ref 79)) args kw st (.ok .none) (st.set n (td (d + tdS s us mi h / 86400) (tdS s us mi h % 86400) (us % 1000000))) := Calls.of <| by
  refine Calls.defX (c := C1 q) (f := 79) (binds := [.obj n, .int d, .int s, .int us, .int mi, .int h]) 6 ["self", "days", "seconds", "microseconds", "minutes", "hours"] [("OverflowError", .type "OverflowError")] z 0 [.obj n, .int d, .int s, .int us, .int mi, .int h] ok rfl rfl rfl rfl ?_ rfl (by decide) rfl ?_
  · intro sh ρ xs ks X rx rk
    exact hbind sh ρ xs ks X rx rk _ ⟨_, _, _, rfl⟩
  · walk_at "asg"
    walk_at "set"
    walk_at "set"
    walk_at "set"
    walk_at "ite"
    · intro ht
      exfalso
      unfold tdS at hd
      simp at ht
      omega
    · intro ht
      with_reducible apply XP.nil
      refine ⟨_, rfl, rfl, ?_⟩
      simp only [List.set_set]
      rfl
end
section
set_option Elab.async false
set_option maxRecDepth 100000
set_option maxHeartbeats 4000000
set_option simprocs false
set_option linter.unusedVariables false
open PySem PySem.Spec PySem.Calls PyProof.Rows PySem.W
variable {q : Pk}
theorem tdDays (ok : (C1 q).Ok) (z : Bool) {d : Int} {st : Sto} (hd : -999999999 ≤ d ∧ d ≤ 999999999) : Calls (C1 q) z 2 (.glob (.ref 124)) [] [("days", .int d)] st (.ok (.obj st.length)) (st ++ [td d 0 0]) := by
  refine Calls.makeA ok rfl rfl rfl ?_
  have := tdInit ok z (n := st.length) (d := d) (s := 0) (us := 0) (mi := 0) (h := 0) (st := st ++ [.inst 124 []]) (args := [.obj st.length]) (kw := [("days", .int d)]) get_last ?_ (by simpa [tdS] using hd)
  · simpa [tdS, set_last] using this
  · rintro s ρ xs ks X rx rk fd ⟨oc, od, osl, h⟩
    cases h
    (repeat (rcases rx with _ | ⟨r1, rx⟩)); (repeat (rcases rk with _ | ⟨k1, rk⟩))
    refine ⟨[_, _, _, _, _, _], kp_binds ‹Frag.In _ _› (fun S => rfl), ?_⟩
    walk_at "reps"
theorem tdDay (ok : (C1 q).Ok) (z : Bool) {d : Int} {st : Sto} (hd : -999999999 ≤ d ∧ d ≤ 999999999) : Calls (C1 q) z 2 (.glob (.ref 124)) [.int d] [] st (.ok (.obj st.length)) (st ++ [td d 0 0]) := by
  refine Calls.makeA ok rfl rfl rfl ?_
  have := tdInit ok z (n := st.length) (d := d) (s := 0) (us := 0) (mi := 0) (h := 0) (st := st ++ [.inst 124 []]) (args := [.obj st.length, .int d]) (kw := []) get_last ?_ (by simpa [tdS] using hd)
  · simpa [tdS, set_last] using this
  · rintro s ρ xs ks X rx rk fd ⟨oc, od, osl, h⟩
    cases h
    (repeat (rcases rx with _ | ⟨r1, rx⟩)); (repeat (rcases rk with _ | ⟨k1, rk⟩))
    refine ⟨[_, _, _, _, _, _], kp_binds ‹Frag.In _ _› (fun S => rfl), ?_⟩
    walk_at "reps"
theorem tdSec (ok : (C1 q).Ok) (z : Bool) {s : Int} {st : Sto} (hd : -86400000 ≤ s ∧ s ≤ 86400000) : Calls (C1 q) z 2 (.glob (.ref 124)) [] [("seconds", .int s)] st (.ok (.obj st.length)) (st ++ [td (s / 86400) (s % 86400) 0]) := by
  refine Calls.makeA ok rfl rfl rfl ?_
  have := tdInit ok z (n := st.length) (d := 0) (s := s) (us := 0) (mi := 0) (h := 0) (st := st ++ [.inst 124 []]) (args := [.obj st.length]) (kw := [("seconds", .int s)]) get_last ?_ (by simp [tdS]; omega)
  · simpa [tdS, set_last] using this
  · rintro s ρ xs ks X rx rk fd ⟨oc, od, osl, h⟩
    cases h
    (repeat (rcases rx with _ | ⟨r1, rx⟩)); (repeat (rcases rk with _ | ⟨k1, rk⟩))
    refine ⟨[_, _, _, _, _, _], kp_binds ‹Frag.In _ _› (fun S => rfl), ?_⟩
    walk_at "reps"
theorem td3 (ok : (C1 q).Ok) (z : Bool) {d s u : Int} {st : Sto} (hd : -999999999 ≤ d + (s + u / 1000000) / 86400 ∧ d + (s + u / 1000000) / 86400 ≤ 999999999) : Calls (C1 q) z 2 (.glob (.ref 124)) [.int d, .int s, .int u] [] st (.ok (.obj st.length)) (st ++ [td (d + (s + u / 1000000) / 86400) ((s + u / 1000000) % 86400) (u % 1000000)]) := by
  refine Calls.makeA ok rfl rfl rfl ?_
  have := tdInit ok z (n := st.length) (d := d) (s := s) (us := u) (mi := 0) (h := 0) (st := st ++ [.inst 124 []]) (args := [.obj st.length, .int d, .int s, .int u]) (kw := []) get_last ?_ (by simpa [tdS] using hd)
  · simpa [tdS, set_last] using this
  · rintro s ρ xs ks X rx rk fd ⟨oc, od, osl, h⟩
    cases h
    (repeat (rcases rx with _ | ⟨r1, rx⟩)); (repeat (rcases rk with _ | ⟨k1, rk⟩))
    refine ⟨[_, _, _, _, _, _], kp_binds ‹Frag.In _ _› (fun S => rfl), ?_⟩
    walk_at "reps"
theorem total_ (ok : (C1 q).Ok) (z : Bool) {n : Nat} {d s u : Int} {st : Sto} (hn : st[n]? = some (td d s u)) : Calls (C1 q) z 1 (.glob (.ref 93)) [.obj n] [] st (.ok (.int (d * 86400 + s))) st := Calls.of <| by
  refine Calls.defX (c := C1 q) (f := 93) (binds := [.obj n]) 1 ["self"] [] z 0 [.obj n] ok rfl rfl rfl rfl ?_ rfl (by decide) rfl ?_
  · walk_at "hb1"
  · walk_at "ret"
    exact ⟨_, rfl, rfl, rfl⟩
end
section
set_option Elab.async false
set_option maxRecDepth 100000
set_option maxHeartbeats 4000000
set_option simprocs false
set_option linter.unusedVariables false
open PySem PySem.Spec PySem.Calls PyProof.Rows PySem.W
variable {q : Pk}
def dayOk (y mo d : Int) : Prop := (1 ≤ y ∧ y ≤ 9999) ∧ (1 ≤ mo ∧ mo ≤ 12) ∧ 1 ≤ d ∧ d ≤ length y mo
instance (y mo d : Int) : Decidable (dayOk y mo d) := by unfold dayOk; infer_instance
def dayF (y mo d : Int) : List (Str × V) := [("year", .int y), ("month", .int mo), ("day", .int d), ("_n", .int (before y mo + d))]
theorem dateInit (ok : (C1 q).Ok) (z : Bool) {C : Addr} (hC : C = 276 ∨ C = 380) {n : Nat} {y mo d : Int} {st : Sto} (hn : st[n]? = some (.inst C [])) :
    ∃ r st', Calls (C1 q) z 3 (.glob (.ref 185)) [.obj n, .int y, .int mo, .int d] [] st r st' ∧ (if dayOk y mo d then r = .ok .none ∧ st' = st.set n (.inst C (dayF y mo d)) else r = .exc ⟨"ValueError", z⟩ ∧ st' = st) := by
  refine Calls.defX (c := C1 q) (f := 185) (binds := [.obj n, .int y, .int mo, .int d]) 4 ["self", "year", "month", "day"] [("MAXYEAR", .int 9999 196), ("_length", .ref 43), ("ValueError", .type "ValueError"), ("_before", .ref 36)] z 2 [.obj n, .int y, .int mo, .int d] ok rfl rfl rfl rfl ?_ rfl (by decide) rfl ?_
  · walk_at "hb4"
  · have hl := length_ ok z y mo st
    by_cases h1 : 1 ≤ y ∧ y ≤ 9999
    · by_cases h2 : 1 ≤ d
      · by_cases h3 : 1 ≤ mo ∧ mo ≤ 12
        · rw [if_pos h3] at hl
          have hb := fun st => before_ (q := q) ok z y mo (by omega) (by omega) st
          walk_at "ite"
          · intro ht
            walk_at "raiseV"
            refine ⟨_, rfl, ?_⟩
            rw [if_neg (show ¬ dayOk y mo d by unfold dayOk; simp at ht; omega)]
            exact ⟨rfl, rfl⟩
          · intro ht
            rcases hC with rfl | rfl
            all_goals
              walk_at "set"
              walk_at "set"
              walk_at "set"
              walk_at "set"
              with_reducible apply XP.nil
              refine ⟨_, rfl, ?_⟩
              rw [if_pos (show dayOk y mo d by unfold dayOk; simp at ht; omega)]
              refine ⟨rfl, ?_⟩
              simp only [List.set_set]
              rfl
        · rw [if_neg h3] at hl
          apply XP.iteX (X := ⟨"ValueError", z⟩) (st₁ := st)
          · intro fr F
            refine Bt.or2E (Bt.conv (b' := false) (b := !(decide (1 ≤ y) && decide (y ≤ 9999))) (by walk_at "bt") (by simp; omega)) (Bt.notE (Bt.chainE3 (a := .int 1) (b := .int d) (st₁ := st) (st₂ := st) (by walk_at "ev") (by walk_at "ev") (Cmp2.leT h2) (by walk_at "ev") rfl))
          · refine ⟨_, rfl, ?_⟩
            rw [if_neg (show ¬ dayOk y mo d by unfold dayOk; omega)]
            exact ⟨rfl, rfl⟩
      · apply XP.ite (t := true) (st₁ := st)
        · intro fr F
          refine Bt.conv (Bt.or2 (d := true) (by walk_at "bt") fun _ => Bt.conv (Bt.not (Bt.chainF (a := .int 1) (b := .int d) (st₁ := st) (st₂ := st) (by walk_at "ev") (by walk_at "ev") (Cmp2.leF h2) rfl)) rfl) (by simp)
        · intro _
          simp only [List.cons_append, List.nil_append]
          walk_at "raiseV"
          refine ⟨_, rfl, ?_⟩
          rw [if_neg (show ¬ dayOk y mo d by unfold dayOk; omega)]
          exact ⟨rfl, rfl⟩
        · intro e; cases e
    · apply XP.ite (t := true) (st₁ := st)
      · intro fr F
        refine Bt.conv (Bt.or2 (d := true) (b := true) (Bt.conv (b := !(decide (1 ≤ y) && decide (y ≤ 9999))) (by walk_at "bt") (by simp; omega)) fun e => nomatch e) rfl
      · intro _
        simp only [List.cons_append, List.nil_append]
        walk_at "raiseV"
        refine ⟨_, rfl, ?_⟩
        rw [if_neg (show ¬ dayOk y mo d by unfold dayOk; omega)]
        exact ⟨rfl, rfl⟩
      · intro e; cases e
end
end
end Mine
section
set_option Elab.async false
set_option maxRecDepth 100000
set_option linter.unusedVariables false
namespace Mine
/-- days ahead of a year -/
def yb (y : Int) : Int := (y - 1) * 365 + (y - 1) / 4 - (y - 1) / 100 + (y - 1) / 400
theorem before_one (y : Int) : before y 1 = yb y := by
  unfold before yb bi
  simp [pastL]
theorem before_eq (y mo : Int) : before y mo = yb y + pastL.getD mo.toNat 0 + bi (decide (mo > 2) && leap y) := rfl
theorem leap_iff (y : Int) : leap y = true ↔ y % 4 = 0 ∧ (y % 100 ≠ 0 ∨ y % 400 = 0) := by
  unfold leap
  simp
theorem yb_succ (y : Int) : yb (y + 1) = yb y + 365 + bi (leap y) := by
  unfold yb bi
  by_cases h : leap y = true
  · rw [if_pos h]
    rw [leap_iff] at h
    omega
  · rw [if_neg h]
    rw [leap_iff] at h
    omega
def ordY (n : Int) : Int := (n - 1) * 400 / 146097 + 1 + bi (decide (yb ((n - 1) * 400 / 146097 + 1 + 1) < n))
theorem ordY_spec {n : Int} (h1 : 1 ≤ n) (h2 : n ≤ 3652059) : yb (ordY n) < n ∧ n ≤ yb (ordY n + 1) ∧ 1 ≤ ordY n ∧ ordY n ≤ 9999 := by
  obtain ⟨g, hg⟩ : ∃ g, g = (n - 1) * 400 / 146097 := ⟨_, rfl⟩
  have e : ordY n = g + 1 + bi (decide (yb (g + 1 + 1) < n)) := by rw [hg]; rfl
  have y1 : yb (g + 1) = g * 365 + g / 4 - g / 100 + g / 400 := by unfold yb; simp
  have y2 : yb (g + 1 + 1) = (g + 1) * 365 + (g + 1) / 4 - (g + 1) / 100 + (g + 1) / 400 := by unfold yb; simp
  have y3 : yb (g + 1 + 1 + 1) = (g + 2) * 365 + (g + 2) / 4 - (g + 2) / 100 + (g + 2) / 400 := by
    unfold yb
    rw [show g + 1 + 1 + 1 - 1 = g + 2 by omega]
  rw [e]
  unfold bi
  by_cases h : yb (g + 1 + 1) < n
  · rw [if_pos (decide_eq_true h), y2, y3]
    rw [y2] at h
    omega
  · rw [if_neg (by simpa using h), Int.add_zero, y1, y2]
    rw [y2] at h
    omega
end Mine
end
section
set_option Elab.async false
set_option maxRecDepth 100000
set_option linter.unusedVariables false
namespace Mine
def ordM0 (n : Int) : Int := (n - before (ordY n) 1 - 1) / 32 + 1
def ordM (n : Int) : Int := ordM0 n + bi (decide (ordM0 n < 12) && decide (before (ordY n) (ordM0 n + 1) < n))
def ordD (n : Int) : Int := n - before (ordY n) (ordM n)
theorem bi_cases (b : Bool) : bi b = 0 ∨ bi b = 1 := by cases b <;> simp [bi]
theorem bi_true {p : Prop} [Decidable p] (h : p) : bi (decide p) = 1 := by rw [decide_eq_true h]; rfl
theorem bi_false {p : Prop} [Decidable p] (h : ¬ p) : bi (decide p) = 0 := by rw [decide_eq_false h]; rfl
theorem bk1 (y : Int) : before y 1 = yb y + 0 + 0 := by
  rw [before_eq]
  show yb y + 0 + bi (false && leap y) = _
  rw [Bool.false_and]; rfl
theorem bk2 (y : Int) : before y 2 = yb y + 31 + 0 := by
  rw [before_eq]
  show yb y + 31 + bi (false && leap y) = _
  rw [Bool.false_and]; rfl
theorem bk3 (y : Int) : before y 3 = yb y + 59 + bi (leap y) := by
  rw [before_eq]
  show yb y + 59 + bi (true && leap y) = _
  rw [Bool.true_and]
theorem bk4 (y : Int) : before y 4 = yb y + 90 + bi (leap y) := by
  rw [before_eq]
  show yb y + 90 + bi (true && leap y) = _
  rw [Bool.true_and]
theorem bk5 (y : Int) : before y 5 = yb y + 120 + bi (leap y) := by
  rw [before_eq]
  show yb y + 120 + bi (true && leap y) = _
  rw [Bool.true_and]
theorem bk6 (y : Int) : before y 6 = yb y + 151 + bi (leap y) := by
  rw [before_eq]
  show yb y + 151 + bi (true && leap y) = _
  rw [Bool.true_and]
theorem bk7 (y : Int) : before y 7 = yb y + 181 + bi (leap y) := by
  rw [before_eq]
  show yb y + 181 + bi (true && leap y) = _
  rw [Bool.true_and]
theorem bk8 (y : Int) : before y 8 = yb y + 212 + bi (leap y) := by
  rw [before_eq]
  show yb y + 212 + bi (true && leap y) = _
  rw [Bool.true_and]
theorem bk9 (y : Int) : before y 9 = yb y + 243 + bi (leap y) := by
  rw [before_eq]
  show yb y + 243 + bi (true && leap y) = _
  rw [Bool.true_and]
theorem bk10 (y : Int) : before y 10 = yb y + 273 + bi (leap y) := by
  rw [before_eq]
  show yb y + 273 + bi (true && leap y) = _
  rw [Bool.true_and]
theorem bk11 (y : Int) : before y 11 = yb y + 304 + bi (leap y) := by
  rw [before_eq]
  show yb y + 304 + bi (true && leap y) = _
  rw [Bool.true_and]
theorem bk12 (y : Int) : before y 12 = yb y + 334 + bi (leap y) := by
  rw [before_eq]
  show yb y + 334 + bi (true && leap y) = _
  rw [Bool.true_and]
theorem lk1 (y : Int) : length y 1 = 31 := by
  unfold length
  show (31 : Int) - 0 + bi (false && leap y) = _
  rw [Bool.false_and]; rfl
theorem lk2 (y : Int) : length y 2 = 28 + bi (leap y) := by
  unfold length
  show (59 : Int) - 31 + bi (true && leap y) = _
  rw [Bool.true_and]; rfl
theorem lk3 (y : Int) : length y 3 = 31 := by
  unfold length
  show (90 : Int) - 59 + bi (false && leap y) = _
  rw [Bool.false_and]; rfl
theorem lk4 (y : Int) : length y 4 = 30 := by
  unfold length
  show (120 : Int) - 90 + bi (false && leap y) = _
  rw [Bool.false_and]; rfl
theorem lk5 (y : Int) : length y 5 = 31 := by
  unfold length
  show (151 : Int) - 120 + bi (false && leap y) = _
  rw [Bool.false_and]; rfl
theorem lk6 (y : Int) : length y 6 = 30 := by
  unfold length
  show (181 : Int) - 151 + bi (false && leap y) = _
  rw [Bool.false_and]; rfl
theorem lk7 (y : Int) : length y 7 = 31 := by
  unfold length
  show (212 : Int) - 181 + bi (false && leap y) = _
  rw [Bool.false_and]; rfl
theorem lk8 (y : Int) : length y 8 = 31 := by
  unfold length
  show (243 : Int) - 212 + bi (false && leap y) = _
  rw [Bool.false_and]; rfl
theorem lk9 (y : Int) : length y 9 = 30 := by
  unfold length
  show (273 : Int) - 243 + bi (false && leap y) = _
  rw [Bool.false_and]; rfl
theorem lk10 (y : Int) : length y 10 = 31 := by
  unfold length
  show (304 : Int) - 273 + bi (false && leap y) = _
  rw [Bool.false_and]; rfl
theorem lk11 (y : Int) : length y 11 = 30 := by
  unfold length
  show (334 : Int) - 304 + bi (false && leap y) = _
  rw [Bool.false_and]; rfl
theorem lk12 (y : Int) : length y 12 = 31 := by
  unfold length
  show (365 : Int) - 334 + bi (false && leap y) = _
  rw [Bool.false_and]; rfl
theorem ord_spec {n : Int} (h1 : 1 ≤ n) (h2 : n ≤ 3652059) : dayOk (ordY n) (ordM n) (ordD n) := by
  obtain ⟨a1, a2, a3, a4⟩ := ordY_spec h1 h2
  rw [yb_succ] at a2
  have hl := bi_cases (leap (ordY n))
  unfold ordD ordM
  have e0 : ordM0 n = (n - yb (ordY n) - 1) / 32 + 1 := by unfold ordM0; rw [before_one]
  generalize ordM0 n = m0 at *
  generalize ordY n = y at *
  have hm : m0 = 1 ∨ m0 = 2 ∨ m0 = 3 ∨ m0 = 4 ∨ m0 = 5 ∨ m0 = 6 ∨ m0 = 7 ∨ m0 = 8 ∨ m0 = 9 ∨ m0 = 10 ∨ m0 = 11 ∨ m0 = 12 := by omega
  unfold dayOk
  rcases hm with rfl | rfl | rfl | rfl | rfl | rfl | rfl | rfl | rfl | rfl | rfl | rfl
  · rw [show (((1 : Int) + 1)) = 2 from rfl, show decide ((1 : Int) < 12) = true from rfl, Bool.true_and]
    by_cases hb : before y 2 < n
    · rw [bi_true hb, show ((1 : Int) + 1) = 2 from rfl, bk2, lk2]
      rw [bk2] at hb
      omega
    · rw [bi_false hb, show ((1 : Int) + 0) = 1 from rfl, bk1, lk1]
      rw [bk2] at hb
      omega
  · rw [show (((2 : Int) + 1)) = 3 from rfl, show decide ((2 : Int) < 12) = true from rfl, Bool.true_and]
    by_cases hb : before y 3 < n
    · rw [bi_true hb, show ((2 : Int) + 1) = 3 from rfl, bk3, lk3]
      rw [bk3] at hb
      omega
    · rw [bi_false hb, show ((2 : Int) + 0) = 2 from rfl, bk2, lk2]
      rw [bk3] at hb
      omega
  · rw [show (((3 : Int) + 1)) = 4 from rfl, show decide ((3 : Int) < 12) = true from rfl, Bool.true_and]
    by_cases hb : before y 4 < n
    · rw [bi_true hb, show ((3 : Int) + 1) = 4 from rfl, bk4, lk4]
      rw [bk4] at hb
      omega
    · rw [bi_false hb, show ((3 : Int) + 0) = 3 from rfl, bk3, lk3]
      rw [bk4] at hb
      omega
  · rw [show (((4 : Int) + 1)) = 5 from rfl, show decide ((4 : Int) < 12) = true from rfl, Bool.true_and]
    by_cases hb : before y 5 < n
    · rw [bi_true hb, show ((4 : Int) + 1) = 5 from rfl, bk5, lk5]
      rw [bk5] at hb
      omega
    · rw [bi_false hb, show ((4 : Int) + 0) = 4 from rfl, bk4, lk4]
      rw [bk5] at hb
      omega
  · rw [show (((5 : Int) + 1)) = 6 from rfl, show decide ((5 : Int) < 12) = true from rfl, Bool.true_and]
    by_cases hb : before y 6 < n
    · rw [bi_true hb, show ((5 : Int) + 1) = 6 from rfl, bk6, lk6]
      rw [bk6] at hb
      omega
    · rw [bi_false hb, show ((5 : Int) + 0) = 5 from rfl, bk5, lk5]
      rw [bk6] at hb
      omega
  · rw [show (((6 : Int) + 1)) = 7 from rfl, show decide ((6 : Int) < 12) = true from rfl, Bool.true_and]
    by_cases hb : before y 7 < n
    · rw [bi_true hb, show ((6 : Int) + 1) = 7 from rfl, bk7, lk7]
      rw [bk7] at hb
      omega
    · rw [bi_false hb, show ((6 : Int) + 0) = 6 from rfl, bk6, lk6]
      rw [bk7] at hb
      omega
  · rw [show (((7 : Int) + 1)) = 8 from rfl, show decide ((7 : Int) < 12) = true from rfl, Bool.true_and]
    by_cases hb : before y 8 < n
    · rw [bi_true hb, show ((7 : Int) + 1) = 8 from rfl, bk8, lk8]
      rw [bk8] at hb
      omega
    · rw [bi_false hb, show ((7 : Int) + 0) = 7 from rfl, bk7, lk7]
      rw [bk8] at hb
      omega
  · rw [show (((8 : Int) + 1)) = 9 from rfl, show decide ((8 : Int) < 12) = true from rfl, Bool.true_and]
    by_cases hb : before y 9 < n
    · rw [bi_true hb, show ((8 : Int) + 1) = 9 from rfl, bk9, lk9]
      rw [bk9] at hb
      omega
    · rw [bi_false hb, show ((8 : Int) + 0) = 8 from rfl, bk8, lk8]
      rw [bk9] at hb
      omega
  · rw [show (((9 : Int) + 1)) = 10 from rfl, show decide ((9 : Int) < 12) = true from rfl, Bool.true_and]
    by_cases hb : before y 10 < n
    · rw [bi_true hb, show ((9 : Int) + 1) = 10 from rfl, bk10, lk10]
      rw [bk10] at hb
      omega
    · rw [bi_false hb, show ((9 : Int) + 0) = 9 from rfl, bk9, lk9]
      rw [bk10] at hb
      omega
  · rw [show (((10 : Int) + 1)) = 11 from rfl, show decide ((10 : Int) < 12) = true from rfl, Bool.true_and]
    by_cases hb : before y 11 < n
    · rw [bi_true hb, show ((10 : Int) + 1) = 11 from rfl, bk11, lk11]
      rw [bk11] at hb
      omega
    · rw [bi_false hb, show ((10 : Int) + 0) = 10 from rfl, bk10, lk10]
      rw [bk11] at hb
      omega
  · rw [show (((11 : Int) + 1)) = 12 from rfl, show decide ((11 : Int) < 12) = true from rfl, Bool.true_and]
    by_cases hb : before y 12 < n
    · rw [bi_true hb, show ((11 : Int) + 1) = 12 from rfl, bk12, lk12]
      rw [bk12] at hb
      omega
    · rw [bi_false hb, show ((11 : Int) + 0) = 11 from rfl, bk11, lk11]
      rw [bk12] at hb
      omega
  · rw [show decide ((12 : Int) < 12) = false from rfl, Bool.false_and, show ((12 : Int) + bi false) = 12 from rfl, bk12, lk12]
    omega
end Mine
end
namespace Mine
section
set_option maxRecDepth 100000
open PySem PySem.Spec PySem.Calls PyProof.Rows PySem.W
-- the walk's own line
local macro_rules | `(tactic| walk_at "lk") => `(tactic| (first | with_reducible exact Lk.here | (with_reducible apply Lk.there; first | with_reducible exact Lk.here | (with_reducible apply Lk.there; first | with_reducible exact Lk.here | (with_reducible apply Lk.there; first | with_reducible exact Lk.here | (with_reducible apply Lk.there; first | with_reducible exact Lk.here | (with_reducible apply Lk.there; first | with_reducible exact Lk.here | (with_reducible apply Lk.there; first | with_reducible exact Lk.here | (with_reducible apply Lk.there; first | with_reducible exact Lk.here | (with_reducible apply Lk.there; first | with_reducible exact Lk.here | (with_reducible apply Lk.there; first | with_reducible exact Lk.here | (with_reducible apply Lk.there; first | with_reducible exact Lk.here | (with_reducible apply Lk.there; first | with_reducible exact Lk.here | (with_reducible apply Lk.there; first | with_reducible exact Lk.here | (with_reducible apply Lk.there; first | with_reducible exact Lk.here | (with_reducible apply Lk.there; first | with_reducible exact Lk.here | (with_reducible apply Lk.there; first | with_reducible exact Lk.here | (with_reducible apply Lk.there; first | with_reducible exact Lk.here | (with_reducible apply Lk.there; first | with_reducible exact Lk.here | (with_reducible apply Lk.there; first | with_reducible exact Lk.here | (with_reducible apply Lk.there; first | with_reducible exact Lk.here | (with_reducible apply Lk.there; first | with_reducible exact Lk.here | (with_reducible apply Lk.there; first | with_reducible exact Lk.here | (with_reducible apply Lk.there; first | with_reducible exact Lk.here | (with_reducible apply Lk.there; first | with_reducible exact Lk.here | (with_reducible apply Lk.there; first | with_reducible exact Lk.here | (with_reducible apply Lk.there; first | with_reducible exact Lk.here | (with_reducible apply Lk.there; first | with_reducible exact Lk.here | (with_reducible apply Lk.there; first | with_reducible exact Lk.here | (with_reducible apply Lk.there; first | with_reducible exact Lk.here | (with_reducible apply Lk.there; first | with_reducible exact Lk.here | (with_reducible apply Lk.there; first | with_reducible exact Lk.here | (with_reducible apply Lk.there; first | with_reducible exact Lk.here | (with_reducible apply Lk.there; first | with_reducible exact Lk.here | (with_reducible apply Lk.there; first | with_reducible exact Lk.here | (with_reducible apply Lk.there; fail))))))))))))))))))))))))))))))))))))
local macro_rules | `(tactic| walk_at "up") => `(tactic| (first | with_reducible exact Up.here | (with_reducible apply Up.there; first | with_reducible exact Up.here | (with_reducible apply Up.there; first | with_reducible exact Up.here | (with_reducible apply Up.there; first | with_reducible exact Up.here | (with_reducible apply Up.there; first | with_reducible exact Up.here | (with_reducible apply Up.there; first | with_reducible exact Up.here | (with_reducible apply Up.there; first | with_reducible exact Up.here | (with_reducible apply Up.there; first | with_reducible exact Up.here | (with_reducible apply Up.there; first | with_reducible exact Up.here | (with_reducible apply Up.there; first | with_reducible exact Up.here | (with_reducible apply Up.there; first | with_reducible exact Up.here | (with_reducible apply Up.there; first | with_reducible exact Up.here | (with_reducible apply Up.there; first | with_reducible exact Up.here | (with_reducible apply Up.there; first | with_reducible exact Up.here | (with_reducible apply Up.there; first | with_reducible exact Up.here | (with_reducible apply Up.there; first | with_reducible exact Up.here | (with_reducible apply Up.there; first | with_reducible exact Up.here | (with_reducible apply Up.there; first | with_reducible exact Up.here | (with_reducible apply Up.there; first | with_reducible exact Up.here | (with_reducible apply Up.there; first | with_reducible exact Up.here | (with_reducible apply Up.there; first | with_reducible exact Up.here | (with_reducible apply Up.there; first | with_reducible exact Up.here | (with_reducible apply Up.there; first | with_reducible exact Up.here | (with_reducible apply Up.there; first | with_reducible exact Up.here | (with_reducible apply Up.there; first | with_reducible exact Up.here | (with_reducible apply Up.there; first | with_reducible exact Up.here | (with_reducible apply Up.there; first | with_reducible exact Up.here | (with_reducible apply Up.there; first | with_reducible exact Up.here | (with_reducible apply Up.there; first | with_reducible exact Up.here | (with_reducible apply Up.there; first | with_reducible exact Up.here | (with_reducible apply Up.there; first | with_reducible exact Up.here | (with_reducible apply Up.there; first | with_reducible exact Up.here | (with_reducible apply Up.there; first | with_reducible exact Up.here | (with_reducible apply Up.there; first | with_reducible exact Up.here | (with_reducible apply Up.there; fail))))))))))))))))))))))))))))))))))))
local macro_rules | `(tactic| walk_at "in") => `(tactic| (first | with_reducible exact List.mem_cons_self | (with_reducible apply List.mem_cons_of_mem; first | with_reducible exact List.mem_cons_self | (with_reducible apply List.mem_cons_of_mem; first | with_reducible exact List.mem_cons_self | (with_reducible apply List.mem_cons_of_mem; first | with_reducible exact List.mem_cons_self | (with_reducible apply List.mem_cons_of_mem; first | with_reducible exact List.mem_cons_self | (with_reducible apply List.mem_cons_of_mem; first | with_reducible exact List.mem_cons_self | (with_reducible apply List.mem_cons_of_mem; first | with_reducible exact List.mem_cons_self | (with_reducible apply List.mem_cons_of_mem; first | with_reducible exact List.mem_cons_self | (with_reducible apply List.mem_cons_of_mem; first | with_reducible exact List.mem_cons_self | (with_reducible apply List.mem_cons_of_mem; first | with_reducible exact List.mem_cons_self | (with_reducible apply List.mem_cons_of_mem; first | with_reducible exact List.mem_cons_self | (with_reducible apply List.mem_cons_of_mem; first | with_reducible exact List.mem_cons_self | (with_reducible apply List.mem_cons_of_mem; first | with_reducible exact List.mem_cons_self | (with_reducible apply List.mem_cons_of_mem; first | with_reducible exact List.mem_cons_self | (with_reducible apply List.mem_cons_of_mem; first | with_reducible exact List.mem_cons_self | (with_reducible apply List.mem_cons_of_mem; first | with_reducible exact List.mem_cons_self | (with_reducible apply List.mem_cons_of_mem; first | with_reducible exact List.mem_cons_self | (with_reducible apply List.mem_cons_of_mem; first | with_reducible exact List.mem_cons_self | (with_reducible apply List.mem_cons_of_mem; first | with_reducible exact List.mem_cons_self | (with_reducible apply List.mem_cons_of_mem; first | with_reducible exact List.mem_cons_self | (with_reducible apply List.mem_cons_of_mem; first | with_reducible exact List.mem_cons_self | (with_reducible apply List.mem_cons_of_mem; first | with_reducible exact List.mem_cons_self | (with_reducible apply List.mem_cons_of_mem; first | with_reducible exact List.mem_cons_self | (with_reducible apply List.mem_cons_of_mem; first | with_reducible exact List.mem_cons_self | (with_reducible apply List.mem_cons_of_mem; first | with_reducible exact List.mem_cons_self | (with_reducible apply List.mem_cons_of_mem; first | with_reducible exact List.mem_cons_self | (with_reducible apply List.mem_cons_of_mem; first | with_reducible exact List.mem_cons_self | (with_reducible apply List.mem_cons_of_mem; first | with_reducible exact List.mem_cons_self | (with_reducible apply List.mem_cons_of_mem; first | with_reducible exact List.mem_cons_self | (with_reducible apply List.mem_cons_of_mem; first | with_reducible exact List.mem_cons_self | (with_reducible apply List.mem_cons_of_mem; first | with_reducible exact List.mem_cons_self | (with_reducible apply List.mem_cons_of_mem; first | with_reducible exact List.mem_cons_self | (with_reducible apply List.mem_cons_of_mem; first | with_reducible exact List.mem_cons_self | (with_reducible apply List.mem_cons_of_mem; first | with_reducible exact List.mem_cons_self | (with_reducible apply List.mem_cons_of_mem; fail))))))))))))))))))))))))))))))))))))
local macro_rules | `(tactic| walk_at "bin2") => `(tactic| first
  | with_reducible exact Bin2.add | with_reducible exact Bin2.sub | with_reducible exact Bin2.addB | with_reducible exact Bin2.mulR (by decide) | with_reducible exact Bin2.mulL (by decide) | with_reducible exact Bin2.mulL (by assumption) | with_reducible exact Bin2.fdivP (by decide) (by decide) | with_reducible exact Bin2.modP (by decide) | with_reducible exact Bin2.cat (by assumption))
local macro_rules | `(tactic| walk_at "cmp2") => `(tactic| first
  | with_reducible exact Cmp2.eqI | with_reducible exact Cmp2.neI | with_reducible exact Cmp2.ltI | with_reducible exact Cmp2.leI | with_reducible exact Cmp2.gtI | with_reducible exact Cmp2.geI | with_reducible exact Cmp2.neBB | ((with_reducible apply Cmp2.eq8); (· walk_at "asc"); (· walk_at "asc")) | ((with_reducible apply Cmp2.ne8); (· walk_at "asc"); (· walk_at "asc")) | with_reducible exact Cmp2.eqBy | with_reducible exact Cmp2.neBy | with_reducible exact Cmp2.eqS | with_reducible exact Cmp2.isNN | with_reducible exact Cmp2.isNotNN | with_reducible exact Cmp2.isN rfl | with_reducible exact Cmp2.isNotN rfl)
local macro_rules | `(tactic| walk_at "truth") => `(tactic| first
  | with_reducible exact Truth.bool | with_reducible exact Truth.none | with_reducible exact Truth.int | ((with_reducible apply Truth.by8); omega) | with_reducible exact Truth.str (by assumption) | with_reducible exact Truth.bytes (by assumption))
local macro_rules | `(tactic| walk_at "item") => `(tactic| first | assumption | apply_assumption -exfalso -symm | (exact Item.list (by assumption) (by omega) (by omega) rfl))
local macro_rules | `(tactic| walk_at "keep") => `(tactic| first | with_reducible exact KeepOk.builtin | with_reducible exact KeepOk.type | exact KeepOk.own rfl)
local macro_rules | `(tactic| walk_at "call") => `(tactic| first
  | ((with_reducible apply CallT.len8); omega) | ((with_reducible apply CallT.isdigit8); walk_at "asc") | ((with_reducible apply CallT.decode8); (· walk_at "asc"); (· omega))
  | ((with_reducible apply CallT.lenB); assumption) | ((with_reducible apply CallT.lenS); assumption) | with_reducible exact CallT.isStrS | with_reducible exact CallT.isdigit
  | ((with_reducible apply CallT.of); (· first | assumption | apply_assumption -exfalso -symm); (· exact Fx.fit.id (Sh.fit ‹Sh _ _ _›) (Nat.le_of_ble_eq_true rfl)))
  | assumption
  | apply_assumption -exfalso -symm)
local macro_rules | `(tactic| walk_at "evl") => `(tactic| first | with_reducible exact EvL.nil | ((with_reducible apply EvL.cons); (· walk_at "ev"); (· walk_at "evl"); (· rfl)))
local macro_rules | `(tactic| walk_at "evk") => `(tactic| first | with_reducible exact EvK.nil | ((with_reducible apply EvK.cons); (· walk_at "ev"); (· walk_at "evk")))
local macro_rules | `(tactic| walk_at "evo") => `(tactic| first | exact EvO.none | ((apply EvO.some); walk_at "ev"))
local macro_rules | `(tactic| walk_at "asc") => `(tactic| first | assumption | exact sl_asc ‹_› _ _ | exact Asc.drop ‹_› _ | exact Asc.take ‹_› _ | (unfold Mine.Asc; decide))
local macro_rules | `(tactic| walk_at "cut") => `(tactic| first
  | ((with_reducible apply Cut.sl8); (· omega); (· omega); (· omega)) | ((with_reducible apply Cut.from8); (· omega); (· omega)) | ((with_reducible apply Cut.upto8); (· omega); (· omega)))
local macro_rules | `(tactic| walk_at "dz") => `(tactic| first | exact log2_small (by omega))
local macro_rules | `(tactic| walk_at "pct") => `(tactic| first
  | exact Pct.nil
  | ((refine Pct.lit rfl rfl (by decide) (by decide) ?_); walk_at "pct")
  | ((refine Pct.dec0 ?_ ?_); (· walk_at "dz"); (· walk_at "pct"))
  | ((refine Pct.dec (by decide) ?_ ?_); (· walk_at "dz"); (· walk_at "pct"))
  | ((refine Pct.rep ?_ ?_); (· first | assumption | (apply_assumption)); (· walk_at "pct"))
  | ((refine Pct.str ?_); walk_at "pct"))
local macro_rules | `(tactic| walk_at "meth") => `(tactic| first
  | with_reducible exact Meth.bytesIsdigit | with_reducible exact Meth.decode | with_reducible exact Meth.encode
  | ((with_reducible apply Meth.inst ‹Wd.Ok _›); (· walk_at "get"); (· rfl); (· rfl); (· rfl); (· rfl)))
local macro_rules | `(tactic| walk_at "get") => `(tactic| first | assumption | exact get_last | ((refine get_set (o := ?_) ?_); rotate_left; walk_at "get") | ((refine Ext.get Ext.add ?_); walk_at "get"))
local macro_rules | `(tactic| walk_at "gattr") => `(tactic| first
  | ((with_reducible apply Get.ownA ‹Wd.Ok _›); (· walk_at "get"); (· rfl); (· rfl); (· rfl); (· rfl); (· rfl); (· first | rfl | assumption))
  | ((with_reducible apply Get.cls ‹Wd.Ok _›); (· walk_at "get"); (· rfl); (· rfl); (· rfl); (· rfl); (· rfl); (· rfl); (· rfl); (· exact fun ρ => ⟨_, rfl⟩)))
local macro_rules | `(tactic| walk_at "ev") => `(tactic| first
  | ((with_reducible show Ev _ _ (Expr.Name _ _) _ _ _ _); first | ((with_reducible apply Ev.lcA); (· assumption); (· walk_at "lk"); (· first | rfl | assumption)) | ((with_reducible apply Ev.glI); (· assumption); (· assumption); (· walk_at "in")) | ((with_reducible apply Ev.glA); (· assumption); (· assumption); (· walk_at "in")) | fail)
  | ((with_reducible show Ev _ _ (Expr.Constant _ _ _) _ _ _ _); first | with_reducible exact Ev.int | with_reducible exact Ev.str | ((with_reducible apply Ev.by8A); (first | exact (rfl : _ = Mine.by8 [45]) | exact (rfl : _ = Mine.by8 [58]) | exact (rfl : _ = Mine.by8 [87]) | exact (rfl : _ = Mine.by8 [45, 43, 90, 122]) | exact (rfl : _ = Mine.by8 []) | exact (rfl : _ = Mine.by8 [46]) | exact (rfl : _ = Mine.by8 [44]) | exact (rfl : _ = Mine.by8 [90]) | exact (rfl : _ = Mine.by8 [122]) | exact (rfl : _ = Mine.by8 [43]))) | with_reducible exact Ev.bytes | with_reducible exact Ev.nil | with_reducible exact Ev.bool | fail)
  | ((with_reducible show Ev _ _ (Expr.Attribute _ _ _) _ _ _ _); (with_reducible apply Ev.attr); (· walk_at "ev"); (· walk_at "gattr"); (· rfl))
  | ((with_reducible show Ev _ _ (Expr.BinOp _ _ _ _) _ _ _ _); (with_reducible apply Ev.bin); (· walk_at "ev"); (· walk_at "ev"); (· walk_at "bin2"))
  | ((with_reducible show Ev _ _ (Expr.Compare _ _ _ _) _ _ _ _); (with_reducible apply Ev.cmp); (· walk_at "ev"); (· walk_at "ev"); (· walk_at "cmp2"); (· rfl))
  | ((with_reducible show Ev _ _ (Expr.UnaryOp _ _ _) _ _ _ _); (with_reducible apply Ev.neg); (· walk_at "ev"))
  | ((with_reducible show Ev _ _ (Expr.BoolOp _ _ _) _ _ _ _); first
    | ((with_reducible apply Ev.andB); (· walk_at "ev"); (· (intro _; walk_at "ev")))
    | ((with_reducible apply Ev.orB); (· walk_at "ev"); (· (intro _; walk_at "ev")))
    | ((with_reducible apply Ev.and2); (· walk_at "ev"); (· walk_at "truth"); (· (intro _; walk_at "ev")))
    | ((with_reducible apply Ev.or2); (· walk_at "ev"); (· walk_at "truth"); (· (intro _; walk_at "ev"))) | fail)
  | ((with_reducible show Ev _ _ (Expr.Call _ _ _ _) _ _ _ _); first
    | ((with_reducible apply Ev.methA); (· assumption); (· walk_at "ev"); (· walk_at "meth"); (· walk_at "keep"); (· walk_at "evl"); (· walk_at "evk"); (· exact List.singleton_append); (· walk_at "call"); (· rfl); (· exact ⟨_, rfl⟩))
    | ((with_reducible apply Ev.callT); (· assumption); (· walk_at "ev"); (· walk_at "keep"); (· walk_at "evl"); (· walk_at "evk"); (· walk_at "call"); (· rfl); (· rfl)) | fail)
  | ((with_reducible show Ev _ _ (Expr.Subscript _ _ _) _ _ _ _); first
    | ((with_reducible apply Ev.cut); (· walk_at "ev"); (· walk_at "evo"); (· walk_at "evo"); (· walk_at "cut"))
    | ((with_reducible apply Ev.sub); (· walk_at "ev"); (· walk_at "ev"); (· walk_at "item"); (· rfl)) | fail)
  | ((with_reducible show Ev _ _ (Expr.Tuple _ _ _) _ _ _ _); (with_reducible apply Ev.tuple); (· walk_at "evl"); (· exact Nat.le_of_ble_eq_true rfl))
  | ((with_reducible show Ev _ _ (Expr.List _ _) _ _ _ _); (with_reducible apply Ev.list); (· walk_at "evl"); (· exact Nat.le_of_ble_eq_true rfl))
  | fail)
local macro_rules | `(tactic| walk_at "bt") => `(tactic| first
  | ((with_reducible show Bt _ _ (Expr.Compare _ _ _ _) _ _ _ _); first
    | ((with_reducible apply Bt.cmpA); (· walk_at "ev"); (· walk_at "ev"); (· walk_at "cmp2"); (· rfl))
    | ((with_reducible apply Bt.chain); (· walk_at "ev"); (· walk_at "ev"); (· walk_at "cmp2"); (· (intro _; walk_at "ev")); (· (intro _; walk_at "cmp2")); (· rfl)) | fail)
  | ((with_reducible show Bt _ _ (Expr.UnaryOp _ _ _) _ _ _ _); (with_reducible apply Bt.not); (· walk_at "bt"))
  | ((with_reducible show Bt _ _ (Expr.BoolOp _ _ _) _ _ _ _); first
    | ((with_reducible apply Bt.and2); (· walk_at "bt"); (· (intro _; walk_at "bt")))
    | ((with_reducible apply Bt.or2); (· walk_at "bt"); (· (intro _; walk_at "bt")))
    | ((with_reducible apply Bt.andN); (· walk_at "bt"); (· (intro _; walk_at "bt")))
    | ((with_reducible apply Bt.orN); (· walk_at "bt"); (· (intro _; walk_at "bt"))) | fail)
  | ((with_reducible apply Bt.plain); (· walk_at "ev"); (· walk_at "truth"); (· (intro _; rfl)))
  | fail)
local macro_rules | `(tactic| walk_at "inv") => `(tactic| (intro s ρ xs ks X rx rk; (repeat (rcases rx with _ | ⟨r1, rx⟩)); (repeat (rcases rk with _ | ⟨k1, rk⟩))))
local macro_rules | `(tactic| walk_at "reps") => `(tactic| (repeat (first | exact RepL.nil | (refine RepL.cons ?_ ?_; (· first | assumption | exact ⟨_, rfl⟩ | exact rfl)))))
local macro_rules | `(tactic| walk_at "hb1") => `(tactic| (walk_at "inv"; refine ⟨[_], kp_binds ‹Frag.In _ _› (fun S => rfl), ?_⟩; walk_at "reps"))
local macro_rules | `(tactic| walk_at "hb2") => `(tactic| (walk_at "inv"; refine ⟨[_, _], kp_binds ‹Frag.In _ _› (fun S => rfl), ?_⟩; walk_at "reps"))
local macro_rules | `(tactic| walk_at "hb3") => `(tactic| (walk_at "inv"; refine ⟨[_, _, _], kp_binds ‹Frag.In _ _› (fun S => rfl), ?_⟩; walk_at "reps"))
local macro_rules | `(tactic| walk_at "hb4") => `(tactic| (walk_at "inv"; refine ⟨[_, _, _, _], kp_binds ‹Frag.In _ _› (fun S => rfl), ?_⟩; walk_at "reps"))
local macro_rules | `(tactic| walk_at "hb5") => `(tactic| (walk_at "inv"; refine ⟨[_, _, _, _, _], kp_binds ‹Frag.In _ _› (fun S => rfl), ?_⟩; walk_at "reps"))
local macro_rules | `(tactic| walk_at "hb6") => `(tactic| (walk_at "inv"; refine ⟨[_, _, _, _, _, _], kp_binds ‹Frag.In _ _› (fun S => rfl), ?_⟩; walk_at "reps"))
local macro_rules | `(tactic| walk_at "asg") => `(tactic| ((with_reducible apply XP.step); (· (intro _ _; (with_reducible apply Ex1.asgA ‹Sh _ _ _›); (· walk_at "ev"); (· walk_at "up"); (· rfl)))))
local macro_rules | `(tactic| walk_at "ret") => `(tactic| ((with_reducible apply XP.ret); (· (intro _ _; walk_at "ev"))))
local macro_rules | `(tactic| walk_at "ite") => `(tactic| ((with_reducible apply XP.ite); (· (intro _ _; walk_at "bt")); (all_goals (try simp only [List.cons_append, List.nil_append]))))

local macro_rules | `(tactic| walk_at "raiseV") => `(tactic| ((with_reducible apply XP.exc); (· (intro _ _; (with_reducible apply Ex1.raiseA ‹Wd.Ok _› ‹Sh _ _ _› F.excCall_ValueError F.excRaise_ValueError); (· walk_at "in"); (· walk_at "evl"); (· exact Nat.le_of_ble_eq_true rfl); (· rfl)))))
local macro_rules | `(tactic| walk_at "raiseO") => `(tactic| ((with_reducible apply XP.exc); (· (intro _ _; (with_reducible apply Ex1.raiseA ‹Wd.Ok _› ‹Sh _ _ _› F.excCall_OverflowError F.excRaise_OverflowError); (· walk_at "in"); (· walk_at "evl"); (· exact Nat.le_of_ble_eq_true rfl); (· rfl)))))
local macro_rules | `(tactic| walk_at "set") => `(tactic| ((with_reducible apply XP.step); (· (intro _ _; (with_reducible apply Ex1.setA ‹Wd.Ok _›); (· walk_at "ev"); (· walk_at "ev"); (· walk_at "get"); (· rfl); (· exact Nat.le_of_ble_eq_true rfl); (· rfl); (· rfl); (· rfl)))))
local macro_rules | `(tactic| walk_at "setAt") => `(tactic| ((with_reducible apply XP.step); (· (intro _ _; (with_reducible apply Ex1.setAtL); (· walk_at "ev"); (· walk_at "ev"); (· walk_at "ev"); (· walk_at "get"); (· decide); (· decide); (· rfl); (· rfl); (· rfl)))))
local macro_rules | `(tactic| walk_at "setAtE") => `(tactic| ((with_reducible apply XP.exc); (· (intro _ _; (with_reducible apply Ex1.setAtE); (· walk_at "ev"); (· rfl)))))
local macro_rules | `(tactic| walk_at "asgE") => `(tactic| ((with_reducible apply XP.exc); (· (intro _ _; (with_reducible apply Ex1.asgEA); (· walk_at "ev"); (· rfl)))))
local macro_rules | `(tactic| walk_at "retE") => `(tactic| ((with_reducible apply XP.retE); (· (intro _ _; walk_at "ev"))))
local macro_rules | `(tactic| walk_at "aug2") => `(tactic| first | with_reducible exact Aug2.addI | with_reducible exact Aug2.addB)
local macro_rules | `(tactic| walk_at "aug") => `(tactic| ((with_reducible apply XP.step); (· (intro _ _; (with_reducible apply Ex1.augA ‹Sh _ _ _›); (· walk_at "lk"); (· rfl); (· walk_at "ev"); (· walk_at "aug2"); (· walk_at "up")))))
local macro_rules | `(tactic| walk_at "expr") => `(tactic| ((with_reducible apply XP.step); (· (intro _ _; (with_reducible apply Ex1.expr ‹Sh _ _ _›); (· walk_at "ev"); (· rfl)))))
local macro_rules | `(tactic| walk_at "exprE") => `(tactic| ((with_reducible apply XP.exc); (· (intro _ _; (with_reducible apply Ex1.exprE ‹Sh _ _ _›); (· walk_at "ev"); (· rfl)))))
section
set_option Elab.async false
set_option maxRecDepth 100000
set_option maxHeartbeats 4000000
set_option simprocs false
set_option linter.unusedVariables false
open PySem PySem.Spec PySem.Calls PyProof.Rows PySem.W
variable {q : Pk}
abbrev dO (y mo d : Int) : MObj := .inst 276 (dayF y mo d)
theorem dateMake (ok : (C1 q).Ok) (z : Bool) {y mo d : Int} {st : Sto} : ∃ r st', Calls (C1 q) z 4 (.glob (.ref 276)) [.int y, .int mo, .int d] [] st r st' ∧ Ext st st' ∧ (if dayOk y mo d then r = .ok (.obj st.length) ∧ st' = st ++ [dO y mo d] else r = .exc ⟨"ValueError", z⟩) := by
  obtain ⟨r, st', hc, hr⟩ := dateInit (q := q) ok z (C := 276) (.inl rfl) (n := st.length) (y := y) (mo := mo) (d := d) (st := st ++ [.inst 276 []]) get_last
  by_cases h : dayOk y mo d
  · rw [if_pos h] at hr
    simp only [if_pos h]
    obtain ⟨rfl, rfl⟩ := hr
    rw [set_last] at hc
    exact ⟨_, _, Calls.makeA ok rfl rfl rfl hc, Ext.add, rfl, rfl⟩
  · rw [if_neg h] at hr
    simp only [if_neg h]
    obtain ⟨rfl, rfl⟩ := hr
    exact ⟨_, _, Calls.makeX ok rfl rfl rfl hc, Ext.add, rfl⟩
theorem weekday_ (ok : (C1 q).Ok) (z : Bool) {n : Nat} {y mo d : Int} {st : Sto} (hn : st[n]? = some (dO y mo d)) : Calls (C1 q) z 1 (.glob (.ref 209)) [.obj n] [] st (.ok (.int ((before y mo + d + 6) % 7))) st := Calls.of <| by
  refine Calls.defX (c := C1 q) (f := 209) (binds := [.obj n]) 1 ["self"] [] z 0 [.obj n] ok rfl rfl rfl rfl ?_ rfl (by decide) rfl ?_
  · walk_at "hb1"
  · walk_at "ret"
    exact ⟨_, rfl, rfl, rfl⟩
theorem ordM_range {n : Int} (h1 : 1 ≤ n) (h2 : n ≤ 3652059) : 0 ≤ ordM0 n ∧ ordM0 n ≤ 12 ∧ 0 ≤ ordM n ∧ ordM n ≤ 12 := by
  obtain ⟨a1, a2, a3, a4⟩ := ordY_spec h1 h2
  rw [yb_succ] at a2
  have hl := bi_cases (leap (ordY n))
  have e0 : ordM0 n = (n - yb (ordY n) - 1) / 32 + 1 := by unfold ordM0; rw [before_one]
  have := (ord_spec h1 h2).2.1
  omega
theorem fromord_ (ok : (C1 q).Ok) (z : Bool) {n : Int} (h1 : 1 ≤ n) (h2 : n ≤ 3652059) {st : Sto} : Calls (C1 q) z 5 (.glob (.ref 192)) [.glob (.ref 276), .int n] [] st (.ok (.obj st.length)) (st ++ [dO (ordY n) (ordM n) (ordD n)]) := Calls.of <| by
  refine Calls.defX (c := C1 q) (f := 192) (binds := [.glob (.ref 276), .int n]) 2 ["cls", "n", "year", "month"] [("_before", .ref 36)] z 4 [.glob (.ref 276), .int n, .undef, .undef] ok rfl rfl rfl rfl ?_ rfl (by decide) rfl ?_
  · walk_at "hb2"
  · obtain ⟨m1, m2, m3, m4⟩ := ordM_range h1 h2
    have b1 := before_ (q := q) ok z ((n - 1) * 400 / 146097 + 1 + 1) 1 (by omega) (by omega) st
    have b2 := before_ (q := q) ok z (ordY n) 1 (by omega) (by omega) st
    have b3 := fun h : ordM0 n < 12 => before_ (q := q) ok z (ordY n) (ordM0 n + 1) (by omega) (by omega) st
    have b4 := before_ (q := q) ok z (ordY n) (ordM n) (by omega) (by omega) st
    obtain ⟨r, st', hc, hx, hr⟩ := dateMake (q := q) ok z (y := ordY n) (mo := ordM n) (d := ordD n) (st := st)
    rw [if_pos (ord_spec h1 h2)] at hr
    obtain ⟨rfl, rfl⟩ := hr
    have e1 : (n - 1) * 400 / 146097 + 1 + (if decide (before ((n - 1) * 400 / 146097 + 1 + 1) 1 < n) = true then 1 else 0) = ordY n := by
      unfold ordY
      rw [before_one]
      rfl
    have e2 : ordM0 n + (if (decide (ordM0 n < 12) && decide (before (ordY n) (ordM0 n + 1) < n)) = true then 1 else 0) = ordM n := rfl
    walk_at "asg"
    walk_at "asg"
    rw [e1]
    walk_at "asg"
    rw [show (n - before (ordY n) 1 - 1) / 32 + 1 = ordM0 n from rfl]
    by_cases hm : ordM0 n < 12
    · have b3' := b3 hm
      walk_at "asg"
      rw [e2]
      walk_at "ret"
      exact ⟨_, rfl, rfl, rfl⟩
    · with_reducible apply XP.step
      · intro fr F
        with_reducible apply Ex1.asgA F
        · with_reducible apply Ev.bin
          · walk_at "ev"
          · refine Ev.conv (v' := .bool false) (Ev.andB (b := decide (ordM0 n < 12)) (d := false) (by walk_at "ev") fun h => absurd (of_decide_eq_true h) hm) (by simp)
          · walk_at "bin2"
        · walk_at "up"
        · rfl
      rw [show (ordM0 n + if false = true then 1 else 0) = ordM n by rw [← e2, decide_eq_false hm]; rfl]
      walk_at "ret"
      exact ⟨_, rfl, rfl, rfl⟩
end
section
set_option Elab.async false
set_option maxRecDepth 100000
set_option maxHeartbeats 4000000
set_option simprocs false
set_option linter.unusedVariables false
open PySem PySem.Spec PySem.Calls PyProof.Rows PySem.W
variable {q : Pk}
def ordO (n : Int) : MObj := dO (ordY n) (ordM n) (ordD n)
theorem dateAdd (ok : (C1 q).Ok) (z : Bool) {n k : Nat} {y mo d dd s u : Int} {st : Sto} (hn : st[n]? = some (dO y mo d)) (hk : st[k]? = some (td dd s u)) :
    Calls (C1 q) z 6 (.glob (.ref 266)) [.obj n, .obj k] [] st (if 1 ≤ before y mo + d + dd ∧ before y mo + d + dd ≤ 3652059 then .ok (.obj st.length) else .exc ⟨"OverflowError", z⟩) (if 1 ≤ before y mo + d + dd ∧ before y mo + d + dd ≤ 3652059 then st ++ [ordO (before y mo + d + dd)] else st) := Calls.of <| by
  refine Calls.defX (c := C1 q) (f := 266) (binds := [.obj n, .obj k]) 2 ["self", "other"] [("isinstance", .builtin "isinstance"), ("timedelta", .ref 124), ("NotImplemented", .notImplemented), ("date", .ref 276), ("_held", .ref 50)] z 5 [.obj n, .obj k] ok rfl rfl rfl rfl ?_ rfl (by decide) rfl ?_
  · walk_at "hb2"
  · have hh := held_ (q := q) ok z (before y mo + d + dd) st
    have hi : ∀ fr, CallT (C1 q) fr (.builtin "isinstance") [.obj k, .glob (.ref 124)] [] st (.ok (.bool true)) st := fun fr => CallT.isYes ok hk rfl
    walk_at "ite"
    · intro h
      exact absurd h (by simp)
    · intro _
      by_cases hN : 1 ≤ before y mo + d + dd ∧ before y mo + d + dd ≤ 3652059
      · rw [if_pos hN] at hh
        have hf := fromord_ (q := q) ok z hN.1 hN.2 (st := st)
        apply XP.ret
        · intro fr F
          refine Ev.methC ok (C := 276) (p := 194) (f := 192) (mc := .type "type") (st₁ := st) (by walk_at "ev") rfl rfl rfl (by walk_at "evl") EvK.nil hf (Fx.fit.id F.fit (Nat.le_of_ble_eq_true rfl)) rfl ⟨_, rfl⟩
        · refine ⟨_, rfl, ?_, ?_⟩
          · rw [if_pos hN]
          · rw [if_pos hN]; rfl
      · rw [if_neg hN] at hh
        apply XP.retE (C := ⟨"OverflowError", z⟩) (st₁ := st)
        · intro fr F
          refine Ev.methCE ok (C := 276) (p := 194) (f := 192) (mc := .type "type") (st₁ := st) (by walk_at "ev") rfl rfl rfl (EvLE.head (by walk_at "ev") rfl) noKw rfl ⟨_, rfl⟩
        · refine ⟨_, rfl, ?_, ?_⟩
          · rw [if_neg hN]
          · rw [if_neg hN]
end
section
set_option Elab.async false
set_option maxRecDepth 100000
set_option maxHeartbeats 4000000
set_option simprocs false
set_option linter.unusedVariables false
open PySem PySem.Spec PySem.Calls PyProof.Rows PySem.W
variable {q : Pk}
theorem binDT (nm : String) (f : Addr) (b : Bool) (h1 : findIn (K1 q.w.params) (.ref 276) (PySem.dunder nm) = some (some (.ref f))) (h2 : ∃ g, findIn (K1 q.w.params) (.ref 124) (PySem.dunder nm) = some (some (.ref g))) (h3 : isFn (K1 q.w.params) (.ref f) = true)
    (h4 : ∀ S, peek (K1 q.w.params) S (numberSlotInPython (.ref 276) nm) = some b) (h5 : ∀ S, peek (K1 q.w.params) S (numberSlotInPython (.ref 124) nm) = some true) : BinFacts (C1 q) 276 124 f nm b :=
  ⟨⟨_, _, rfl, rfl⟩, by obtain ⟨g, h2⟩ := h2; exact ⟨_, _, g, rfl, rfl, h2⟩, h1, h3, by decide, rfl, h4, h5⟩
theorem binAdd : BinFacts (C1 q) 276 124 266 "add" true := binDT "add" 266 true rfl ⟨_, rfl⟩ rfl (fun S => rfl) (fun S => rfl)
theorem binSub : BinFacts (C1 q) 276 124 273 "sub" true := binDT "sub" 273 true rfl ⟨_, rfl⟩ rfl (fun S => rfl) (fun S => rfl)
theorem dateSub (ok : (C1 q).Ok) (z : Bool) {n k : Nat} {y mo d dd s u : Int} {st : Sto} (hn : st[n]? = some (dO y mo d)) (hk : st[k]? = some (td dd s u)) (hd : -999999999 ≤ -dd ∧ -dd ≤ 999999999) (hN : 1 ≤ before y mo + d + -dd ∧ before y mo + d + -dd ≤ 3652059) :
    Calls (C1 q) z 7 (.glob (.ref 273)) [.obj n, .obj k] [] st (.ok (.obj (st.length + 1))) (st ++ [td (-dd) 0 0] ++ [ordO (before y mo + d + -dd)]) := Calls.of <| by
  refine Calls.defX (c := C1 q) (f := 273) (binds := [.obj n, .obj k]) 2 ["self", "other"] [("isinstance", .builtin "isinstance"), ("timedelta", .ref 124), ("NotImplemented", .notImplemented), ("date", .ref 276), ("datetime", .ref 380)] z 6 [.obj n, .obj k] ok rfl rfl rfl rfl ?_ rfl (by decide) rfl ?_
  · walk_at "hb2"
  · have hi : ∀ fr, CallT (C1 q) fr (.builtin "isinstance") [.obj k, .glob (.ref 124)] [] st (.ok (.bool true)) st := fun fr => CallT.isYes ok hk rfl
    have hi2 : ∀ fr, CallT (C1 q) fr (.builtin "isinstance") [.obj n, .glob (.ref 380)] [] st (.ok (.bool false)) st := fun fr => CallT.isNo ok hn rfl
    have ht := tdDay (q := q) ok z (d := -dd) (st := st) hd
    have ha := dateAdd (q := q) ok z (n := n) (k := st.length) (y := y) (mo := mo) (d := d) (dd := -dd) (s := 0) (u := 0) (st := st ++ [td (-dd) 0 0]) (Ext.get Ext.add hn) get_last
    rw [if_pos hN, if_pos hN] at ha
    walk_at "ite"
    · intro _
      apply XP.ret
      · intro fr F
        refine Ev.binO ok (C := 276) (D := 124) (f := 266) (b := true) (n := n) (k := st.length) (by walk_at "ev") ?_ binAdd (Ext.get Ext.add hn) get_last (CallT.of ha (Fx.fit.id F.fit (Nat.le_of_ble_eq_true rfl))) (fun v e => by cases e; exact ⟨_, rfl⟩)
        refine Ev.ifexp (t := false) (st₁ := st) (by walk_at "bt") (fun e => nomatch e) fun _ => ?_
        with_reducible apply Ev.callT ok
        · walk_at "ev"
        · walk_at "keep"
        · with_reducible apply EvL.cons
          · with_reducible apply Ev.neg
            walk_at "ev"
          · exact EvL.nil
          · rfl
        · exact EvK.nil
        · walk_at "call"
        · rfl
        · rfl
      · refine ⟨_, rfl, ?_, rfl⟩
        simp
    · intro h; cases h
end
section
set_option Elab.async false
set_option maxRecDepth 100000
set_option linter.unusedVariables false
open PySem PySem.Spec PySem.Calls PyProof.Rows PySem.W
variable {q : Pk}
/-- a value, or ValueError -/
def rv (z : Bool) : Option V → Out V
  | some v => .ok v
  | none => .exc ⟨"ValueError", z⟩
def iv (o : Option Int) : Option V := o.map V.int
/-- a reader -/
abbrev rd (sep : V) : MObj := .inst 622 [("_sep", sep)]
theorem methR (ok : (C1 q).Ok) {fr : Fx} {st : Sto} {n : Nat} {sep : V} {name : Str} {f : Addr} (hg : plainGet (K1 q.w.params) 622 name = true) (hf : findIn (K1 q.w.params) (.ref 622) name = some (some (.ref f))) (ht : isFn (K1 q.w.params) (.ref f) = true) (hl : (("_sep" : Str) == name) = false) (h : st[n]? = some (rd sep)) : Meth (C1 q) fr st (.obj n) name (.ref f) [.obj n] :=
  .inst ok h hg hf ht (by
    rw [Bool.eq_false_iff] at hl
    have : (name == ("_sep" : Str)) = false := by rw [Bool.eq_false_iff]; intro e; exact hl (by rw [beq_iff_eq] at e ⊢; exact e.symm)
    simp [List.lookup, this])
theorem meth_digits (ok : (C1 q).Ok) {fr : Fx} {st : Sto} {n : Nat} {sep : V} (h : st[n]? = some (rd sep)) : Meth (C1 q) fr st (.obj n) "_parse_digits" (.ref 576) [.obj n] := by exact methR ok (by kernel_rfl) (by kernel_rfl) (by kernel_rfl) (by kernel_rfl) h
theorem meth_isodate (ok : (C1 q).Ok) {fr : Fx} {st : Sto} {n : Nat} {sep : V} (h : st[n]? = some (rd sep)) : Meth (C1 q) fr st (.obj n) "_parse_isodate" (.ref 583) [.obj n] := by exact methR ok (by kernel_rfl) (by kernel_rfl) (by kernel_rfl) (by kernel_rfl) h
theorem meth_common (ok : (C1 q).Ok) {fr : Fx} {st : Sto} {n : Nat} {sep : V} (h : st[n]? = some (rd sep)) : Meth (C1 q) fr st (.obj n) "_parse_isodate_common" (.ref 590) [.obj n] := by exact methR ok (by kernel_rfl) (by kernel_rfl) (by kernel_rfl) (by kernel_rfl) h
theorem meth_uncommon (ok : (C1 q).Ok) {fr : Fx} {st : Sto} {n : Nat} {sep : V} (h : st[n]? = some (rd sep)) : Meth (C1 q) fr st (.obj n) "_parse_isodate_uncommon" (.ref 597) [.obj n] := by exact methR ok (by kernel_rfl) (by kernel_rfl) (by kernel_rfl) (by kernel_rfl) h
theorem meth_weekdate (ok : (C1 q).Ok) {fr : Fx} {st : Sto} {n : Nat} {sep : V} (h : st[n]? = some (rd sep)) : Meth (C1 q) fr st (.obj n) "_calculate_weekdate" (.ref 604) [.obj n] := by exact methR ok (by kernel_rfl) (by kernel_rfl) (by kernel_rfl) (by kernel_rfl) h
theorem meth_isotime (ok : (C1 q).Ok) {fr : Fx} {st : Sto} {n : Nat} {sep : V} (h : st[n]? = some (rd sep)) : Meth (C1 q) fr st (.obj n) "_parse_isotime" (.ref 611) [.obj n] := by exact methR ok (by kernel_rfl) (by kernel_rfl) (by kernel_rfl) (by kernel_rfl) h
theorem meth_tzstr (ok : (C1 q).Ok) {fr : Fx} {st : Sto} {n : Nat} {sep : V} (h : st[n]? = some (rd sep)) : Meth (C1 q) fr st (.obj n) "_parse_tzstr" (.ref 619) [.obj n] := by exact methR ok (by kernel_rfl) (by kernel_rfl) (by kernel_rfl) (by kernel_rfl) h
theorem getR (ok : (C1 q).Ok) {fr : Fx} {st : Sto} {n : Nat} {sep : V} {name : Str} {l : TX} {a : Value} (hg : plainGet (K1 q.w.params) 622 name = true) (ha : findIn (K1 q.w.params) (.ref 622) name = some (some a)) (hs : specialIn (K1 q.w.params) a "__get__" = some none) (hh : handedIn a = true) (hc : copiedNames.contains name = false) (hl : (("_sep" : Str) == name) = false) (hr : ∀ ρ, Rep ρ a (.bytes (by8 l))) (h : st[n]? = some (rd sep)) : Get (C1 q) fr st (.obj n) name (.bytes (by8 l)) :=
  .cls ok h (by
    rw [Bool.eq_false_iff] at hl
    have : (name == ("_sep" : Str)) = false := by rw [Bool.eq_false_iff]; intro e; exact hl (by rw [beq_iff_eq] at e ⊢; exact e.symm)
    simp [List.lookup, this]) hg rfl ha hs hh hc hr
theorem kp583 : KeepOk (C1 q) (.ref 583) := .own rfl
theorem kp590 : KeepOk (C1 q) (.ref 590) := .own rfl
theorem kp597 : KeepOk (C1 q) (.ref 597) := .own rfl
theorem kp604 : KeepOk (C1 q) (.ref 604) := .own rfl
theorem kp611 : KeepOk (C1 q) (.ref 611) := .own rfl
theorem kp619 : KeepOk (C1 q) (.ref 619) := .own rfl
theorem kp29 : KeepOk (C1 q) (.ref 29) := .own rfl
theorem kp36 : KeepOk (C1 q) (.ref 36) := .own rfl
theorem kp525 : KeepOk (C1 q) (.ref 525) := .own rfl
theorem kp518 : KeepOk (C1 q) (.ref 518) := .own rfl
theorem kp576 : KeepOk (C1 q) (.ref 576) := .own rfl
theorem get_dsep (ok : (C1 q).Ok) {fr : Fx} {st : Sto} {n : Nat} {sep : V} (h : st[n]? = some (rd sep)) : Get (C1 q) fr st (.obj n) "_DATE_SEP" (.bytes (by8 [45])) := by exact getR ok (by rfl) (by rfl) (by rfl) (by rfl) (by rfl) (by rfl) (fun ρ => ⟨_, rfl⟩) h
theorem get_tsep (ok : (C1 q).Ok) {fr : Fx} {st : Sto} {n : Nat} {sep : V} (h : st[n]? = some (rd sep)) : Get (C1 q) fr st (.obj n) "_TIME_SEP" (.bytes (by8 [58])) := by exact getR ok (by rfl) (by rfl) (by rfl) (by rfl) (by rfl) (by rfl) (fun ρ => ⟨_, rfl⟩) h
theorem reprA (l : TX) (h : Asc l) : (reprText ⟨l.toArray⟩).length ≤ 10 * l.length + 2 := by
  have := PySem.StrLaws.reprText_len ⟨l.toArray⟩ (fun c hc => Nat.lt_trans (h c (by simpa using hc)) (by decide))
  simpa [Str.length] using this
theorem digits_ (ok : (C1 q).Ok) (z : Bool) {n : Nat} {sep : V} {l : TX} {p k : Int} {st : Sto} (hn : st[n]? = some (rd sep)) (hl : Asc l) (hz : l.length ≤ 1000) (h0 : 0 ≤ p) (h1 : 1 ≤ k) (h2 : k ≤ 9) :
    ∃ r st', Calls (C1 q) z 1 (.glob (.ref 576)) [.obj n, .bytes (by8 l), .int p, .int k] [] st r st' ∧ Ext st st' ∧ r = rv z (iv (dg l p k)) := by
  refine Calls.defX (c := C1 q) (f := 576) (binds := [.obj n, .bytes (by8 l), .int p, .int k]) 4 ["self", "s", "pos", "n", "digits"] [("len", .builtin "len"), ("ValueError", .type "ValueError"), ("int", .type "int")] z 0 [.obj n, .bytes (by8 l), .int p, .int k, .undef] ok rfl rfl rfl rfl ?_ rfl (by decide) rfl ?_
  · walk_at "hb4"
  · have hs := sl_len' l p (p + k)
    have hs2 := sl_len l p (p + k)
    have ha : Asc (sl l p (p + k)) := sl_asc hl _ _
    have hr := reprA _ ha
    walk_at "asg"
    walk_at "ite"
    · intro ht
      have hf : (reprText ⟨(sl l p (p + k)).toArray⟩).length ≤ sizeLine := Nat.le_trans hr (by show _ ≤ 2 ^ 24; omega)
      have hc : (dz false none k).length ≤ 9 := by
        obtain ⟨a, rfl⟩ := Int.eq_ofNat_of_zero_le (show 0 ≤ k by omega)
        exact dz_len (by decide) (by omega)
      with_reducible apply XP.exc
      · intro fr F'
        (with_reducible apply Ex1.raiseA ‹Wd.Ok _› ‹Sh _ _ _› F.excCall_ValueError F.excRaise_ValueError)
        · walk_at "in"
        · with_reducible apply EvL.cons
          · with_reducible apply Ev.pct [.lit (tx "Expected "), .d, .lit (tx " digits, got "), .r]
            · walk_at "ev"
            · walk_at "ev"
            · walk_at "get"
            · rfl
            · rfl
            · exact ⟨by omega, hf, trivial⟩
            · simp only [fmt, List.length_append, List.length_nil]
              have e1 : (tx "Expected ").length = 9 := rfl
              have e2 : (tx " digits, got ").length = 13 := rfl
              have e3 : (reprText ⟨(sl l p (p + k)).toArray⟩).cps.toList.length ≤ 10012 := by
                rw [Array.length_toList]
                exact Nat.le_trans hr (by omega)
              omega
          · walk_at "evl"
          · rfl
        · exact Nat.le_of_ble_eq_true rfl
        · rfl
      · refine ⟨_, rfl, Ext.add, ?_⟩
        have : dg l p k = none := by
          unfold dg
          rw [if_neg]
          intro ⟨a, b⟩
          rw [a, b] at ht
          cases hh : sl l p (p + k) with
          | nil => rw [hh] at a; simp at a; omega
          | cons c r => rw [hh] at ht; simp at ht
        rw [this]; rfl
    · intro ht
      have ha2 : ((sl l p (p + k)).length : Int) = k ∧ (sl l p (p + k)).all isDig = true := by
        simp at ht
        refine ⟨ht.1, ?_⟩
        simpa using ht.2.2
      have h3 : sl l p (p + k) ≠ [] := by intro e; rw [e] at ha2; simp at ha2; omega
      have hi : ∀ fr st, CallT (C1 q) fr (.type "int") [.bytes (by8 (sl l p (p + k)))] [] st (.ok (.int (num (sl l p (p + k)) : Int))) st := fun fr st => CallT.int8 ha2.2 h3 (by omega)
      walk_at "ret"
      refine ⟨_, rfl, Ext.refl, ?_⟩
      have : dg l p k = some (num (sl l p (p + k)) : Int) := by
        unfold dg
        rw [if_pos ha2]
      rw [this]; rfl
end
end
end Mine
section
set_option Elab.async false
set_option linter.unusedVariables false
namespace Mine
/-- the first day of a year's first week -/
def week1 (y : Int) : Int := before y 1 + 4 - (before y 1 + 4 + 6) % 7
def weekN (y w d : Int) : Int := week1 y + ((w - 1) * 7 + (d - 1))
/-- the day's number, or what is raised -/
def weekdate (y w d : Int) : Except String Int :=
  if ¬ (0 < w ∧ w < 54) then .error "ValueError" else
  if ¬ (0 < d ∧ d < 8) then .error "ValueError" else
  if ¬ (1 ≤ y ∧ y ≤ 9999) then .error "ValueError" else
  if weekN y w d ≤ 3652059 then .ok (weekN y w d) else .error "OverflowError"
theorem yb_range {y : Int} (h1 : 1 ≤ y) (h2 : y ≤ 9999) : 0 ≤ yb y ∧ yb y ≤ 3651694 := by
  unfold yb
  omega
theorem week1_pos {y : Int} (h1 : 1 ≤ y) (h2 : y ≤ 9999) : 1 ≤ week1 y ∧ week1 y ≤ 3651698 := by
  obtain ⟨a, b⟩ := yb_range h1 h2
  unfold week1
  rw [before_one]
  omega
theorem jan4_ok (y : Int) : dayOk y 1 4 ↔ 1 ≤ y ∧ y ≤ 9999 := by
  unfold dayOk
  rw [lk1]
  omega
theorem ord_back (n : Int) : before (ordY n) (ordM n) + ordD n = n := by
  unfold ordD
  omega
end Mine
end
section
set_option Elab.async false
set_option linter.unusedVariables false
namespace Mine
abbrev VE : String := "ValueError"
def uncW (l : TX) (b : Bool) (y p : Int) : Except String (Int × Int) :=
  match dg l p 2 with
  | none => .error VE
  | some w =>
    if (l.length : Int) > p + 2 then
      if ((sl l (p + 2) (p + 2 + 1) == [45]) != b) = true then .error VE else
      match dg l (p + 2 + (if b = true then 1 else 0)) 1 with
      | none => .error VE
      | some d => (weekdate y w d).map (·, p + 2 + (if b = true then 1 else 0) + 1)
    else (weekdate y w 1).map (·, p + 2)
def uncD (l : TX) (y p : Int) : Except String (Int × Int) :=
  match dg l p 3 with
  | none => .error VE
  | some o => if o < 1 ∨ o > 365 + bi (leap y) then .error VE else if ¬ (1 ≤ y ∧ y ≤ 9999) then .error VE else .ok (before y 1 + 1 + (o - 1), p + 3)
def uncP (l : TX) (b : Bool) (y p : Int) : Except String (Int × Int) := if (sl l p (p + 1) == [87]) = true then uncW l b y (p + 1) else uncD l y p
def unc1 (l : TX) (b : Bool) (y : Int) : Except String (Int × Int) := uncP l b y (4 + if b = true then 1 else 0)
def uncommon (l : TX) : Except String (Int × Int) :=
  match dg l 0 4 with
  | none => .error VE
  | some y => unc1 l (sl l 4 5 == [45]) y
def isodate (l : TX) : Except String (Int × Int × Int × Int) :=
  match common l with
  | some x => .ok x
  | none => (uncommon l).map fun x => (ordY x.1, ordM x.1, ordD x.1, x.2)
theorem jan1_ok (y : Int) : dayOk y 1 1 ↔ 1 ≤ y ∧ y ≤ 9999 := by
  unfold dayOk
  rw [lk1]
  omega
theorem doy_range {y o : Int} (h1 : 1 ≤ y) (h2 : y ≤ 9999) (h3 : 1 ≤ o) (h4 : o ≤ 365 + bi (leap y)) : 1 ≤ before y 1 + 1 + (o - 1) ∧ before y 1 + 1 + (o - 1) ≤ 3652059 := by
  have e := yb_succ y
  have : yb (y + 1) ≤ 3652059 := by unfold yb; omega
  obtain ⟨a, b⟩ := yb_range h1 h2
  rw [before_one]
  omega
theorem dg_r1 {l : TX} {p v : Int} (h : dg l p 1 = some v) : 0 ≤ v ∧ v < 10 := dg_range h
theorem dg_r2 {l : TX} {p v : Int} (h : dg l p 2 = some v) : 0 ≤ v ∧ v < 100 := dg_range h
theorem dg_r3 {l : TX} {p v : Int} (h : dg l p 3 = some v) : 0 ≤ v ∧ v < 1000 := dg_range h
theorem dg_r4 {l : TX} {p v : Int} (h : dg l p 4 = some v) : 0 ≤ v ∧ v < 10000 := dg_range h
end Mine
end
section
set_option Elab.async false
set_option linter.unusedVariables false
namespace Mine
open PySem PySem.Spec PySem.Calls PyProof.Rows PySem.W
/-- the digits behind a dot or a comma -/
def run (l : TX) : Nat := ((l.drop 1).takeWhile isDig).length
def dotted (l : TX) : Bool := sl l 0 1 == [46] || sl l 0 1 == [44]
def frac (l : TX) : TX := if dotted l = true then (l.drop 1).takeWhile isDig else []
theorem run_at : ∀ (r : TX) (i : Nat), i ≤ (r.takeWhile isDig).length → (!((r.drop i).take 1).isEmpty && ((r.drop i).take 1).all isDig) = decide (i < (r.takeWhile isDig).length)
  | [], i, h => by simp
  | c :: r, i, h => by
    by_cases hc : isDig c = true
    · rw [List.takeWhile_cons_of_pos hc] at h ⊢
      cases i with
      | zero => simp [hc]
      | succ i =>
        have := run_at r i (by simpa using h)
        simp only [List.drop_succ_cons, List.length_cons]
        rw [this]
        simp
    · rw [List.takeWhile_cons_of_neg hc] at h ⊢
      simp at h
      subst h
      simp [hc]
theorem run_test (l : TX) (i : Nat) (h : i ≤ run l) : (!(sl l (1 + (i : Int)) (1 + (i : Int) + 1)).isEmpty && (sl l (1 + (i : Int)) (1 + (i : Int) + 1)).all isDig) = decide (i < run l) := by
  have := run_at (l.drop 1) i h
  unfold sl
  rw [show (1 + (i : Int)).toNat = 1 + i by omega, show (1 + (i : Int) + 1).toNat - (1 + i) = 1 by omega, ← List.drop_drop]
  exact this
theorem take_run : ∀ (r : TX), r.take (r.takeWhile isDig).length = r.takeWhile isDig
  | [] => rfl
  | c :: r => by
    by_cases hc : isDig c = true
    · rw [List.takeWhile_cons_of_pos hc]; simp [take_run r]
    · rw [List.takeWhile_cons_of_neg hc]; rfl
theorem frac_cut (l : TX) : sl l 1 (1 + (run l : Int)) = (l.drop 1).takeWhile isDig := by
  unfold sl
  rw [show (1 + (run l : Int)).toNat - (1 : Int).toNat = run l by omega]
  exact take_run _
theorem run_le (l : TX) : run l ≤ l.length := by
  unfold run
  have := (List.takeWhile_sublist (p := isDig) (l := l.drop 1)).length_le
  rw [List.length_drop] at this
  omega
theorem Wl.count {c : Wd} {fr : Fx} {st : Sto} {test : Expr} {body : List Stmt} {f : Nat → Loc} : ∀ {K : Nat}, (∀ i, i < K → Bt c fr test (f i) st (.ok true) st) → (∀ i, i < K → Ex c fr body (f i) st (.ok .next) (f (i + 1)) st) → Bt c fr test (f K) st (.ok false) st → Wl c fr test body K (f 0) st (.ok .next) (f K) st := by
  intro K h1 h2 h3
  have : ∀ j i, i + j = K → Wl c fr test body j (f i) st (.ok .next) (f K) st := by
    intro j
    induction j with
    | zero => intro i e; obtain rfl : i = K := by omega
              exact .stop h3
    | succ j ih => exact fun i e => .turn (h1 i (by omega)) (h2 i (by omega)) (.inl rfl) (ih (i + 1) (by omega))
  exact this K 0 (by omega)
end Mine
end
section
set_option Elab.async false
set_option linter.unusedVariables false
namespace Mine
/-- a zone: none, utc, or so many seconds -/
inductive TZ where
  | no | utc | off (s : Int)
def tzEnd (mult h mi : Int) : Option TZ :=
  if (h == 0 && mi == 0) = true then some .utc else if mi > 59 then none else if h > 23 then none else some (.off (mult * (h * 60 + mi) * 60))
def tzPos (l : TX) : Int := if (sl l 3 4 == [58]) = true then 4 else 3
def tzMin (l : TX) : Option Int := if (l.length : Int) = 3 then some 0 else if (l.length : Int) ≠ tzPos l + 2 then none else dg l (tzPos l) 2
def tzMul (l : TX) : Option Int := if (sl l 0 1 == [45]) = true then some (-1) else if (sl l 0 1 == [43]) = true then some 1 else none
def parseTz (l : TX) : Option TZ :=
  if (l == [90] || l == [122]) = true then some .utc else
  if ¬ ((l.length : Int) = 3 ∨ (l.length : Int) = 5 ∨ (l.length : Int) = 6) then none else
  match tzMul l with
  | none => none
  | some mult =>
    match dg l 1 2 with
    | none => none
    | some h =>
      match tzMin l with
      | none => none
      | some mi => tzEnd mult h mi
end Mine
end
section
set_option Elab.async false
set_option linter.unusedVariables false
namespace Mine
/-- one turn of the reader of a clock -/
inductive Turn where
  | bad
  | tz (t : TZ)
  | go (pos : Int) (sep : Bool) (h mi s us : Int)
def signAt (l : TX) (pos : Int) : Bool := ([45, 43, 90, 122] : TX).contains ((sl l pos (pos + 1)).headD 0)
def us6 (f : TX) : Int := (num (f.take 6) : Int) * 10 ^ (6 - ((f.take 6).length : Int)).toNat
def isoDig (l : TX) (c pos : Int) (sep : Bool) (h mi s us : Int) : Turn :=
  if c < 3 then
    match dg l pos 2 with
    | none => .bad
    | some v => .go (pos + 2) sep (if c = 0 then v else h) (if c = 1 then v else mi) (if c = 2 then v else s) us
  else if c = 3 then
    if (frac (l.drop pos.toNat)).isEmpty = true then .go pos sep h mi s us
    else .go (pos + ((frac (l.drop pos.toNat)).length + 1)) sep h mi s (us6 (frac (l.drop pos.toNat)))
  else .go pos sep h mi s us
def isoTurn (l : TX) (c pos : Int) (sep : Bool) (h mi s us : Int) : Turn :=
  if signAt l pos = true then
    match parseTz (l.drop pos.toNat) with
    | none => .bad
    | some t => .tz t
  else if (c == 1 && sl l pos (pos + 1) == [58]) = true then isoDig l c (pos + 1) true h mi s us
  else if (c == 2 && sep) = true then
    if (sl l pos (pos + 1) == [58]) = true then isoDig l c (pos + 1) sep h mi s us else .bad
  else isoDig l c pos sep h mi s us
/-- the turns: n of them are left -/
def isoLoop (l : TX) : Nat → Int → Bool → Int → Int → Int → Int → Option (Int × Int × Int × Int × Int × TZ)
  | 0, pos, _, h, mi, s, us => some (pos, h, mi, s, us, .no)
  | n + 1, pos, sep, h, mi, s, us =>
    if pos < (l.length : Int) then
      match isoTurn l (5 - (n : Int)) pos sep h mi s us with
      | .bad => none
      | .tz t => some (l.length, h, mi, s, us, t)
      | .go pos sep h mi s us => isoLoop l n pos sep h mi s us
    else some (pos, h, mi, s, us, .no)
def isoEnd (l : TX) : Int × Int × Int × Int × Int × TZ → Option (Int × Int × Int × Int × TZ)
  | (pos, h, mi, s, us, t) => if pos < (l.length : Int) then none else if (h == 24 && (mi != 0 || s != 0 || us != 0)) = true then none else some (h, mi, s, us, t)
def isotime (l : TX) : Option (Int × Int × Int × Int × TZ) :=
  if (l.length : Int) < 2 then none else
  match isoLoop l 6 0 false 0 0 0 0 with
  | none => none
  | some x => isoEnd l x
end Mine
end
section
set_option Elab.async false
set_option linter.unusedVariables false
namespace Mine
/-- a moment: the day, the clock, the zone -/
structure Mom where
  y : Int
  mo : Int
  d : Int
  h : Int
  mi : Int
  s : Int
  us : Int
  t : TZ
def isoWhole (y mo d : Int) : Int × Int × Int × Int × TZ → Except String Mom
  | (h, mi, s, us, t) =>
    if h = 24 then
      if ¬ dayOk y mo d then .error VE else
      if before y mo + d + 1 ≤ 3652059 then .ok ⟨ordY (before y mo + d + 1), ordM (before y mo + d + 1), ordD (before y mo + d + 1), 0, 0, 0, 0, t⟩ else .error "OverflowError"
    else if dayOk y mo d ∧ clockOk h mi s us then .ok ⟨y, mo, d, h, mi, s, us, t⟩ else .error VE
def sepFits (sep : Option Nat) (l : TX) (p : Int) : Bool :=
  match sep with
  | none => true
  | some x => sl l p (p + 1) == [x]
def isoparse (sep : Option Nat) (l : TX) : Except String Mom :=
  match isodate l with
  | .error e => .error e
  | .ok (y, mo, d, p) =>
    if (l.length : Int) > p then
      if sepFits sep l p = true then
        match isotime (l.drop (p + 1).toNat) with
        | none => .error VE
        | some x => isoWhole y mo d x
      else .error VE
    else if dayOk y mo d then .ok ⟨y, mo, d, 0, 0, 0, 0, .no⟩ else .error VE
theorem isotime_24 {l : TX} {mi s us : Int} {t : TZ} (h : isotime l = some (24, mi, s, us, t)) : mi = 0 ∧ s = 0 ∧ us = 0 := by
  unfold isotime at h
  split at h
  · cases h
  · split at h
    · cases h
    · rename_i x hx
      obtain ⟨pos, a, b, c, d, t'⟩ := x
      unfold isoEnd at h
      dsimp only at h
      split at h
      · cases h
      · split at h
        · cases h
        · rename_i h1 h2
          cases h
          simp at h2
          exact ⟨h2.1.1, h2.1.2, h2.2⟩
end Mine
end
section
set_option Elab.async false
set_option linter.unusedVariables false
namespace Mine
theorem com3_pos {l : TX} {y mo p : Int} {x : Int × Int × Int × Int} (hp : 0 ≤ p) (h : com3 l y mo p = some x) : 0 ≤ x.2.2.2 := by
  unfold com3 at h
  split at h
  · cases h
  · cases h; show 0 ≤ p + 2; omega
theorem com2_pos {l : TX} {b : Bool} {y mo p : Int} {x : Int × Int × Int × Int} (hp : 0 ≤ p) (h : com2 l b y mo p = some x) : 0 ≤ x.2.2.2 := by
  unfold com2 at h
  split at h
  · split at h
    · cases h; exact hp
    · cases h
  · split at h
    · cases h
    · exact com3_pos (by split <;> omega) h
theorem com1_pos {l : TX} {b : Bool} {y p : Int} {x : Int × Int × Int × Int} (hp : 0 ≤ p) (h : com1 l b y p = some x) : 0 ≤ x.2.2.2 := by
  unfold com1 at h
  split at h
  · cases h
  · exact com2_pos (by omega) h
theorem common_pos {l : TX} {x : Int × Int × Int × Int} (h : common l = some x) : 0 ≤ x.2.2.2 := by
  unfold common at h
  split at h
  · cases h
  · split at h
    · cases h; show (0 : Int) ≤ 4; decide
    · exact com1_pos (by split <;> decide) h
theorem map_ok {α β : Type} {f : α → β} {e : Except String α} {y : β} (h : e.map f = .ok y) : ∃ x, e = .ok x ∧ y = f x := by
  cases e with
  | error _ => cases h
  | ok x => exact ⟨x, rfl, by cases h; rfl⟩
theorem uncW_pos {l : TX} {b : Bool} {y p : Int} {x : Int × Int} (hp : 0 ≤ p) (h : uncW l b y p = .ok x) : 0 ≤ x.2 := by
  unfold uncW at h
  split at h
  · cases h
  · split at h
    · split at h
      · cases h
      · split at h
        · cases h
        · obtain ⟨n, _, rfl⟩ := map_ok h
          show 0 ≤ p + 2 + (if b = true then 1 else 0) + 1
          split <;> omega
    · obtain ⟨n, _, rfl⟩ := map_ok h
      show 0 ≤ p + 2
      omega
theorem uncD_pos {l : TX} {y p : Int} {x : Int × Int} (hp : 0 ≤ p) (h : uncD l y p = .ok x) : 0 ≤ x.2 := by
  unfold uncD at h
  split at h
  · cases h
  · split at h
    · cases h
    · split at h
      · cases h
      · cases h; show 0 ≤ p + 3; omega
theorem uncommon_pos {l : TX} {x : Int × Int} (h : uncommon l = .ok x) : 0 ≤ x.2 := by
  unfold uncommon at h
  split at h
  · cases h
  · unfold unc1 at h
    have hp : (0 : Int) ≤ 4 + if (sl l 4 5 == [45]) = true then 1 else 0 := by split <;> decide
    generalize (4 + if (sl l 4 5 == [45]) = true then 1 else 0 : Int) = p at *
    unfold uncP at h
    split at h
    · exact uncW_pos (by omega) h
    · exact uncD_pos hp h
theorem isodate_pos {l : TX} {x : Int × Int × Int × Int} (h : isodate l = .ok x) : 0 ≤ x.2.2.2 := by
  unfold isodate at h
  split at h
  · rename_i hc
    cases h
    exact common_pos hc
  · obtain ⟨u, hu, rfl⟩ := map_ok h
    exact uncommon_pos (x := u) hu
theorem day_range {y mo d : Int} (h : dayOk y mo d) : 1 ≤ before y mo + d ∧ before y mo + d ≤ 3652059 := by
  obtain ⟨⟨h1, h2⟩, ⟨h3, h4⟩, h5, h6⟩ := h
  obtain ⟨a, b⟩ := yb_range h1 h2
  have e := yb_succ y
  have hy : yb (y + 1) ≤ 3652059 := by unfold yb; omega
  have hl := bi_cases (leap y)
  have : mo = 1 ∨ mo = 2 ∨ mo = 3 ∨ mo = 4 ∨ mo = 5 ∨ mo = 6 ∨ mo = 7 ∨ mo = 8 ∨ mo = 9 ∨ mo = 10 ∨ mo = 11 ∨ mo = 12 := by omega
  rcases this with rfl | rfl | rfl | rfl | rfl | rfl | rfl | rfl | rfl | rfl | rfl | rfl
  · rw [lk1] at h6; rw [bk1]; omega
  · rw [lk2] at h6; rw [bk2]; omega
  · rw [lk3] at h6; rw [bk3]; omega
  · rw [lk4] at h6; rw [bk4]; omega
  · rw [lk5] at h6; rw [bk5]; omega
  · rw [lk6] at h6; rw [bk6]; omega
  · rw [lk7] at h6; rw [bk7]; omega
  · rw [lk8] at h6; rw [bk8]; omega
  · rw [lk9] at h6; rw [bk9]; omega
  · rw [lk10] at h6; rw [bk10]; omega
  · rw [lk11] at h6; rw [bk11]; omega
  · rw [lk12] at h6; rw [bk12]; omega
end Mine
end
section
set_option Elab.async false
set_option linter.unusedVariables false
namespace Mine
def lawY (y mo : Int) : Int := if mo > 2 then y else y - 1
def lawM (mo : Int) : Int := if mo > 2 then mo - 3 else mo + 9
def lawNum (y mo d : Int) : Int := lawY y mo * 365 + lawY y mo / 4 - lawY y mo / 100 + lawY y mo / 400 + (153 * lawM mo + 2) / 5 + d
def ldR (n : Int) : Int := (n - 1) % 146097
def ldY (n : Int) : Int := (ldR n - ldR n / 1460 + ldR n / 36524 - ldR n / 146096) / 365
def ldS (n : Int) : Int := ldR n - (365 * ldY n + ldY n / 4 - ldY n / 100)
def ldM (n : Int) : Int := (5 * ldS n + 2) / 153
def lawDayY (n : Int) : Int := 400 * ((n - 1) / 146097) + ldY n + ldM n / 10
def lawDayM (n : Int) : Int := (ldM n + 2) % 12 + 1
def lawDayD (n : Int) : Int := ldS n - (153 * ldM n + 2) / 5 + 1
def offI : TZ → Option Int
  | .no => none
  | .utc => some 0
  | .off s => some s
end Mine
end
section
set_option Elab.async false
set_option linter.unusedVariables false
namespace Mine
theorem ldY_key {Y S R : Int} (h0 : 0 ≤ Y) (h1 : Y ≤ 399) (h2 : 0 ≤ S) (h3 : R = 365 * Y + Y / 4 - Y / 100 + S) (h4 : S ≤ 364 ∨ (S = 365 ∧ Y % 4 = 3 ∧ (Y % 100 ≠ 99 ∨ Y = 399))) :
    (R - R / 1460 + R / 36524 - R / 146096) / 365 = Y := by
  have hc : Y / 100 = 0 ∨ Y / 100 = 1 ∨ Y / 100 = 2 ∨ Y / 100 = 3 := by omega
  have hb : Y % 4 = 0 ∨ Y % 4 = 1 ∨ Y % 4 = 2 ∨ Y % 4 = 3 := by omega
  have e4 : Y = 4 * (Y / 4) + Y % 4 := by omega
  have e100 : Y = 100 * (Y / 100) + Y % 100 := by omega
  have r100 : 0 ≤ Y % 100 ∧ Y % 100 ≤ 99 := by omega
  generalize Y / 4 = a at *
  generalize Y / 100 = c at *
  generalize Y % 100 = p at *
  generalize Y % 4 = b at *
  have hj : R / 36524 = c ∨ R / 36524 = c + 1 := by
    rcases hc with rfl | rfl | rfl | rfl <;> omega
  have hk : R / 146096 = 0 ∨ R / 146096 = 1 := by omega
  have he : R / 1460 = a ∨ R / 1460 = a + 1 := by
    rcases hc with rfl | rfl | rfl | rfl <;> rcases hb with rfl | rfl | rfl | rfl <;> omega
  rcases hc with rfl | rfl | rfl | rfl <;> rcases hb with rfl | rfl | rfl | rfl <;> rcases he with he | he <;> rcases hj with hj | hj <;> rcases hk with hk | hk <;> rw [he, hj, hk] <;> omega
theorem bi_val (y : Int) : (leap y = true → bi (leap y) = 1) ∧ (leap y = false → bi (leap y) = 0) := ⟨fun e => (by rw [e]; rfl), fun e => (by rw [e]; rfl)⟩
/-- the day's number as the law has it -/
theorem lawNum_before {y mo d : Int} (h : 1 ≤ mo ∧ mo ≤ 12) : lawNum y mo d = before y mo + d + 306 := by
  have e := yb_succ y
  have e0 : yb y = (y - 1) * 365 + (y - 1) / 4 - (y - 1) / 100 + (y - 1) / 400 := rfl
  have hl := leap_iff y
  have hb := bi_val y
  have e1 : yb (y + 1) = y * 365 + y / 4 - y / 100 + y / 400 := by unfold yb; simp
  have : mo = 1 ∨ mo = 2 ∨ mo = 3 ∨ mo = 4 ∨ mo = 5 ∨ mo = 6 ∨ mo = 7 ∨ mo = 8 ∨ mo = 9 ∨ mo = 10 ∨ mo = 11 ∨ mo = 12 := by omega
  unfold lawNum lawY lawM
  rcases this with rfl | rfl | rfl | rfl | rfl | rfl | rfl | rfl | rfl | rfl | rfl | rfl
  · rw [bk1]; simp; omega
  · rw [bk2]; simp; omega
  · rw [bk3]; simp; omega
  · rw [bk4]; simp; omega
  · rw [bk5]; simp; omega
  · rw [bk6]; simp; omega
  · rw [bk7]; simp; omega
  · rw [bk8]; simp; omega
  · rw [bk9]; simp; omega
  · rw [bk10]; simp; omega
  · rw [bk11]; simp; omega
  · rw [bk12]; simp; omega
/-- out of the number comes the day -/
theorem lawDay_of {y mo d : Int} (h : dayOk y mo d) : lawDayY (lawNum y mo d) = y ∧ lawDayM (lawNum y mo d) = mo ∧ lawDayD (lawNum y mo d) = d := by
  obtain ⟨⟨h1, h2⟩, ⟨h3, h4⟩, h5, h6⟩ := h
  have hM : 0 ≤ lawM mo ∧ lawM mo ≤ 11 := by unfold lawM; split <;> omega
  have hYr : 0 ≤ lawY y mo := by unfold lawY; split <;> omega
  have hl := leap_iff y
  have hb := bi_val y
  -- the day within the March year
  have hS : ∃ S, S = (153 * lawM mo + 2) / 5 + (d - 1) ∧ 0 ≤ S ∧ (S ≤ 364 ∨ (S = 365 ∧ leap y = true ∧ mo = 2)) ∧ (5 * S + 2) / 153 = lawM mo := by
    refine ⟨_, rfl, ?_⟩
    have : mo = 1 ∨ mo = 2 ∨ mo = 3 ∨ mo = 4 ∨ mo = 5 ∨ mo = 6 ∨ mo = 7 ∨ mo = 8 ∨ mo = 9 ∨ mo = 10 ∨ mo = 11 ∨ mo = 12 := by omega
    unfold lawM
    rcases this with rfl | rfl | rfl | rfl | rfl | rfl | rfl | rfl | rfl | rfl | rfl | rfl
    · rw [lk1] at h6; simp; omega
    · rw [lk2] at h6
      cases hlp : leap y
      · rw [hlp] at h6 hb; simp [bi] at h6; simp; omega
      · rw [hlp] at h6 hb; simp [bi] at h6; simp; omega
    · rw [lk3] at h6; simp; omega
    · rw [lk4] at h6; simp; omega
    · rw [lk5] at h6; simp; omega
    · rw [lk6] at h6; simp; omega
    · rw [lk7] at h6; simp; omega
    · rw [lk8] at h6; simp; omega
    · rw [lk9] at h6; simp; omega
    · rw [lk10] at h6; simp; omega
    · rw [lk11] at h6; simp; omega
    · rw [lk12] at h6; simp; omega
  obtain ⟨S, eS, hS0, hS1, hSM⟩ := hS
  have hn : lawNum y mo d = lawY y mo * 365 + lawY y mo / 4 - lawY y mo / 100 + lawY y mo / 400 + S + 1 := by unfold lawNum; omega
  have hyy : lawY y mo = if mo > 2 then y else y - 1 := rfl
  have hmm : lawM mo = if mo > 2 then mo - 3 else mo + 9 := rfl
  generalize lawNum y mo d = n at *
  generalize hY : lawY y mo = Y at *
  generalize hMg : lawM mo = M at *
  have e400 : Y = 400 * (Y / 400) + Y % 400 := by omega
  have r400 : 0 ≤ Y % 400 ∧ Y % 400 ≤ 399 := by omega
  have q4 : Y / 4 = 100 * (Y / 400) + (Y % 400) / 4 := by omega
  have q100 : Y / 100 = 4 * (Y / 400) + (Y % 400) / 100 := by omega
  have hleap : S ≤ 364 ∨ (S = 365 ∧ (Y % 400) % 4 = 3 ∧ ((Y % 400) % 100 ≠ 99 ∨ Y % 400 = 399)) := by
    rcases hS1 with h | ⟨h, hlp, hmo⟩
    · exact .inl h
    · right
      rw [hl] at hlp
      rw [hmo, if_neg (by decide)] at hyy
      omega
  have hlt : 365 * (Y % 400) + (Y % 400) / 4 - (Y % 400) / 100 + S < 146097 := by omega
  have hge : 0 ≤ 365 * (Y % 400) + (Y % 400) / 4 - (Y % 400) / 100 + S := by omega
  have hA : (n - 1) / 146097 = Y / 400 := by omega
  have hR : ldR n = 365 * (Y % 400) + (Y % 400) / 4 - (Y % 400) / 100 + S := by unfold ldR; omega
  have hldY : ldY n = Y % 400 := ldY_key r400.1 r400.2 hS0 hR hleap
  have hldS : ldS n = S := by unfold ldS; rw [hldY, hR]; omega
  have hldM : ldM n = M := by unfold ldM; rw [hldS]; exact hSM
  unfold lawDayY lawDayM lawDayD
  rw [hldY, hldS, hldM, hA]
  by_cases h2 : mo > 2
  · rw [if_pos h2] at hyy hmm
    omega
  · rw [if_neg h2] at hyy hmm
    omega
end Mine
end
section
set_option Elab.async false
set_option linter.unusedVariables false
namespace Mine
theorem lawDay_ord {n : Int} (h1 : 1 ≤ n - 306) (h2 : n - 306 ≤ 3652059) : lawDayY n = ordY (n - 306) ∧ lawDayM n = ordM (n - 306) ∧ lawDayD n = ordD (n - 306) := by
  have hd := ord_spec h1 h2
  have e := lawNum_before (y := ordY (n - 306)) (mo := ordM (n - 306)) (d := ordD (n - 306)) hd.2.1
  rw [ord_back] at e
  have e2 : lawNum (ordY (n - 306)) (ordM (n - 306)) (ordD (n - 306)) = n := by omega
  have := lawDay_of hd
  rwa [e2] at this
theorem ord_uniq {y mo d : Int} (h : dayOk y mo d) : ordY (before y mo + d) = y ∧ ordM (before y mo + d) = mo ∧ ordD (before y mo + d) = d := by
  obtain ⟨r1, r2⟩ := day_range h
  have e := lawNum_before (y := y) (mo := mo) (d := d) h.2.1
  have a := lawDay_of h
  have b := lawDay_ord (n := lawNum y mo d) (by omega) (by omega)
  rw [show lawNum y mo d - 306 = before y mo + d by omega] at b
  exact ⟨b.1.symm.trans a.1, b.2.1.symm.trans a.2.1, b.2.2.symm.trans a.2.2⟩
-- parts of texts
theorem sl_mid {a m b : TX} {p q : Int} (hp : p = a.length) (hq : q = a.length + m.length) : sl (a ++ m ++ b) p q = m := by
  subst hp hq
  unfold sl
  rw [show ((a.length : Int) + (m.length : Int)).toNat - ((a.length : Int)).toNat = m.length by omega, show ((a.length : Int)).toNat = a.length by omega, List.append_assoc, List.drop_left, List.take_left]
theorem dg_mid {a b : TX} {w n : Nat} {p k : Int} (hn : n < 10 ^ w) (hp : p = a.length) (hk : k = w) : dg (a ++ dgs w n ++ b) p k = some (n : Int) := by
  have e : sl (a ++ dgs w n ++ b) p (p + k) = dgs w n := sl_mid hp (by rw [dgs_len]; omega)
  unfold dg
  rw [e, if_pos ⟨by rw [dgs_len]; omega, dgs_dig w n⟩, num_dgs w n hn]
/-- not digits there -/
theorem dg_non {l : TX} {p k : Int} {c : Nat} (h0 : 0 ≤ p) (hc : c ∈ sl l p (p + k)) (hd : isDig c = false) : dg l p k = none := by
  unfold dg
  rw [if_neg]
  intro ⟨_, h⟩
  have := List.all_eq_true.mp h c hc
  rw [hd] at this
  cases this
end Mine
end
section
set_option Elab.async false
set_option linter.unusedVariables false
namespace Mine
theorem dg_in {l a b : TX} {w n : Nat} {p k : Int} (h : l = a ++ dgs w n ++ b) (hn : n < 10 ^ w) (hp : p = a.length) (hk : k = w) : dg l p k = some (n : Int) := by
  subst h; exact dg_mid hn hp hk
theorem sl_in {l a m b : TX} {p q : Int} (h : l = a ++ m ++ b) (hp : p = a.length) (hq : q = a.length + m.length) : sl l p q = m := by
  subst h; exact sl_mid hp hq
theorem sl_one_at {l a b : TX} {c : Nat} {p q : Int} (h : l = a ++ [c] ++ b) (hp : p = a.length) (hq : q = p + 1) : sl l p q = [c] := sl_in h hp (by rw [hq, hp]; rfl)
/-- the sign between -/
def sgn (b : Bool) : TX := if b then [45] else []
/-- first digit of some digits -/
theorem dgs_head (w n : Nat) : ∃ c r, dgs (w + 1) n = c :: r ∧ isDig c = true ∧ c ≠ 45 ∧ c ≠ 87 := by
  cases h : dgs (w + 1) n with
  | nil => have := dgs_len (w + 1) n; rw [h] at this; simp at this
  | cons c r =>
    have hd := dgs_dig (w + 1) n
    rw [h, List.all_cons, Bool.and_eq_true] at hd
    refine ⟨c, r, rfl, hd.1, ?_, ?_⟩
    · intro e; rw [e] at hd; exact absurd hd.1 (by decide)
    · intro e; rw [e] at hd; exact absurd hd.1 (by decide)
/-- year, month, day -/
theorem common_ymd {y mo d : Nat} (b : Bool) (r : TX) (hy : y < 10000) (hm : mo < 100) (hd : d < 100) :
    common (dgs 4 y ++ sgn b ++ dgs 2 mo ++ sgn b ++ dgs 2 d ++ r) = some ((y : Int), (mo : Int), (d : Int), (if b then 10 else 8 : Int)) := by
  generalize hl : dgs 4 y ++ sgn b ++ dgs 2 mo ++ sgn b ++ dgs 2 d ++ r = l
  have hlen : (l.length : Int) = 8 + (if b then 2 else 0) + r.length := by
    rw [← hl]
    cases b <;> simp [dgs_len, sgn] <;> omega
  have e1 : dg l 0 4 = some (y : Int) := dg_in (a := []) (b := sgn b ++ dgs 2 mo ++ sgn b ++ dgs 2 d ++ r) (w := 4) (n := y) (by rw [← hl]; simp) hy rfl rfl
  obtain ⟨c, t, hc, hcd, hc45, _⟩ := dgs_head 1 mo
  have e2 : (sl l 4 (4 + 1) == [45]) = b := by
    cases b with
    | true => rw [sl_one_at (a := dgs 4 y) (b := dgs 2 mo ++ [45] ++ dgs 2 d ++ r) (c := 45) (by rw [← hl]; simp [sgn]) (by rw [dgs_len]; rfl) rfl]; rfl
    | false =>
      rw [sl_one_at (a := dgs 4 y) (b := t ++ dgs 2 d ++ r) (c := c) (by rw [← hl]; simp [sgn, hc]) (by rw [dgs_len]; rfl) rfl]
      simpa using hc45
  unfold common
  rw [e1, e2]
  dsimp only
  rw [if_neg (by rw [hlen]; split <;> omega)]
  unfold com1
  cases b with
  | true =>
    have e3 : dg l (if true = true then 4 + 1 else 4) 2 = some (mo : Int) := dg_in (a := dgs 4 y ++ [45]) (b := [45] ++ dgs 2 d ++ r) (w := 2) (n := mo) (by rw [← hl]; simp [sgn]) hm (by simp [dgs_len]) rfl
    rw [e3]
    dsimp only
    unfold com2
    have e4 : sl l (4 + 1 + 2) (4 + 1 + 2 + 1) = [45] := sl_one_at (a := dgs 4 y ++ [45] ++ dgs 2 mo) (b := dgs 2 d ++ r) (by rw [← hl]; simp [sgn]) (by simp [dgs_len]) rfl
    have e5 : dg l (4 + 1 + 2 + 1) 2 = some (d : Int) := dg_in (a := dgs 4 y ++ [45] ++ dgs 2 mo ++ [45]) (b := r) (w := 2) (n := d) (by rw [← hl]; simp [sgn]) hd (by simp [dgs_len]) rfl
    rw [if_pos rfl] at *
    rw [if_neg (by simp at hlen; omega), if_neg (by rw [e4]; simp)]
    unfold com3
    rw [if_pos rfl, e5]
    rfl
  | false =>
    have e3 : dg l (if false = true then 4 + 1 else 4) 2 = some (mo : Int) := dg_in (a := dgs 4 y) (b := dgs 2 d ++ r) (w := 2) (n := mo) (by rw [← hl]; simp [sgn]) hm (by simp [dgs_len]) rfl
    rw [e3]
    dsimp only
    unfold com2
    have e5 : dg l (4 + 2) 2 = some (d : Int) := dg_in (a := dgs 4 y ++ dgs 2 mo) (b := r) (w := 2) (n := d) (by rw [← hl]; simp [sgn]) hd (by simp [dgs_len]) rfl
    rw [if_neg Bool.false_ne_true] at *
    rw [if_neg (by simp at hlen; omega), if_neg (by simp)]
    unfold com3
    rw [if_neg Bool.false_ne_true, e5]
    rfl
end Mine
end
section
set_option Elab.async false
set_option linter.unusedVariables false
namespace Mine
theorem common_y {y : Nat} (hy : y < 10000) : common (dgs 4 y) = some ((y : Int), 1, 1, 4) := by
  have e1 : dg (dgs 4 y) 0 4 = some (y : Int) := dg_in (a := []) (b := []) (w := 4) (n := y) (by simp) hy rfl rfl
  unfold common
  rw [e1]
  dsimp only
  rw [if_pos (by rw [dgs_len]; decide)]
theorem common_ym {y mo : Nat} (hy : y < 10000) (hm : mo < 100) : common (dgs 4 y ++ [45] ++ dgs 2 mo) = some ((y : Int), (mo : Int), 1, 7) := by
  generalize hl : dgs 4 y ++ [45] ++ dgs 2 mo = l
  have hlen : (l.length : Int) = 7 := by rw [← hl]; simp [dgs_len]
  have e1 : dg l 0 4 = some (y : Int) := dg_in (a := []) (b := [45] ++ dgs 2 mo) (w := 4) (n := y) (by rw [← hl]; simp) hy rfl rfl
  have e2 : (sl l 4 (4 + 1) == [45]) = true := by
    rw [sl_one_at (a := dgs 4 y) (b := dgs 2 mo) (c := 45) (by rw [← hl]) (by rw [dgs_len]; rfl) rfl]; rfl
  have e3 : dg l (4 + 1) 2 = some (mo : Int) := dg_in (a := dgs 4 y ++ [45]) (b := []) (w := 2) (n := mo) (by rw [← hl]; simp) hm (by simp [dgs_len]) rfl
  unfold common
  rw [e1, e2]
  dsimp only
  rw [if_neg (by omega), if_pos rfl]
  unfold com1
  rw [e3]
  dsimp only
  unfold com2
  rw [if_pos (by omega), if_pos rfl]
  rfl
/-- a week's text is none of the common ones -/
theorem common_week {y : Nat} (b : Bool) (r : TX) (hy : y < 10000) : common (dgs 4 y ++ sgn b ++ [87] ++ r) = none := by
  generalize hl : dgs 4 y ++ sgn b ++ [87] ++ r = l
  have hlen : (l.length : Int) = 5 + (if b then 1 else 0) + r.length := by
    rw [← hl]
    cases b <;> simp [dgs_len, sgn] <;> omega
  have e1 : dg l 0 4 = some (y : Int) := dg_in (a := []) (b := sgn b ++ [87] ++ r) (w := 4) (n := y) (by rw [← hl]; simp) hy rfl rfl
  unfold common
  rw [e1]
  dsimp only
  rw [if_neg (by rw [hlen]; split <;> omega)]
  unfold com1
  have e3 : dg l (if (sl l 4 (4 + 1) == [45]) = true then 4 + 1 else 4) 2 = none := by
    cases b with
    | true =>
      rw [sl_one_at (a := dgs 4 y) (b := [87] ++ r) (c := 45) (by rw [← hl]; simp [sgn]) (by rw [dgs_len]; rfl) rfl]
      rw [if_pos (by decide)]
      refine dg_non (c := 87) (by decide) ?_ (by decide)
      unfold sl
      rw [← hl]
      simp [sgn, dgs_len, List.drop_append, List.take_append]
    | false =>
      rw [sl_one_at (a := dgs 4 y) (b := r) (c := 87) (by rw [← hl]; simp [sgn]) (by rw [dgs_len]; rfl) rfl]
      rw [if_neg (by decide)]
      refine dg_non (c := 87) (by decide) ?_ (by decide)
      unfold sl
      rw [← hl]
      simp [sgn, dgs_len, List.drop_append, List.take_append]
  rw [e3]
/-- nor is a day of the year, behind which no digit stands -/
theorem common_doy {y o : Nat} (b : Bool) (r : TX) (hy : y < 10000) (ho : o < 1000) (hr : r = [] ∨ ∃ c t, r = c :: t ∧ isDig c = false) : common (dgs 4 y ++ sgn b ++ dgs 3 o ++ r) = none := by
  generalize hl : dgs 4 y ++ sgn b ++ dgs 3 o ++ r = l
  have hlen : (l.length : Int) = 7 + (if b then 1 else 0) + r.length := by
    rw [← hl]
    cases b <;> simp [dgs_len, sgn] <;> omega
  have e1 : dg l 0 4 = some (y : Int) := dg_in (a := []) (b := sgn b ++ dgs 3 o ++ r) (w := 4) (n := y) (by rw [← hl]; simp) hy rfl rfl
  have e3o : dgs 3 o = dgs 2 (o / 10) ++ [48 + o % 10] := rfl
  obtain ⟨c, t, hc, hcd, hc45, _⟩ := dgs_head 1 (o / 10)
  unfold common
  rw [e1]
  dsimp only
  rw [if_neg (by rw [hlen]; split <;> omega)]
  unfold com1
  cases b with
  | true =>
    have e2 : sl l 4 (4 + 1) = [45] := sl_one_at (a := dgs 4 y) (b := dgs 3 o ++ r) (by rw [← hl]; simp [sgn]) (by rw [dgs_len]; rfl) rfl
    have e3 : dg l (4 + 1) 2 = some ((o / 10 : Nat) : Int) := dg_in (a := dgs 4 y ++ [45]) (b := [48 + o % 10] ++ r) (w := 2) (n := o / 10) (by rw [← hl]; simp [sgn, e3o]) (by omega) (by simp [dgs_len]) rfl
    have e4 : sl l (4 + 1 + 2) (4 + 1 + 2 + 1) = [48 + o % 10] := sl_one_at (a := dgs 4 y ++ [45] ++ dgs 2 (o / 10)) (b := r) (by rw [← hl]; simp [sgn, e3o]) (by simp [dgs_len]) rfl
    have hne : ([48 + o % 10] == ([45] : TX)) = false := by
      rw [beq_eq_false_iff_ne]
      intro e
      injection e with e
      omega
    rw [e2, if_pos (by decide), e3]
    dsimp only
    unfold com2
    rw [if_neg (by rw [hlen, if_pos rfl]; omega), e4, hne, if_pos ⟨by decide, rfl⟩]
  | false =>
    have e2 : sl l 4 (4 + 1) = [c] := sl_one_at (a := dgs 4 y) (b := t ++ [48 + o % 10] ++ r) (by rw [← hl]; simp [sgn, e3o, hc]) (by rw [dgs_len]; rfl) rfl
    have hne : ([c] == ([45] : TX)) = false := by
      rw [beq_eq_false_iff_ne]
      intro e
      injection e with e
      exact hc45 e
    have e3 : dg l 4 2 = some ((o / 10 : Nat) : Int) := dg_in (a := dgs 4 y) (b := [48 + o % 10] ++ r) (w := 2) (n := o / 10) (by rw [← hl]; simp [sgn, e3o]) (by omega) (by simp [dgs_len]) rfl
    rw [e2, hne, if_neg Bool.false_ne_true, e3]
    dsimp only
    unfold com2
    rw [if_neg (by rw [hlen, if_neg Bool.false_ne_true]; omega), if_neg (by simp), if_neg Bool.false_ne_true]
    unfold com3
    have e6 : dg l (4 + 2) 2 = none := by
      rcases hr with rfl | ⟨x, u, rfl, hx⟩
      · exact dg_short (by decide) (by decide) (by rw [hlen, if_neg Bool.false_ne_true]; decide)
      · refine dg_non (c := x) (by decide) ?_ hx
        have : sl l (4 + 2) (4 + 2 + 2) = [48 + o % 10, x] := sl_in (a := dgs 4 y ++ dgs 2 (o / 10)) (b := u) (by rw [← hl]; simp [sgn, e3o]) (by simp [dgs_len]) (by simp [dgs_len])
        rw [this]
        simp
    rw [e6]
end Mine
end
section
set_option Elab.async false
set_option linter.unusedVariables false
namespace Mine
theorem unc_sep {y : Nat} {l : TX} (b : Bool) (c : Nat) (t : TX) (hc : c ≠ 45) (hl : dgs 4 y ++ sgn b ++ c :: t = l) : (sl l 4 5 == [45]) = b := by
  cases b with
  | true => rw [sl_one_at (l := l) (p := 4) (q := 5) (a := dgs 4 y) (b := c :: t) (c := 45) (by rw [← hl]; simp [sgn]) (by rw [dgs_len]; rfl) rfl]; rfl
  | false =>
    rw [sl_one_at (l := l) (p := 4) (q := 5) (a := dgs 4 y) (b := t) (c := c) (by rw [← hl]; simp [sgn]) (by rw [dgs_len]; rfl) rfl]
    simpa using hc
theorem unc_pos (y : Nat) (b : Bool) : (4 + if b = true then 1 else 0 : Int) = ((dgs 4 y ++ sgn b).length : Nat) := by
  cases b <;> simp [dgs_len, sgn]
theorem uncommon_w {y w : Nat} (b : Bool) (t : TX) (hy : y < 10000) (hw : w < 100) :
    uncommon (dgs 4 y ++ sgn b ++ [87] ++ dgs 2 w ++ t) = (if t = [] then (weekdate y w 1).map (fun x => (x, (4 + (if b = true then 1 else 0) + 1 + 2 : Int))) else
      if ((sl (dgs 4 y ++ sgn b ++ [87] ++ dgs 2 w ++ t) (4 + (if b = true then 1 else 0) + 1 + 2) (4 + (if b = true then 1 else 0) + 1 + 2 + 1) == [45]) != b) = true then .error VE else
      match dg (dgs 4 y ++ sgn b ++ [87] ++ dgs 2 w ++ t) (4 + (if b = true then 1 else 0) + 1 + 2 + (if b = true then 1 else 0)) 1 with
      | none => .error VE
      | some d => (weekdate y w d).map (fun x => (x, (4 + (if b = true then 1 else 0) + 1 + 2 + (if b = true then 1 else 0) + 1 : Int)))) := by
  generalize hl : dgs 4 y ++ sgn b ++ [87] ++ dgs 2 w ++ t = l
  have hlen : (l.length : Int) = 4 + (if b = true then 1 else 0) + 1 + 2 + t.length := by
    rw [← hl]
    cases b <;> simp [dgs_len, sgn] <;> omega
  have e1 : dg l 0 4 = some (y : Int) := dg_in (a := []) (b := sgn b ++ [87] ++ dgs 2 w ++ t) (w := 4) (n := y) (by rw [← hl]; simp) hy rfl rfl
  have e2 : (sl l 4 5 == [45]) = b := unc_sep (y := y) b 87 (dgs 2 w ++ t) (by decide) (by rw [← hl]; simp)
  have e3 : sl l (4 + if b = true then 1 else 0) (4 + (if b = true then 1 else 0) + 1) = [87] := sl_one_at (a := dgs 4 y ++ sgn b) (b := dgs 2 w ++ t) (by rw [← hl]; simp) (unc_pos y b) rfl
  have e4 : dg l (4 + (if b = true then 1 else 0) + 1) 2 = some (w : Int) := dg_in (a := dgs 4 y ++ sgn b ++ [87]) (b := t) (w := 2) (n := w) (by rw [← hl]) hw (by rw [unc_pos y b]; simp; omega) rfl
  unfold uncommon
  rw [e1, e2]
  dsimp only
  unfold unc1 uncP
  rw [e3, if_pos (by decide)]
  unfold uncW
  rw [e4]
  dsimp only
  by_cases ht : t = []
  · subst ht
    rw [if_neg (by rw [hlen]; simp), if_pos rfl]
  · have : 0 < t.length := List.length_pos_iff.mpr ht
    rw [if_pos (by rw [hlen]; omega), if_neg ht]
    all_goals rfl
theorem uncommon_week {y w d : Nat} (b : Bool) (r : TX) (hy : y < 10000) (hw : w < 100) (hd : d < 10) :
    uncommon (dgs 4 y ++ sgn b ++ [87] ++ dgs 2 w ++ (sgn b ++ dgs 1 d ++ r)) = (weekdate y w d).map (fun x => (x, (if b then 10 else 8 : Int))) := by
  rw [uncommon_w b _ hy hw, if_neg (by cases b <;> simp [sgn, dgs])]
  generalize hl : dgs 4 y ++ sgn b ++ [87] ++ dgs 2 w ++ (sgn b ++ dgs 1 d ++ r) = l
  have e1 : dg l (4 + (if b = true then 1 else 0) + 1 + 2 + (if b = true then 1 else 0)) 1 = some (d : Int) := dg_in (a := dgs 4 y ++ sgn b ++ [87] ++ dgs 2 w ++ sgn b) (b := r) (w := 1) (n := d) (by rw [← hl]; simp) hd (by cases b <;> simp [dgs_len, sgn]) rfl
  have e2 : (sl l (4 + (if b = true then 1 else 0) + 1 + 2) (4 + (if b = true then 1 else 0) + 1 + 2 + 1) == [45]) = b := by
    cases b with
    | true => rw [sl_one_at (a := dgs 4 y ++ [45] ++ [87] ++ dgs 2 w) (b := dgs 1 d ++ r) (c := 45) (by rw [← hl]; simp [sgn]) (by simp [dgs_len]) rfl]; rfl
    | false =>
      rw [sl_one_at (a := dgs 4 y ++ [87] ++ dgs 2 w) (b := r) (c := 48 + d % 10) (by rw [← hl]; simp [sgn, dgs]) (by simp [dgs_len]) rfl]
      rw [beq_eq_false_iff_ne]
      intro e
      injection e with e
      omega
  rw [e1, e2]
  rw [if_neg (by cases b <;> decide)]
  dsimp only
  congr 1
  funext x
  cases b <;> rfl
theorem uncommon_doy {y o : Nat} (b : Bool) (r : TX) (hy : y < 10000) (ho : o < 1000) :
    uncommon (dgs 4 y ++ sgn b ++ dgs 3 o ++ r) = (if (o : Int) < 1 ∨ (o : Int) > 365 + bi (leap y) then .error VE else if ¬ (1 ≤ (y : Int) ∧ (y : Int) ≤ 9999) then .error VE else .ok (before y 1 + 1 + (o - 1), (if b then 8 else 7 : Int))) := by
  generalize hl : dgs 4 y ++ sgn b ++ dgs 3 o ++ r = l
  obtain ⟨c, t, hc, hcd, hc45, hc87⟩ := dgs_head 2 o
  have e1 : dg l 0 4 = some (y : Int) := dg_in (a := []) (b := sgn b ++ dgs 3 o ++ r) (w := 4) (n := y) (by rw [← hl]; simp) hy rfl rfl
  have e2 : (sl l 4 5 == [45]) = b := unc_sep (y := y) b c (t ++ r) hc45 (by rw [← hl, hc]; simp)
  have e3 : sl l (4 + if b = true then 1 else 0) (4 + (if b = true then 1 else 0) + 1) = [c] := sl_one_at (a := dgs 4 y ++ sgn b) (b := t ++ r) (by rw [← hl, hc]; simp) (unc_pos y b) rfl
  have e4 : dg l (4 + (if b = true then 1 else 0)) 3 = some (o : Int) := dg_in (a := dgs 4 y ++ sgn b) (b := r) (w := 3) (n := o) (by rw [← hl]) ho (unc_pos y b) rfl
  unfold uncommon
  rw [e1, e2]
  dsimp only
  unfold unc1 uncP
  have hne : ¬ ([c] == ([87] : TX)) = true := by
    simpa using hc87
  rw [e3, if_neg hne]
  unfold uncD
  rw [e4]
  dsimp only
  have ep : (4 + (if b = true then 1 else 0) + 3 : Int) = if b = true then 8 else 7 := by cases b <;> rfl
  rw [ep]
end Mine
end
section
set_option Elab.async false
set_option linter.unusedVariables false
namespace Mine
theorem sign_not_dig : ∀ c, isDig c = true → ([45, 43, 90, 122] : TX).contains c = false := fun c h => by
  unfold isDig at h
  simp at h
  simp
  omega
theorem signAt_at {l a t : TX} {c : Nat} {p : Int} (hl : l = a ++ c :: t) (hp : p = a.length) : signAt l p = ([45, 43, 90, 122] : TX).contains c := by
  unfold signAt
  rw [sl_one_at (a := a) (b := t) (c := c) (by rw [hl]; simp) hp rfl]
  rfl
theorem loop_end {l : TX} {n : Nat} {p h mi s us : Int} {sep : Bool} (hp : p = l.length) : isoLoop l n p sep h mi s us = some (p, h, mi, s, us, .no) := by
  cases n with
  | zero => rfl
  | succ n => unfold isoLoop; rw [if_neg (by omega)]
theorem drop_at {l a z : TX} {p : Int} (hl : l = a ++ z) (hp : p = a.length) : l.drop p.toNat = z := by
  subst hl hp
  simp
theorem loop_tz {l a t : TX} {c n : Nat} {p h mi s us : Int} {sep : Bool} (hl : l = a ++ c :: t) (hp : p = a.length) (hc : ([45, 43, 90, 122] : TX).contains c = true) :
    isoLoop l (n + 1) p sep h mi s us = match parseTz (c :: t) with | none => none | some z => some ((l.length : Int), h, mi, s, us, z) := by
  unfold isoLoop
  rw [if_pos (by rw [hl, hp]; simp; omega)]
  unfold isoTurn
  rw [signAt_at hl hp, if_pos hc, drop_at hl hp]
  cases parseTz (c :: t) <;> rfl
/-- two figures of the clock, without a sign ahead -/
theorem loop_two {l a b : TX} {v n : Nat} {p h mi s us : Int} {sep : Bool} (hl : l = a ++ dgs 2 v ++ b) (hp : p = a.length) (hv : v < 100) (hn : n = 5 ∨ ((n = 4 ∨ n = 3) ∧ sep = false)) :
    isoLoop l (n + 1) p sep h mi s us = isoLoop l n (p + 2) sep (if n = 5 then v else h) (if n = 4 then v else mi) (if n = 3 then v else s) us := by
  obtain ⟨x, t, hx, hxd, _, _⟩ := dgs_head 1 v
  have e1 : signAt l p = false := by rw [signAt_at (a := a) (t := t ++ b) (c := x) (by rw [hl, hx]; simp) hp]; exact sign_not_dig x hxd
  have e2 : sl l p (p + 1) = [x] := sl_one_at (a := a) (b := t ++ b) (by rw [hl, hx]; simp) hp rfl
  have e3 : dg l p 2 = some (v : Int) := dg_in (a := a) (b := b) (w := 2) (n := v) hl hv hp rfl
  have hne : (([x] : TX) == [58]) = false := by
    rw [beq_eq_false_iff_ne]
    intro e
    injection e with e
    rw [e] at hxd
    exact absurd hxd (by decide)
  unfold isoLoop
  rw [if_pos (by rw [hl, hp]; simp [dgs_len]; omega)]
  unfold isoTurn
  rw [e1, if_neg Bool.false_ne_true, e2, hne, Bool.and_false, if_neg Bool.false_ne_true]
  rcases hn with rfl | ⟨rfl | rfl, rfl⟩
  · rw [if_neg (by simp)]
    unfold isoDig
    rw [e3]
    rfl
  · rw [if_neg (by simp)]
    unfold isoDig
    rw [e3]
    rfl
  · rw [if_neg (by simp)]
    unfold isoDig
    rw [e3]
    rfl
/-- two figures behind a colon -/
theorem loop_col {l a b : TX} {v n : Nat} {p h mi s us : Int} {sep : Bool} (hl : l = a ++ [58] ++ dgs 2 v ++ b) (hp : p = a.length) (hv : v < 100) (hn : n = 4 ∨ (n = 3 ∧ sep = true)) :
    isoLoop l (n + 1) p sep h mi s us = isoLoop l n (p + 3) true h (if n = 4 then v else mi) (if n = 3 then v else s) us := by
  have e1 : signAt l p = false := by rw [signAt_at (a := a) (t := dgs 2 v ++ b) (c := 58) (by rw [hl]; simp) hp]; decide
  have e2 : sl l p (p + 1) = [58] := sl_one_at (a := a) (b := dgs 2 v ++ b) (by rw [hl]; simp) hp rfl
  have e3 : dg l (p + 1) 2 = some (v : Int) := dg_in (a := a ++ [58]) (b := b) (w := 2) (n := v) (by rw [hl]) hv (by rw [hp]; simp) rfl
  have e5 : p + 1 + 2 = p + 3 := by omega
  unfold isoLoop
  rw [if_pos (by rw [hl, hp]; simp [dgs_len]; omega)]
  unfold isoTurn
  rw [e1, if_neg Bool.false_ne_true, e2]
  rcases hn with rfl | ⟨rfl, rfl⟩
  · rw [if_pos (by decide)]
    unfold isoDig
    rw [e3]
    dsimp only
    rw [if_pos (by decide), e5]
    rfl
  · rw [if_neg (by decide), if_pos (by decide), if_pos (by decide)]
    unfold isoDig
    rw [e3]
    dsimp only
    rw [if_pos (by decide), e5]
    rfl
end Mine
end
section
set_option Elab.async false
set_option linter.unusedVariables false
namespace Mine
theorem take_digits : ∀ (f b : TX), f.all isDig = true → (b = [] ∨ ∃ c t, b = c :: t ∧ isDig c = false) → (f ++ b).takeWhile isDig = f
  | [], b, _, h => by
    rcases h with rfl | ⟨c, t, rfl, hc⟩
    · rfl
    · rw [List.nil_append, List.takeWhile_cons_of_neg (by rw [hc]; exact Bool.false_ne_true)]
  | x :: f, b, hf, h => by
    simp only [List.all_cons, Bool.and_eq_true] at hf
    rw [List.cons_append, List.takeWhile_cons_of_pos hf.1, take_digits f b hf.2 h]
theorem frac_at {f b : TX} {c : Nat} (hc : c = 46 ∨ c = 44) (hf : f.all isDig = true) (hb : b = [] ∨ ∃ c t, b = c :: t ∧ isDig c = false) : frac (c :: (f ++ b)) = f := by
  have hd : dotted (c :: (f ++ b)) = true := by
    unfold dotted
    have : sl (c :: (f ++ b)) 0 1 = [c] := rfl
    rw [this]
    rcases hc with rfl | rfl <;> decide
  unfold frac
  rw [if_pos hd, List.drop_succ_cons, List.drop_zero]
  exact take_digits f b hf hb
theorem frac_no {c : Nat} {t : TX} (h1 : c ≠ 46) (h2 : c ≠ 44) : frac (c :: t) = [] := by
  have hd : dotted (c :: t) = false := by
    unfold dotted
    have : sl (c :: t) 0 1 = [c] := rfl
    rw [this]
    simp [h1, h2]
  unfold frac
  rw [hd, if_neg Bool.false_ne_true]
theorem loop_frac {l a f b : TX} {c : Nat} {p h mi s us : Int} {sep : Bool} (hl : l = a ++ c :: (f ++ b)) (hp : p = a.length) (hc : c = 46 ∨ c = 44) (hf : f.all isDig = true) (hf0 : f ≠ []) (hb : b = [] ∨ ∃ c t, b = c :: t ∧ isDig c = false) :
    isoLoop l 3 p sep h mi s us = isoLoop l 2 (p + (f.length + 1)) sep h mi s (us6 f) := by
  have e1 : signAt l p = false := by rw [signAt_at (a := a) (t := f ++ b) (c := c) hl hp]; rcases hc with rfl | rfl <;> decide
  have e2 : frac (l.drop p.toNat) = f := by rw [drop_at (a := a) (z := c :: (f ++ b)) hl hp]; exact frac_at hc hf hb
  have hne : ¬ f.isEmpty = true := by
    cases f with
    | nil => exact absurd rfl hf0
    | cons x r => exact Bool.false_ne_true
  show (if p < (l.length : Int) then _ else _) = _
  rw [if_pos (by rw [hl, hp]; simp; omega)]
  unfold isoTurn
  rw [e1, if_neg Bool.false_ne_true, if_neg (by simp), if_neg (by simp)]
  unfold isoDig
  rw [if_neg (by decide), if_pos (by decide), e2, if_neg hne]
/-- a letter that stands there is never read -/
theorem loop_x {l a t : TX} {p : Int} (hl : l = a ++ 120 :: t) (hp : p = a.length) : ∀ (n : Nat) (sep : Bool) (h mi s us : Int), n ≤ 6 → isoLoop l n p sep h mi s us = none ∨ isoLoop l n p sep h mi s us = some (p, h, mi, s, us, .no)
  | 0, _, _, _, _, _, _ => .inr rfl
  | n + 1, sep, h, mi, s, us, hn => by
    have e1 : signAt l p = false := by rw [signAt_at (a := a) (t := t) (c := 120) hl hp]; decide
    have e2 : sl l p (p + 1) = [120] := sl_one_at (a := a) (b := t) (by rw [hl]; simp) hp rfl
    have e3 : dg l p 2 = none := by
      refine dg_non (c := 120) (by omega) ?_ (by decide)
      unfold sl
      rw [drop_at (a := a) (z := 120 :: t) hl hp, show (p + 2).toNat - p.toNat = 2 by omega]
      simp
    have e4 : frac (l.drop p.toNat) = [] := by rw [drop_at (a := a) (z := 120 :: t) hl hp]; exact frac_no (by decide) (by decide)
    unfold isoLoop
    rw [if_pos (by rw [hl, hp]; simp; omega)]
    unfold isoTurn
    rw [e1, if_neg Bool.false_ne_true, e2, if_neg (by simp)]
    by_cases hs : ((5 - (n : Int) == 2) && sep) = true
    · rw [if_pos hs, if_neg (by decide)]
      exact .inl rfl
    · rw [if_neg hs]
      unfold isoDig
      rw [e3, e4]
      by_cases h3 : 5 - (n : Int) < 3
      · rw [if_pos h3]; exact .inl rfl
      · rw [if_neg h3]
        by_cases h4 : 5 - (n : Int) = 3
        · rw [if_pos h4]
          exact loop_x hl hp n sep h mi s us (by omega)
        · rw [if_neg h4]
          exact loop_x hl hp n sep h mi s us (by omega)
end Mine
end
section
set_option Elab.async false
set_option linter.unusedVariables false
namespace Mine
def col (b : Bool) : TX := if b then [58] else []
/-- the clock's text: so many parts, with colons or without -/
def ckT (m : Nat) (b : Bool) (h mi s : Nat) (fr : TX) : TX :=
  match m with
  | 0 => dgs 2 h
  | 1 => dgs 2 h ++ col b ++ dgs 2 mi
  | 2 => dgs 2 h ++ col b ++ dgs 2 mi ++ col b ++ dgs 2 s
  | _ => dgs 2 h ++ col b ++ dgs 2 mi ++ col b ++ dgs 2 s ++ fr
theorem ck_first {l b : TX} {h : Nat} (hl : l = dgs 2 h ++ b) (hh : h < 100) : isoLoop l 6 0 false 0 0 0 0 = isoLoop l 5 2 false h 0 0 0 := by
  exact loop_two (l := l) (a := []) (b := b) (v := h) (n := 5) (p := 0) (h := 0) (mi := 0) (s := 0) (us := 0) (sep := false) (by rw [hl]; simp) rfl hh (.inl rfl)
theorem ck_min {l z : TX} {h mi : Nat} (b : Bool) (hl : l = dgs 2 h ++ col b ++ dgs 2 mi ++ z) (hm : mi < 100) : isoLoop l 5 2 false h 0 0 0 = isoLoop l 4 (4 + if b then 1 else 0) b h mi 0 0 := by
  cases b with
  | true =>
    rw [loop_col (a := dgs 2 h) (b := z) (v := mi) (n := 4) (by rw [hl]; simp [col]) (by simp [dgs_len]) hm (.inl rfl)]
    rfl
  | false =>
    rw [loop_two (a := dgs 2 h) (b := z) (v := mi) (n := 4) (by rw [hl]; simp [col]) (by simp [dgs_len]) hm (.inr ⟨.inl rfl, rfl⟩)]
    rfl
theorem ck_sec {l z : TX} {h mi s : Nat} (b : Bool) (hl : l = dgs 2 h ++ col b ++ dgs 2 mi ++ col b ++ dgs 2 s ++ z) (hs : s < 100) : isoLoop l 4 (4 + if b then 1 else 0) b h mi 0 0 = isoLoop l 3 (6 + if b then 2 else 0) b h mi s 0 := by
  cases b with
  | true =>
    rw [loop_col (a := dgs 2 h ++ [58] ++ dgs 2 mi) (b := z) (v := s) (n := 3) (by rw [hl]; simp [col]) (by simp [dgs_len]) hs (.inr ⟨rfl, rfl⟩)]
    rfl
  | false =>
    rw [loop_two (a := dgs 2 h ++ dgs 2 mi) (b := z) (v := s) (n := 3) (by rw [hl]; simp [col]) (by simp [dgs_len]) hs (.inr ⟨.inr rfl, rfl⟩)]
    rfl
theorem ck_frac {l z f : TX} {c h mi s : Nat} (b : Bool) (hl : l = dgs 2 h ++ col b ++ dgs 2 mi ++ col b ++ dgs 2 s ++ c :: (f ++ z)) (hc : c = 46 ∨ c = 44) (hf : f.all isDig = true) (hf0 : f ≠ []) (hz : z = [] ∨ ∃ c t, z = c :: t ∧ isDig c = false) :
    isoLoop l 3 (6 + if b then 2 else 0) b h mi s 0 = isoLoop l 2 ((6 + if b then 2 else 0) + (f.length + 1)) b h mi s (us6 f) :=
  loop_frac (a := dgs 2 h ++ col b ++ dgs 2 mi ++ col b ++ dgs 2 s) hl (by cases b <;> simp [dgs_len, col]) hc hf hf0 hz
/-- the parts told -/
def ckMi (m mi : Nat) : Nat := if 1 ≤ m then mi else 0
def ckS (m s : Nat) : Nat := if 2 ≤ m then s else 0
def ckU (m : Nat) (f : TX) : Int := if m = 3 then us6 f else 0
/-- what is left when the clock's own part is read -/
theorem ck_loop {z f : TX} {m c h mi s : Nat} (b : Bool) (hm : m ≤ 3) (hh : h < 100) (hmi : mi < 100) (hs : s < 100) (hc : c = 46 ∨ c = 44) (hf : f.all isDig = true) (hf0 : f ≠ []) (hz : m = 3 → z = [] ∨ ∃ c t, z = c :: t ∧ isDig c = false) :
    ∃ sep, isoLoop (ckT m b h mi s (c :: f) ++ z) 6 0 false 0 0 0 0 = isoLoop (ckT m b h mi s (c :: f) ++ z) (5 - m) ((ckT m b h mi s (c :: f)).length : Int) sep h (ckMi m mi) (ckS m s) (ckU m f) := by
  have : m = 0 ∨ m = 1 ∨ m = 2 ∨ m = 3 := by omega
  rcases this with rfl | rfl | rfl | rfl
  · refine ⟨false, ?_⟩
    rw [ck_first (l := ckT 0 b h mi s (c :: f) ++ z) (h := h) (b := z) rfl hh]
    rfl
  · refine ⟨b, ?_⟩
    have el : ckT 1 b h mi s (c :: f) ++ z = dgs 2 h ++ col b ++ dgs 2 mi ++ z := rfl
    rw [ck_first (h := h) (b := col b ++ dgs 2 mi ++ z) (by rw [el]; simp) hh, ck_min b el hmi]
    have : ((ckT 1 b h mi s (c :: f)).length : Int) = 4 + if b then 1 else 0 := by cases b <;> simp [ckT, col, dgs_len]
    rw [this]
    rfl
  · refine ⟨b, ?_⟩
    have el : ckT 2 b h mi s (c :: f) ++ z = dgs 2 h ++ col b ++ dgs 2 mi ++ col b ++ dgs 2 s ++ z := rfl
    rw [ck_first (h := h) (b := col b ++ dgs 2 mi ++ col b ++ dgs 2 s ++ z) (by rw [el]; simp) hh, ck_min (z := col b ++ dgs 2 s ++ z) b (by rw [el]; simp) hmi, ck_sec b el hs]
    have : ((ckT 2 b h mi s (c :: f)).length : Int) = 6 + if b then 2 else 0 := by cases b <;> simp [ckT, col, dgs_len]
    rw [this]
    rfl
  · refine ⟨b, ?_⟩
    have el : ckT 3 b h mi s (c :: f) ++ z = dgs 2 h ++ col b ++ dgs 2 mi ++ col b ++ dgs 2 s ++ c :: (f ++ z) := by simp [ckT]
    rw [ck_first (h := h) (b := col b ++ dgs 2 mi ++ col b ++ dgs 2 s ++ c :: (f ++ z)) (by rw [el]; simp) hh, ck_min (z := col b ++ dgs 2 s ++ c :: (f ++ z)) b (by rw [el]; simp) hmi, ck_sec (z := c :: (f ++ z)) b el hs, ck_frac b el hc hf hf0 (hz rfl)]
    have : ((ckT 3 b h mi s (c :: f)).length : Int) = (6 + if b then 2 else 0) + (f.length + 1) := by cases b <;> simp [ckT, col, dgs_len] <;> omega
    rw [this]
    rfl
end Mine
end
section
set_option Elab.async false
set_option linter.unusedVariables false
namespace Mine
/-- an offset's sign -/
def pm (minus : Bool) : TX := if minus then [45] else [43]
theorem tzMul_pm (minus : Bool) (t : TX) : tzMul (pm minus ++ t) = some (if minus then -1 else 1) := by
  unfold tzMul
  cases minus with
  | true =>
    have : sl (pm true ++ t) 0 1 = [45] := rfl
    rw [this]; rfl
  | false =>
    have : sl (pm false ++ t) 0 1 = [43] := rfl
    rw [this]; rfl
theorem not_z (minus : Bool) (t : TX) : ((pm minus ++ t == [90]) || (pm minus ++ t == [122])) = false := by
  cases minus <;> simp [pm]
/-- hours alone -/
theorem tz_h (minus : Bool) {hh : Nat} (h1 : hh < 100) : parseTz (pm minus ++ dgs 2 hh) = tzEnd (if minus then -1 else 1) hh 0 := by
  have hlen : ((pm minus ++ dgs 2 hh).length : Int) = 3 := by cases minus <;> simp [pm, dgs_len]
  have e1 : dg (pm minus ++ dgs 2 hh) 1 2 = some (hh : Int) := dg_in (a := pm minus) (b := []) (w := 2) (n := hh) (by simp) h1 (by cases minus <;> rfl) rfl
  unfold parseTz
  rw [not_z, if_neg Bool.false_ne_true, if_neg (by rw [hlen]; simp), tzMul_pm]
  dsimp only
  rw [e1]
  dsimp only
  unfold tzMin
  rw [if_pos hlen]
/-- hours and minutes -/
theorem tz_hm (minus cb : Bool) {hh mm : Nat} (h1 : hh < 100) (h2 : mm < 100) : parseTz (pm minus ++ dgs 2 hh ++ col cb ++ dgs 2 mm) = tzEnd (if minus then -1 else 1) hh mm := by
  generalize hl : pm minus ++ dgs 2 hh ++ col cb ++ dgs 2 mm = l
  have hlen : (l.length : Int) = 5 + if cb then 1 else 0 := by rw [← hl]; cases minus <;> cases cb <;> simp [pm, col, dgs_len]
  have e1 : dg l 1 2 = some (hh : Int) := dg_in (a := pm minus) (b := col cb ++ dgs 2 mm) (w := 2) (n := hh) (by rw [← hl]; simp) h1 (by cases minus <;> rfl) rfl
  have ep : tzPos l = 3 + if cb then 1 else 0 := by
    unfold tzPos
    cases cb with
    | true =>
      rw [sl_one_at (l := l) (p := 3) (q := 4) (a := pm minus ++ dgs 2 hh) (b := dgs 2 mm) (c := 58) (by rw [← hl]; simp [col]) (by cases minus <;> simp [pm, dgs_len]) rfl]
      rfl
    | false =>
      obtain ⟨c, t, hc, hcd, _, _⟩ := dgs_head 1 mm
      rw [sl_one_at (l := l) (p := 3) (q := 4) (a := pm minus ++ dgs 2 hh) (b := t) (c := c) (by rw [← hl]; simp [col, hc]) (by cases minus <;> simp [pm, dgs_len]) rfl]
      have : (([c] : TX) == [58]) = false := by
        rw [beq_eq_false_iff_ne]
        intro e
        injection e with e
        rw [e] at hcd
        exact absurd hcd (by decide)
      rw [this]
      rfl
  have e2 : dg l (tzPos l) 2 = some (mm : Int) := dg_in (a := pm minus ++ dgs 2 hh ++ col cb) (b := []) (w := 2) (n := mm) (by rw [← hl]; simp) h2 (by rw [ep]; cases minus <;> cases cb <;> simp [pm, col, dgs_len]) rfl
  have enz : ((l == [90]) || (l == [122])) = false := by
    have := not_z minus (dgs 2 hh ++ col cb ++ dgs 2 mm)
    rw [← hl]
    simpa using this
  have emul : tzMul l = some (if minus then -1 else 1) := by
    have := tzMul_pm minus (dgs 2 hh ++ col cb ++ dgs 2 mm)
    rw [← hl]
    simpa using this
  unfold parseTz
  rw [enz, if_neg Bool.false_ne_true, if_neg (by rw [hlen]; cases cb <;> simp), emul]
  dsimp only
  rw [e1]
  dsimp only
  unfold tzMin
  rw [if_neg (by rw [hlen]; split <;> omega), if_neg (by rw [hlen, ep]; cases cb <;> simp), e2]
theorem tz_Z : parseTz [90] = some .utc ∧ parseTz [122] = some .utc := ⟨rfl, rfl⟩
end Mine
end
section
set_option Elab.async false
set_option linter.unusedVariables false
namespace Mine
/-- the whole texts of days -/
theorem isodate_ymd {y mo d : Nat} (b : Bool) (r : TX) (hy : y < 10000) (hm : mo < 100) (hd : d < 100) :
    isodate (dgs 4 y ++ sgn b ++ dgs 2 mo ++ sgn b ++ dgs 2 d ++ r) = .ok ((y : Int), (mo : Int), (d : Int), ((dgs 4 y ++ sgn b ++ dgs 2 mo ++ sgn b ++ dgs 2 d).length : Int)) := by
  unfold isodate
  rw [common_ymd b r hy hm hd]
  have : ((dgs 4 y ++ sgn b ++ dgs 2 mo ++ sgn b ++ dgs 2 d).length : Int) = if b then 10 else 8 := by cases b <;> simp [dgs_len, sgn]
  rw [this]
theorem isodate_y {y : Nat} (hy : y < 10000) : isodate (dgs 4 y) = .ok ((y : Int), 1, 1, ((dgs 4 y).length : Int)) := by
  unfold isodate
  rw [common_y hy, dgs_len]
  rfl
theorem isodate_ym {y mo : Nat} (hy : y < 10000) (hm : mo < 100) : isodate (dgs 4 y ++ [45] ++ dgs 2 mo) = .ok ((y : Int), (mo : Int), 1, ((dgs 4 y ++ [45] ++ dgs 2 mo).length : Int)) := by
  unfold isodate
  rw [common_ym hy hm]
  have : ((dgs 4 y ++ [45] ++ dgs 2 mo).length : Int) = 7 := by simp [dgs_len]
  rw [this]
theorem isodate_week {y w d : Nat} (b : Bool) (r : TX) (hy : y < 10000) (hw : w < 100) (hd : d < 10) :
    isodate (dgs 4 y ++ sgn b ++ [87] ++ dgs 2 w ++ sgn b ++ dgs 1 d ++ r) = (weekdate y w d).map fun x => (ordY x, ordM x, ordD x, ((dgs 4 y ++ sgn b ++ [87] ++ dgs 2 w ++ sgn b ++ dgs 1 d).length : Int)) := by
  have h1 := common_week (y := y) b (dgs 2 w ++ sgn b ++ dgs 1 d ++ r) hy
  have h2 := uncommon_week (y := y) (w := w) (d := d) b r hy hw hd
  have e1 : dgs 4 y ++ sgn b ++ [87] ++ (dgs 2 w ++ sgn b ++ dgs 1 d ++ r) = dgs 4 y ++ sgn b ++ [87] ++ dgs 2 w ++ sgn b ++ dgs 1 d ++ r := by simp
  have e2 : dgs 4 y ++ sgn b ++ [87] ++ dgs 2 w ++ (sgn b ++ dgs 1 d ++ r) = dgs 4 y ++ sgn b ++ [87] ++ dgs 2 w ++ sgn b ++ dgs 1 d ++ r := by simp
  rw [e1] at h1
  rw [e2] at h2
  unfold isodate
  rw [h1, h2]
  have : ((dgs 4 y ++ sgn b ++ [87] ++ dgs 2 w ++ sgn b ++ dgs 1 d).length : Int) = if b then 10 else 8 := by cases b <;> simp [dgs_len, sgn]
  rw [this]
  cases weekdate y w d <;> rfl
theorem isodate_w {y w : Nat} (b : Bool) (hy : y < 10000) (hw : w < 100) :
    isodate (dgs 4 y ++ sgn b ++ [87] ++ dgs 2 w) = (weekdate y w 1).map fun x => (ordY x, ordM x, ordD x, ((dgs 4 y ++ sgn b ++ [87] ++ dgs 2 w).length : Int)) := by
  have h1 := common_week (y := y) b (dgs 2 w) hy
  have h2 := uncommon_w (y := y) (w := w) b [] hy hw
  rw [List.append_nil, if_pos rfl] at h2
  unfold isodate
  rw [h1, h2]
  have : ((dgs 4 y ++ sgn b ++ [87] ++ dgs 2 w).length : Int) = 4 + (if b = true then 1 else 0) + 1 + 2 := by cases b <;> simp [dgs_len, sgn]
  rw [this]
  cases weekdate y w 1 <;> rfl
theorem isodate_doy {y o : Nat} (b : Bool) (r : TX) (hy : y < 10000) (ho : o < 1000) (hr : r = [] ∨ ∃ c t, r = c :: t ∧ isDig c = false) :
    isodate (dgs 4 y ++ sgn b ++ dgs 3 o ++ r) = if (o : Int) < 1 ∨ (o : Int) > 365 + bi (leap y) then .error VE else if ¬ (1 ≤ (y : Int) ∧ (y : Int) ≤ 9999) then .error VE else
      .ok (ordY (before y 1 + 1 + (o - 1)), ordM (before y 1 + 1 + (o - 1)), ordD (before y 1 + 1 + (o - 1)), ((dgs 4 y ++ sgn b ++ dgs 3 o).length : Int)) := by
  unfold isodate
  rw [common_doy b r hy ho hr, uncommon_doy b r hy ho]
  have : ((dgs 4 y ++ sgn b ++ dgs 3 o).length : Int) = if b then 8 else 7 := by cases b <;> simp [dgs_len, sgn]
  rw [this]
  by_cases h1 : (o : Int) < 1 ∨ (o : Int) > 365 + bi (leap y)
  · rw [if_pos h1, if_pos h1]; rfl
  · rw [if_neg h1, if_neg h1]
    by_cases h2 : ¬ (1 ≤ (y : Int) ∧ (y : Int) ≤ 9999)
    · rw [if_pos h2, if_pos h2]; rfl
    · rw [if_neg h2, if_neg h2]; rfl
/-- a text t and what stands behind it: read as a day, or refused as it should be -/
def DayT (t r : TX) (refused : Bool) (y mo d : Int) : Prop :=
  (refused = false ∧ isodate (t ++ r) = .ok (y, mo, d, (t.length : Int)) ∧ dayOk y mo d) ∨
  (refused = true ∧ (isodate (t ++ r) = .error VE ∨ ∃ y' mo' d', isodate (t ++ r) = .ok (y', mo', d', (t.length : Int)) ∧ ¬ dayOk y' mo' d'))
def Tail (r : TX) : Prop := r = [] ∨ ∃ c t, r = c :: t ∧ isDig c = false
theorem yb_mono {a b : Int} (h : a ≤ b) : yb a ≤ yb b := by unfold yb; omega
theorem ordY_of {n y : Int} (h1 : 1 ≤ n) (h2 : n ≤ 3652059) (h3 : yb y < n) (h4 : n ≤ yb (y + 1)) : ordY n = y := by
  obtain ⟨a1, a2, a3, a4⟩ := ordY_spec h1 h2
  by_cases h : ordY n < y
  · have := yb_mono (a := ordY n + 1) (b := y) (by omega)
    omega
  · by_cases h' : y < ordY n
    · have := yb_mono (a := y + 1) (b := ordY n) (by omega)
      omega
    · omega
theorem yb_lo {y : Int} (h : 1 ≤ y) : 0 ≤ yb y := by unfold yb; omega
theorem lawNum_one (y : Int) : lawNum y 1 1 = yb y + 307 := by
  rw [lawNum_before (by omega), before_one]; omega
/-- the law's own day: its number, and what follows from it -/
structure Day (y N : Int) : Prop where
  y1 : 1 ≤ y
  y2 : y ≤ 9998
  n1 : yb y + 307 ≤ N
  n2 : N ≤ yb (y + 1) + 306
theorem Day.of {n0 n1 : Int} : Day (1 + n0 % 9998) (lawNum (1 + n0 % 9998) 1 1 + n1 % (lawNum (1 + n0 % 9998 + 1) 1 1 - lawNum (1 + n0 % 9998) 1 1)) := by
  generalize hy : 1 + n0 % 9998 = y
  rw [lawNum_one, lawNum_one]
  have hl := bi_cases (leap y)
  have e := yb_succ y
  have hp : 0 < yb (y + 1) + 307 - (yb y + 307) := by omega
  have := Int.emod_nonneg n1 (b := yb (y + 1) + 307 - (yb y + 307)) (by omega)
  have := Int.emod_lt_of_pos n1 hp
  refine ⟨by omega, by omega, by omega, by omega⟩
theorem Day.rng {y N : Int} (D : Day y N) : 1 ≤ N - 306 ∧ N - 306 ≤ 3651694 := by
  have := yb_lo D.y1
  have := yb_mono (a := y + 1) (b := 9999) (by have := D.y2; omega)
  have e : yb 9999 = 3651694 := by decide
  have := D.n1
  have := D.n2
  omega
theorem Day.year {y N : Int} (D : Day y N) : lawDayY N = y := by
  have r := D.rng
  rw [(lawDay_ord r.1 (by omega)).1]
  exact ordY_of r.1 (by omega) (by have := D.n1; omega) (by have := D.n2; omega)
theorem Day.ok {y N : Int} (D : Day y N) : dayOk y (lawDayM N) (lawDayD N) := by
  have r := D.rng
  have e := lawDay_ord (n := N) r.1 (by omega)
  have := ord_spec (n := N - 306) r.1 (by omega)
  rw [← e.1, ← e.2.1, ← e.2.2, D.year] at this
  exact this
theorem Day.num {y N : Int} (D : Day y N) : before y (lawDayM N) + lawDayD N = N - 306 := by
  have r := D.rng
  have e := lawDay_ord (n := N) r.1 (by omega)
  have := ord_back (N - 306)
  rw [← e.1, ← e.2.1, ← e.2.2, D.year] at this
  exact this
/-- weeks -/
def thu (N : Int) : Int := N - (N + 1) % 7 + 3
def own (N : Int) : Int := lawDayY (thu N)
def cnt (N : Int) : Int := (thu N - lawNum (own N) 1 1) / 7 + 1
theorem own_spec {y N : Int} (D : Day y N) : 1 ≤ own N ∧ own N ≤ 9999 ∧ yb (own N) + 307 ≤ thu N ∧ thu N ≤ yb (own N) + 366 + 306 ∧ 1 ≤ thu N - 3 - 306 := by
  have r := D.rng
  have h1 : 1 ≤ thu N - 306 := by unfold thu; omega
  have h2 : thu N - 306 ≤ 3652059 := by unfold thu; omega
  have e := (lawDay_ord h1 h2).1
  obtain ⟨a1, a2, a3, a4⟩ := ordY_spec h1 h2
  have e' : own N = ordY (thu N - 306) := e
  rw [← e'] at a1 a2 a3 a4
  rw [yb_succ] at a2
  have hl := bi_cases (leap (own N))
  refine ⟨a3, a4, by omega, by omega, ?_⟩
  unfold thu
  omega
theorem cnt_spec {y N : Int} (D : Day y N) : 1 ≤ cnt N ∧ cnt N ≤ 53 := by
  obtain ⟨h1, h2, h3, h4, h5⟩ := own_spec D
  unfold cnt
  rw [lawNum_one]
  omega
theorem weekN_own {y N : Int} (D : Day y N) {d : Int} : weekN (own N) (cnt N) d = thu N - 306 - 3 + (d - 1) := by
  obtain ⟨h1, h2, h3, h4, h5⟩ := own_spec D
  unfold weekN week1 cnt
  rw [lawNum_one, before_one]
  have : (thu N + 1) % 7 = 3 := by unfold thu; omega
  omega
theorem weekdate_own {y N : Int} (D : Day y N) {d : Int} (h1 : 1 ≤ d) (h2 : d ≤ 7) : weekdate (own N) (cnt N) d = .ok (thu N - 306 - 3 + (d - 1)) := by
  obtain ⟨a1, a2, a3, a4, a5⟩ := own_spec D
  have c := cnt_spec D
  have r := D.rng
  unfold weekdate
  rw [if_neg (by omega), if_neg (by omega), if_neg (by omega), weekN_own D, if_pos]
  unfold thu
  omega
theorem weekdate_bad {y w d : Int} (h : ¬ (0 < w ∧ w < 54) ∨ ¬ (0 < d ∧ d < 8)) : weekdate y w d = .error VE := by
  unfold weekdate
  by_cases h1 : ¬ (0 < w ∧ w < 54)
  · rw [if_pos h1]
  · rw [if_neg h1, if_pos (h.resolve_left h1)]
end Mine
end
section
set_option Elab.async false
set_option linter.unusedVariables false
namespace Mine
theorem dz4 {y : Int} (h1 : 0 ≤ y) (h2 : y < 10000) : dz true (some 4) y = dgs 4 y.toNat := by
  obtain ⟨n, rfl⟩ := Int.eq_ofNat_of_zero_le h1
  exact dz_pad (by decide) (by omega)
theorem dz2 {y : Int} (h1 : 0 ≤ y) (h2 : y < 100) : dz true (some 2) y = dgs 2 y.toNat := by
  obtain ⟨n, rfl⟩ := Int.eq_ofNat_of_zero_le h1
  exact dz_pad (by decide) (by omega)
theorem dz3 {y : Int} (h1 : 0 ≤ y) (h2 : y < 1000) : dz true (some 3) y = dgs 3 y.toNat := by
  obtain ⟨n, rfl⟩ := Int.eq_ofNat_of_zero_le h1
  exact dz_pad (by decide) (by omega)
theorem dz9 {y : Int} (h1 : 0 ≤ y) (h2 : y < 1000000000) : dz true (some 9) y = dgs 9 y.toNat := by
  obtain ⟨n, rfl⟩ := Int.eq_ofNat_of_zero_le h1
  exact dz_pad (by decide) (by omega)
theorem dz1 {y : Int} (h1 : 0 ≤ y) (h2 : y < 10) : dz false none y = dgs 1 y.toNat := by
  obtain ⟨n, rfl⟩ := Int.eq_ofNat_of_zero_le h1
  rw [field_num]
  have : tens n = [48 + n] := tens_lt (by omega)
  rw [this]
  show [48 + n] = [48 + n % 10]
  rw [Nat.mod_eq_of_lt (by omega)]
def tY (y : Int) : TX := dz true (some 4) y ++ []
def tYM (y mo : Int) : TX := dz true (some 4) y ++ ([45] ++ (dz true (some 2) mo ++ []))
def tYMD (b : Bool) (y mo d : Int) : TX := dz true (some 4) y ++ (sgn b ++ (dz true (some 2) mo ++ (sgn b ++ (dz true (some 2) d ++ []))))
def tWD (b : Bool) (y w d : Int) : TX := dz true (some 4) y ++ (sgn b ++ ([87] ++ (dz true (some 2) w ++ (sgn b ++ (dz false none d ++ [])))))
def tW (b : Bool) (y w : Int) : TX := dz true (some 4) y ++ (sgn b ++ ([87] ++ (dz true (some 2) w ++ [])))
def tYD (b : Bool) (y o : Int) : TX := dz true (some 4) y ++ (sgn b ++ (dz true (some 3) o ++ []))
theorem dgs_asc (w n : Nat) : Asc (dgs w n) := fun c hc => by
  have := List.all_eq_true.mp (dgs_dig w n) c hc
  unfold isDig at this
  simp at this
  omega
theorem sgn_asc (b : Bool) : Asc (sgn b) := by cases b <;> (unfold Asc sgn; decide)
theorem w_asc : Asc [87] := by unfold Asc; decide
theorem m_asc : Asc [45] := by unfold Asc; decide
theorem sgn_len (b : Bool) : (sgn b).length ≤ 1 := by cases b <;> decide
theorem tY_eq {y : Int} (h1 : 0 ≤ y) (h2 : y < 10000) : tY y = dgs 4 y.toNat := by
  unfold tY; rw [dz4 h1 h2, List.append_nil]
theorem tYM_eq {y mo : Int} (h1 : 0 ≤ y) (h2 : y < 10000) (h3 : 0 ≤ mo) (h4 : mo < 100) : tYM y mo = dgs 4 y.toNat ++ [45] ++ dgs 2 mo.toNat := by
  unfold tYM; rw [dz4 h1 h2, dz2 h3 h4]; simp
theorem tYMD_eq {b : Bool} {y mo d : Int} (h1 : 0 ≤ y) (h2 : y < 10000) (h3 : 0 ≤ mo) (h4 : mo < 100) (h5 : 0 ≤ d) (h6 : d < 100) : tYMD b y mo d = dgs 4 y.toNat ++ sgn b ++ dgs 2 mo.toNat ++ sgn b ++ dgs 2 d.toNat := by
  unfold tYMD; rw [dz4 h1 h2, dz2 h3 h4, dz2 h5 h6]; simp
theorem tWD_eq {b : Bool} {y w d : Int} (h1 : 0 ≤ y) (h2 : y < 10000) (h3 : 0 ≤ w) (h4 : w < 100) (h5 : 0 ≤ d) (h6 : d < 10) : tWD b y w d = dgs 4 y.toNat ++ sgn b ++ [87] ++ dgs 2 w.toNat ++ sgn b ++ dgs 1 d.toNat := by
  unfold tWD; rw [dz4 h1 h2, dz2 h3 h4, dz1 h5 h6]; simp
theorem tW_eq {b : Bool} {y w : Int} (h1 : 0 ≤ y) (h2 : y < 10000) (h3 : 0 ≤ w) (h4 : w < 100) : tW b y w = dgs 4 y.toNat ++ sgn b ++ [87] ++ dgs 2 w.toNat := by
  unfold tW; rw [dz4 h1 h2, dz2 h3 h4]; simp
theorem tYD_eq {b : Bool} {y o : Int} (h1 : 0 ≤ y) (h2 : y < 10000) (h3 : 0 ≤ o) (h4 : o < 1000) : tYD b y o = dgs 4 y.toNat ++ sgn b ++ dgs 3 o.toNat := by
  unfold tYD; rw [dz4 h1 h2, dz3 h3 h4]; simp
structure DTx (t : TX) (whole refused : Bool) (y mo d : Int) : Prop where
  asc : Asc t
  len : t.length ≤ 12
  fit : ∀ r, (whole = true → Tail r) → (whole = false → r = []) → DayT t r refused y mo d
theorem nat_of {i : Int} (h : 0 ≤ i) : ((i.toNat : Nat) : Int) = i := by omega
theorem Day.mo {y N : Int} (D : Day y N) : 1 ≤ lawDayM N ∧ lawDayM N ≤ 12 ∧ 1 ≤ lawDayD N ∧ lawDayD N ≤ 31 := by
  obtain ⟨_, ⟨h1, h2⟩, h3, h4⟩ := D.ok
  have hl := bi_cases (leap y)
  refine ⟨h1, h2, h3, ?_⟩
  have : lawDayM N = 1 ∨ lawDayM N = 2 ∨ lawDayM N = 3 ∨ lawDayM N = 4 ∨ lawDayM N = 5 ∨ lawDayM N = 6 ∨ lawDayM N = 7 ∨ lawDayM N = 8 ∨ lawDayM N = 9 ∨ lawDayM N = 10 ∨ lawDayM N = 11 ∨ lawDayM N = 12 := by omega
  rcases this with e | e | e | e | e | e | e | e | e | e | e | e <;> rw [e] at h4 <;> simp only [lk1, lk2, lk3, lk4, lk5, lk6, lk7, lk8, lk9, lk10, lk11, lk12] at h4 <;> omega
theorem tYMD_asc {b : Bool} {y mo d : Nat} : Asc (dgs 4 y ++ sgn b ++ dgs 2 mo ++ sgn b ++ dgs 2 d) := ((((dgs_asc _ _).append (sgn_asc _)).append (dgs_asc _ _)).append (sgn_asc _)).append (dgs_asc _ _)
theorem tYMD_len {b : Bool} {y mo d : Nat} : (dgs 4 y ++ sgn b ++ dgs 2 mo ++ sgn b ++ dgs 2 d).length ≤ 12 := by
  have := sgn_len b
  simp only [List.length_append, dgs_len]; omega
theorem dtx_ymd {y N : Int} (D : Day y N) (b : Bool) : DTx (tYMD b y (lawDayM N) (lawDayD N)) true false y (lawDayM N) (lawDayD N) := by
  have hm := D.mo
  have h1 := D.y1
  have h2 := D.y2
  rw [tYMD_eq (by omega) (by omega) (by omega) (by omega) (by omega) (by omega)]
  refine ⟨tYMD_asc, tYMD_len, fun r hr _ => .inl ⟨rfl, ?_, D.ok⟩⟩
  rw [isodate_ymd b r (by omega) (by omega) (by omega), nat_of (by omega), nat_of (by omega), nat_of (by omega)]
theorem dtx_ymdBad {y mo d : Int} (h1 : 1 ≤ y) (h2 : y ≤ 9998) (h3 : 0 ≤ mo) (h4 : mo < 100) (h5 : 0 ≤ d) (h6 : d < 100) (hb : mo = 13 ∨ d = 32) {y' mo' d' : Int} (b : Bool) : DTx (tYMD b y mo d) true true y' mo' d' := by
  rw [tYMD_eq (by omega) (by omega) (by omega) (by omega) (by omega) (by omega)]
  refine ⟨tYMD_asc, tYMD_len, fun r hr _ => .inr ⟨rfl, .inr ⟨y, mo, d, ?_, ?_⟩⟩⟩
  · rw [isodate_ymd b r (by omega) (by omega) (by omega), nat_of (by omega), nat_of (by omega), nat_of (by omega)]
  · rintro ⟨_, ⟨k1, k2⟩, k3, k4⟩
    rcases hb with rfl | rfl
    · omega
    · have hl := bi_cases (leap y)
      have : mo = 1 ∨ mo = 2 ∨ mo = 3 ∨ mo = 4 ∨ mo = 5 ∨ mo = 6 ∨ mo = 7 ∨ mo = 8 ∨ mo = 9 ∨ mo = 10 ∨ mo = 11 ∨ mo = 12 := by omega
      rcases this with e | e | e | e | e | e | e | e | e | e | e | e <;> rw [e] at k4 <;> simp only [lk1, lk2, lk3, lk4, lk5, lk6, lk7, lk8, lk9, lk10, lk11, lk12] at k4 <;> omega
theorem dayOk_one {y : Int} (h1 : 1 ≤ y) (h2 : y ≤ 9999) {mo : Int} (h3 : 1 ≤ mo) (h4 : mo ≤ 12) : dayOk y mo 1 := by
  refine ⟨⟨h1, h2⟩, ⟨h3, h4⟩, by decide, ?_⟩
  have hl := bi_cases (leap y)
  have : mo = 1 ∨ mo = 2 ∨ mo = 3 ∨ mo = 4 ∨ mo = 5 ∨ mo = 6 ∨ mo = 7 ∨ mo = 8 ∨ mo = 9 ∨ mo = 10 ∨ mo = 11 ∨ mo = 12 := by omega
  rcases this with e | e | e | e | e | e | e | e | e | e | e | e <;> rw [e] <;> simp only [lk1, lk2, lk3, lk4, lk5, lk6, lk7, lk8, lk9, lk10, lk11, lk12] <;> omega
theorem dtx_y {y N : Int} (D : Day y N) : DTx (tY y) false false y 1 1 := by
  have h1 := D.y1
  have h2 := D.y2
  rw [tY_eq (by omega) (by omega)]
  refine ⟨dgs_asc _ _, by rw [dgs_len]; decide, fun r _ hr => .inl ⟨rfl, ?_, dayOk_one h1 (by omega) (by decide) (by decide)⟩⟩
  rw [hr rfl, List.append_nil, isodate_y (by omega), nat_of (by omega)]
theorem dtx_ym {y N : Int} (D : Day y N) : DTx (tYM y (lawDayM N)) false false y (lawDayM N) 1 := by
  have hm := D.mo
  have h1 := D.y1
  have h2 := D.y2
  rw [tYM_eq (by omega) (by omega) (by omega) (by omega)]
  refine ⟨((dgs_asc _ _).append m_asc).append (dgs_asc _ _), by simp [dgs_len], fun r _ hr => .inl ⟨rfl, ?_, dayOk_one h1 (by omega) hm.1 hm.2.1⟩⟩
  rw [hr rfl, List.append_nil, isodate_ym (by omega) (by omega), nat_of (by omega), nat_of (by omega)]
theorem tWD_asc {b : Bool} {y w d : Nat} : Asc (dgs 4 y ++ sgn b ++ [87] ++ dgs 2 w ++ sgn b ++ dgs 1 d) := (((((dgs_asc _ _).append (sgn_asc _)).append w_asc).append (dgs_asc _ _)).append (sgn_asc _)).append (dgs_asc _ _)
theorem tWD_len {b : Bool} {y w d : Nat} : (dgs 4 y ++ sgn b ++ [87] ++ dgs 2 w ++ sgn b ++ dgs 1 d).length ≤ 12 := by
  have := sgn_len b
  simp only [List.length_append, dgs_len, List.length_cons, List.length_nil]; omega
theorem dtx_week {y N : Int} (D : Day y N) (b : Bool) : DTx (tWD b (own N) (cnt N) ((N + 1) % 7 + 1)) true false y (lawDayM N) (lawDayD N) := by
  obtain ⟨a1, a2, a3, a4, a5⟩ := own_spec D
  have c := cnt_spec D
  have r0 := D.rng
  rw [tWD_eq (by omega) (by omega) (by omega) (by omega) (by omega) (by omega)]
  refine ⟨tWD_asc, tWD_len, fun r hr _ => .inl ⟨rfl, ?_, D.ok⟩⟩
  rw [isodate_week b r (by omega) (by omega) (by omega), nat_of (by omega), nat_of (by omega), nat_of (by omega), weekdate_own D (by omega) (by omega)]
  have e : thu N - 306 - 3 + ((N + 1) % 7 + 1 - 1) = N - 306 := by unfold thu; omega
  have o := lawDay_ord (n := N) r0.1 (by omega)
  rw [e]
  show Except.ok (ordY (N - 306), ordM (N - 306), ordD (N - 306), _) = _
  rw [← o.1, ← o.2.1, ← o.2.2, D.year]
theorem dtx_weekBad {y N : Int} (D : Day y N) (b : Bool) {w d : Int} (h1 : 0 ≤ w) (h2 : w < 100) (h3 : 0 ≤ d) (h4 : d < 10) (hb : ¬ (0 < w ∧ w < 54) ∨ ¬ (0 < d ∧ d < 8)) {y' mo' d' : Int} : DTx (tWD b (own N) w d) true true y' mo' d' := by
  obtain ⟨a1, a2, a3, a4, a5⟩ := own_spec D
  rw [tWD_eq (by omega) (by omega) (by omega) (by omega) (by omega) (by omega)]
  refine ⟨tWD_asc, tWD_len, fun r hr _ => .inr ⟨rfl, .inl ?_⟩⟩
  rw [isodate_week b r (by omega) (by omega) (by omega), nat_of (by omega), nat_of (by omega), nat_of (by omega), weekdate_bad hb]
  rfl
theorem dtx_w {y N : Int} (D : Day y N) (b : Bool) : DTx (tW b (own N) (cnt N)) false false (lawDayY (thu N - 3)) (lawDayM (thu N - 3)) (lawDayD (thu N - 3)) := by
  obtain ⟨a1, a2, a3, a4, a5⟩ := own_spec D
  have c := cnt_spec D
  have r0 := D.rng
  have hz : thu N - 3 - 306 ≤ 3652059 := by unfold thu; omega
  have o := lawDay_ord (n := thu N - 3) a5 hz
  rw [tW_eq (by omega) (by omega) (by omega) (by omega)]
  refine ⟨(((dgs_asc _ _).append (sgn_asc _)).append w_asc).append (dgs_asc _ _), by have := sgn_len b; simp only [List.length_append, dgs_len, List.length_cons, List.length_nil]; omega, fun r _ hr => .inl ⟨rfl, ?_, ?_⟩⟩
  · rw [hr rfl, List.append_nil, isodate_w b (by omega) (by omega), nat_of (by omega), nat_of (by omega), weekdate_own D (by omega) (by omega)]
    show Except.ok (ordY _, ordM _, ordD _, _) = _
    rw [show thu N - 306 - 3 + (1 - 1) = thu N - 3 - 306 by omega, ← o.1, ← o.2.1, ← o.2.2]
  · have := ord_spec a5 hz
    rwa [← o.1, ← o.2.1, ← o.2.2] at this
theorem tYD_asc {b : Bool} {y w : Nat} : Asc (dgs 4 y ++ sgn b ++ dgs 3 w) := ((dgs_asc _ _).append (sgn_asc _)).append (dgs_asc _ _)
theorem tYD_len {b : Bool} {y w : Nat} : (dgs 4 y ++ sgn b ++ dgs 3 w).length ≤ 12 := by
  have := sgn_len b
  simp only [List.length_append, dgs_len]; omega
theorem dtx_yd {y N : Int} (D : Day y N) (b : Bool) : DTx (tYD b y (N - lawNum y 1 1 + 1)) true false y (lawDayM N) (lawDayD N) := by
  have h1 := D.y1
  have h2 := D.y2
  have n1 := D.n1
  have n2 := D.n2
  have r0 := D.rng
  rw [yb_succ] at n2
  have hl := bi_cases (leap y)
  rw [lawNum_one, tYD_eq (by omega) (by omega) (by omega) (by omega)]
  refine ⟨tYD_asc, tYD_len, fun r hr _ => .inl ⟨rfl, ?_, D.ok⟩⟩
  rw [isodate_doy b r (by omega) (by omega) (hr rfl), nat_of (by omega), nat_of (by omega), if_neg (by omega), if_neg (by omega), before_one]
  have o := lawDay_ord (n := N) r0.1 (by omega)
  rw [show yb y + 1 + (N - (yb y + 307) + 1 - 1) = N - 306 by omega, ← o.1, ← o.2.1, ← o.2.2, D.year]
theorem dtx_ydBad {y : Int} (h1 : 1 ≤ y) (h2 : y ≤ 9998) (b : Bool) {o : Int} (ho : o = 0 ∨ o = lawNum (y + 1) 1 1 - lawNum y 1 1 + 1) {y' mo' d' : Int} : DTx (tYD b y o) true true y' mo' d' := by
  have e := yb_succ y
  have hl := bi_cases (leap y)
  rw [lawNum_one, lawNum_one] at ho
  rw [tYD_eq (by omega) (by omega) (by omega) (by omega)]
  refine ⟨tYD_asc, tYD_len, fun r hr _ => .inr ⟨rfl, .inl ?_⟩⟩
  rw [isodate_doy b r (by omega) (by omega) (hr rfl), nat_of (by omega), nat_of (by omega), if_pos (by omega)]
end Mine
end
section
set_option Elab.async false
set_option linter.unusedVariables false
namespace Mine
def isSign (c : Nat) : Bool := ([45, 43, 90, 122] : TX).contains c
/-- a zone's text: nothing, or it opens with one of the four signs -/
def ZoneT (z : TX) : Prop := z = [] ∨ ∃ c t, z = c :: t ∧ isSign c = true
theorem sign_nodig {c : Nat} (h : isSign c = true) : isDig c = false := by
  cases e : isDig c with
  | false => rfl
  | true => exact absurd ((sign_not_dig c e).symm.trans h) Bool.false_ne_true
theorem ZoneT.tail {z : TX} (h : ZoneT z) : z = [] ∨ ∃ c t, z = c :: t ∧ isDig c = false := by
  rcases h with h | ⟨c, t, h, hc⟩
  · exact .inl h
  · exact .inr ⟨c, t, h, sign_nodig hc⟩
def zread (z : TX) : Option TZ := if z = [] then some .no else parseTz z
/-- what the clock's parts say with the zone at hand -/
def ckEnd (h mi s us : Int) (z : TZ) : Option (Int × Int × Int × Int × TZ) := if (h == 24 && (mi != 0 || s != 0 || us != 0)) = true then none else some (h, mi, s, us, z)
theorem ckT_len (m : Nat) (b : Bool) (h mi s : Nat) (fr : TX) : 2 ≤ (ckT m b h mi s fr).length := by
  unfold ckT
  split <;> simp [dgs_len] <;> omega
theorem isotime_loop {l : TX} (h2 : 2 ≤ l.length) : isotime l = match isoLoop l 6 0 false 0 0 0 0 with | none => none | some x => isoEnd l x := by
  unfold isotime
  rw [if_neg (by omega)]
  all_goals (cases isoLoop l 6 0 false 0 0 0 0 <;> rfl)
theorem isotime_full {z f : TX} {m c h mi s : Nat} (b : Bool) (hm : m ≤ 3) (hh : h < 100) (hmi : mi < 100) (hs : s < 100) (hc : c = 46 ∨ c = 44) (hf : f.all isDig = true) (hf0 : f ≠ []) (hz : ZoneT z) :
    isotime (ckT m b h mi s (c :: f) ++ z) = match zread z with | none => none | some t => ckEnd h (ckMi m mi) (ckS m s) (ckU m f) t := by
  have hl := ckT_len m b h mi s (c :: f)
  obtain ⟨sep, e⟩ := ck_loop (z := z) b hm hh hmi hs hc hf hf0 (fun _ => hz.tail)
  rw [isotime_loop (by rw [List.length_append]; omega), e]
  generalize ckT m b h mi s (c :: f) = w at *
  unfold zread
  rcases hz with rfl | ⟨x, t, rfl, hx⟩
  · rw [loop_end (by simp), if_pos rfl]
    show isoEnd _ _ = _
    unfold isoEnd
    dsimp only
    rw [if_neg (by simp)]
    rfl
  · rw [if_neg (by simp), show 5 - m = (4 - m) + 1 by omega, loop_tz rfl rfl hx]
    cases parseTz (x :: t) with
    | none => rfl
    | some y =>
      show isoEnd _ _ = _
      unfold isoEnd
      dsimp only
      rw [if_neg (by omega)]
      rfl
/-- a letter behind it -/
theorem isotime_x {z f : TX} {m c h mi s : Nat} (b : Bool) (hm : m ≤ 3) (hh : h < 100) (hmi : mi < 100) (hs : s < 100) (hc : c = 46 ∨ c = 44) (hf : f.all isDig = true) (hf0 : f ≠ []) (hz : ZoneT z) (hx : z = [] ∨ parseTz (z ++ [120]) = none) :
    isotime (ckT m b h mi s (c :: f) ++ (z ++ [120])) = none := by
  have hl := ckT_len m b h mi s (c :: f)
  obtain ⟨sep, e⟩ := ck_loop (z := z ++ [120]) (h := h) (mi := mi) (s := s) b hm hh hmi hs hc hf hf0 (fun _ => by
    rcases hz with rfl | ⟨x, t, rfl, hx⟩
    · exact .inr ⟨120, [], rfl, by decide⟩
    · exact .inr ⟨x, _, rfl, sign_nodig ‹_›⟩)
  rw [isotime_loop (by rw [List.length_append]; omega), e]
  generalize ckT m b h mi s (c :: f) = w at *
  rcases hz with rfl | ⟨x, t, rfl, hs⟩
  · rcases loop_x (l := w ++ ([] ++ [120])) (a := w) (t := []) (p := (w.length : Int)) rfl rfl (5 - m) sep h (ckMi m mi) (ckS m s) (ckU m f) (by omega) with e | e
    · rw [e]
    · rw [e]
      show isoEnd _ _ = _
      unfold isoEnd
      dsimp only
      rw [if_pos (by simp; omega)]
  · rw [show 5 - m = (4 - m) + 1 by omega, loop_tz (a := w) (c := x) (t := t ++ [120]) (by simp) rfl hs]
    have : parseTz (x :: (t ++ [120])) = none := hx.resolve_left (by simp)
    rw [this]
theorem bad_turn {l : TX} {n : Nat} {p h mi s us : Int} {sep : Bool} (hp : p < (l.length : Int)) (ht : isoTurn l (5 - (n : Int)) p sep h mi s us = .bad) : isoLoop l (n + 1) p sep h mi s us = none := by
  unfold isoLoop
  rw [if_pos hp, ht]
/-- one figure alone, ahead of which a colon may stand -/
theorem loop_half {l a : TX} {x n : Nat} {p h mi s us : Int} {sep b : Bool} (hl : l = a ++ col b ++ [x]) (hx : isDig x = true) (hp : p = a.length) (hn : n = 4 ∨ (n = 3 ∧ sep = b)) : isoLoop l (n + 1) p sep h mi s us = none := by
  have hlen : (l.length : Int) = p + (if b then 1 else 0) + 1 := by rw [hl, hp]; cases b <;> simp [col] <;> omega
  have hne : (([x] : TX) == [58]) = false := by
    rw [beq_eq_false_iff_ne]
    intro e
    injection e with e
    rw [e] at hx
    exact absurd hx (by decide)
  cases b with
  | true =>
    have e1 : signAt l p = false := by rw [signAt_at (a := a) (t := [x]) (c := 58) (by rw [hl]; simp [col]) hp]; decide
    have e2 : sl l p (p + 1) = [58] := sl_one_at (a := a) (b := [x]) (by rw [hl]; simp [col]) hp rfl
    have e3 : dg l (p + 1) 2 = none := dg_short (by omega) (by decide) (by rw [hlen]; simp)
    refine bad_turn (by rw [hlen]; simp; omega) ?_
    unfold isoTurn
    rw [e1, if_neg Bool.false_ne_true, e2]
    rcases hn with rfl | ⟨rfl, rfl⟩
    · rw [if_pos (by decide)]
      unfold isoDig
      rw [e3]
      rfl
    · rw [if_neg (by decide), if_pos (by decide), if_pos (by decide)]
      unfold isoDig
      rw [e3]
      rfl
  | false =>
    have e1 : signAt l p = false := by rw [signAt_at (a := a) (t := []) (c := x) (by rw [hl]; simp [col]) hp]; exact sign_not_dig x hx
    have e2 : sl l p (p + 1) = [x] := sl_one_at (a := a) (b := []) (by rw [hl]; simp [col]) hp rfl
    have e3 : dg l p 2 = none := dg_short (by omega) (by decide) (by rw [hlen]; simp)
    refine bad_turn (by rw [hlen]; simp; omega) ?_
    unfold isoTurn
    rw [e1, if_neg Bool.false_ne_true, e2, hne, Bool.and_false, if_neg Bool.false_ne_true]
    rcases hn with rfl | ⟨rfl, rfl⟩
    · rw [if_neg (by simp)]
      unfold isoDig
      rw [e3]
      rfl
    · rw [if_neg (by simp)]
      unfold isoDig
      rw [e3]
      rfl
theorem dgs2_cut (n : Nat) : ∃ x y, dgs 2 n = [x, y] ∧ isDig x = true ∧ isDig y = true := by
  refine ⟨48 + n / 10 % 10, 48 + n % 10, rfl, ?_, ?_⟩ <;> (unfold isDig; simp; omega)
/-- the last figure struck -/
theorem isotime_cut {f : TX} {m h mi s : Nat} (b : Bool) (hm : m < 3) (hh : h < 100) (hmi : mi < 100) (hs : s < 100) :
    isotime (ckT m b h mi s f).dropLast = none := by
  have : m = 0 ∨ m = 1 ∨ m = 2 := by omega
  rcases this with rfl | rfl | rfl
  · obtain ⟨x, y, e, _, _⟩ := dgs2_cut h
    show isotime (dgs 2 h).dropLast = none
    rw [e]
    rfl
  · obtain ⟨x, y, e, hx, _⟩ := dgs2_cut mi
    have el : (ckT 1 b h mi s f).dropLast = dgs 2 h ++ col b ++ [x] := by
      show (dgs 2 h ++ col b ++ dgs 2 mi).dropLast = _
      rw [e, show dgs 2 h ++ col b ++ [x, y] = (dgs 2 h ++ col b ++ [x]) ++ [y] by simp, List.dropLast_concat]
    rw [el, isotime_loop (by simp [dgs_len]), ck_first (h := h) (b := col b ++ [x]) (by simp) hh, loop_half (a := dgs 2 h) (x := x) (b := b) rfl hx (by rw [dgs_len]; rfl) (.inl rfl)]
  · obtain ⟨x, y, e, hx, _⟩ := dgs2_cut s
    have el : (ckT 2 b h mi s f).dropLast = dgs 2 h ++ col b ++ dgs 2 mi ++ col b ++ [x] := by
      show (dgs 2 h ++ col b ++ dgs 2 mi ++ col b ++ dgs 2 s).dropLast = _
      rw [e, show dgs 2 h ++ col b ++ dgs 2 mi ++ col b ++ [x, y] = (dgs 2 h ++ col b ++ dgs 2 mi ++ col b ++ [x]) ++ [y] by simp, List.dropLast_concat]
    rw [el, isotime_loop (by simp [dgs_len]), ck_first (h := h) (b := col b ++ dgs 2 mi ++ col b ++ [x]) (by simp) hh, ck_min (z := col b ++ [x]) b (by simp) hmi, loop_half (a := dgs 2 h ++ col b ++ dgs 2 mi) (x := x) (b := b) rfl hx (by cases b <;> simp [dgs_len, col]) (.inr ⟨rfl, rfl⟩)]
/-- the last sign of the zone struck -/
theorem isotime_cutZ {z f : TX} {m c h mi s : Nat} (b : Bool) (hm : m ≤ 3) (hh : h < 100) (hmi : mi < 100) (hs : s < 100) (hc : c = 46 ∨ c = 44) (hf : f.all isDig = true) (hf0 : f ≠ []) {x y : Nat} {t : TX} (hz : z = x :: y :: t) (hx : isSign x = true) (hp : parseTz z.dropLast = none) :
    isotime (ckT m b h mi s (c :: f) ++ z).dropLast = none := by
  have e : (ckT m b h mi s (c :: f) ++ z).dropLast = ckT m b h mi s (c :: f) ++ z.dropLast := by
    rw [List.dropLast_append_of_ne_nil (by rw [hz]; simp)]
  have e2 : z.dropLast = x :: (y :: t).dropLast := by rw [hz]; rfl
  rw [e, isotime_full b hm hh hmi hs hc hf hf0 (.inr ⟨x, _, e2, hx⟩)]
  unfold zread
  rw [if_neg (by rw [e2]; simp), hp]
end Mine
end
section
set_option Elab.async false
set_option linter.unusedVariables false
namespace Mine
theorem parseTz_len {l : TX} (h0 : ((l == [90]) || (l == [122])) = false) (h : ¬ ((l.length : Int) = 3 ∨ (l.length : Int) = 5 ∨ (l.length : Int) = 6)) : parseTz l = none := by
  unfold parseTz
  rw [h0, if_neg Bool.false_ne_true, if_pos h]
theorem parseTz_min {l : TX} (h0 : ((l == [90]) || (l == [122])) = false) (h : tzMin l = none) : parseTz l = none := by
  unfold parseTz
  rw [h0, if_neg Bool.false_ne_true, h]
  split
  · rfl
  · split
    · rfl
    · split <;> rfl
theorem z_len {l : TX} (h : l.length ≠ 1) : ((l == [90]) || (l == [122])) = false := by
  rw [Bool.or_eq_false_iff, beq_eq_false_iff_ne, beq_eq_false_iff_ne]
  exact ⟨fun e => h (by rw [e]; rfl), fun e => h (by rw [e]; rfl)⟩
def zT (zone : Int) (zz minus : Bool) (hh mm : Int) : TX :=
  if zone = 0 then [] else if zone = 1 then (if zz = true then [122] else [90]) else
  if zone = 2 then pm minus ++ dgs 2 hh.toNat else pm minus ++ dgs 2 hh.toNat ++ col (decide (zone = 4)) ++ dgs 2 mm.toNat
def neg? (minus : Bool) (i : Int) : Int := if minus = true then -i else i
def zO (zone : Int) (minus : Bool) (hh mm : Int) : Option Int :=
  if zone = 0 then none else if zone = 1 then some (neg? minus 0) else
  if zone = 2 then some (neg? minus (hh * 3600)) else some (neg? minus (hh * 3600 + mm * 60))
structure ZoneF (zone : Int) (last : TX) (off : Option Int) (bad : Bool) : Prop where
  zt : ZoneT last
  asc : Asc last
  len : last.length ≤ 6
  read : bad = false → ∃ t, zread last = some t ∧ offI t = off
  no : bad = true → zread last = none
  x : last = [] ∨ parseTz (last ++ [120]) = none
  cut : 1 < zone → ∃ x y t, last = x :: y :: t ∧ isSign x = true ∧ parseTz last.dropLast = none
  zero : zone = 0 → last = []
theorem pm_one (minus : Bool) : ∃ x, pm minus = [x] ∧ isSign x = true ∧ x < 128 := by cases minus <;> exact ⟨_, rfl, by decide, by decide⟩
theorem pm_asc (minus : Bool) : Asc (pm minus) := by cases minus <;> (unfold Asc pm; decide)
theorem col_asc (b : Bool) : Asc (col b) := by cases b <;> (unfold Asc col; decide)
theorem col_len (b : Bool) : (col b).length = if b then 1 else 0 := by cases b <;> rfl
theorem tzEnd_ok {minus : Bool} {hh mm : Nat} (h1 : hh ≤ 23) (h2 : mm ≤ 59) : ∃ t, tzEnd (if minus then -1 else 1) hh mm = some t ∧ offI t = some (neg? minus (hh * 3600 + mm * 60)) := by
  unfold tzEnd
  by_cases h : ((hh : Int) == 0 && (mm : Int) == 0) = true
  · rw [if_pos h]
    simp at h
    refine ⟨_, rfl, ?_⟩
    rw [h.1, h.2]
    cases minus <;> rfl
  · rw [if_neg h, if_neg (by omega), if_neg (by omega)]
    refine ⟨_, rfl, ?_⟩
    show some _ = some _
    congr 1
    unfold neg?
    cases minus <;> simp <;> omega
theorem tzEnd_bad {mul : Int} {hh mm : Nat} (h : hh = 24 ∨ mm = 60) : tzEnd mul hh mm = none := by
  unfold tzEnd
  rw [if_neg (by simp; omega)]
  by_cases h2 : (mm : Int) > 59
  · rw [if_pos h2]
  · rw [if_neg h2, if_pos (by omega)]
theorem zone0 {minus zz : Bool} {hh mm : Int} : ZoneF 0 (zT 0 zz minus hh mm) (zO 0 minus hh mm) false := by
  show ZoneF 0 [] none false
  exact ⟨.inl rfl, (fun c hc => nomatch hc), by decide, fun _ => ⟨.no, rfl, rfl⟩, (fun e => nomatch e), .inl rfl, fun h => absurd h (by decide), fun _ => rfl⟩
theorem zone1 {minus zz : Bool} {hh mm : Int} : ZoneF 1 (zT 1 zz minus hh mm) (zO 1 minus hh mm) false := by
  show ZoneF 1 (if zz = true then [122] else [90]) (some (neg? minus 0)) false
  have e0 : neg? minus 0 = 0 := by cases minus <;> rfl
  rw [e0]
  cases zz
  · exact ⟨.inr ⟨90, [], rfl, by decide⟩, by unfold Asc; decide, by decide, fun _ => ⟨.utc, rfl, rfl⟩, (fun e => nomatch e), .inr (parseTz_len (by decide) (by decide)), fun h => absurd h (by decide), fun h => absurd h (by decide)⟩
  · exact ⟨.inr ⟨122, [], rfl, by decide⟩, by unfold Asc; decide, by decide, fun _ => ⟨.utc, rfl, rfl⟩, (fun e => nomatch e), .inr (parseTz_len (by decide) (by decide)), fun h => absurd h (by decide), fun h => absurd h (by decide)⟩
theorem zone2 {minus zz bad : Bool} {hh mm : Int} (h0 : 0 ≤ hh) (h1 : bad = false → hh ≤ 23) (h2 : bad = true → hh = 24) : ZoneF 2 (zT 2 zz minus hh mm) (zO 2 minus hh mm) bad := by
  show ZoneF 2 (pm minus ++ dgs 2 hh.toNat) (some (neg? minus (hh * 3600))) bad
  have hb : hh.toNat < 100 := by
    cases bad
    · have := h1 rfl; omega
    · have := h2 rfl; omega
  obtain ⟨x, ex, hx, _⟩ := pm_one minus
  obtain ⟨y, w, ey, hy, hw⟩ := dgs2_cut hh.toNat
  refine ⟨.inr ⟨x, _, by rw [ex]; rfl, hx⟩, (pm_asc _).append (dgs_asc _ _), by rw [ex]; simp [dgs_len], fun e => ?_, fun e => ?_, .inr ?_, fun _ => ⟨x, y, [w], by rw [ex, ey]; rfl, hx, ?_⟩, fun h => absurd h (by decide)⟩
  · obtain ⟨t, e1, e2⟩ := tzEnd_ok (minus := minus) (hh := hh.toNat) (mm := 0) (by have := h1 e; omega) (by decide)
    refine ⟨t, ?_, ?_⟩
    · unfold zread
      rw [if_neg (by rw [ex]; simp), tz_h minus hb]
      exact e1
    · rw [e2, nat_of h0]; simp
  · unfold zread
    rw [if_neg (by rw [ex]; simp), tz_h minus hb]
    exact tzEnd_bad (mm := 0) (.inl (by have := h2 e; omega))
  · exact parseTz_len (z_len (by rw [ex, ey]; simp)) (by rw [ex, ey]; simp)
  · rw [ex, ey]
    exact parseTz_len (z_len (by simp)) (by simp)
theorem zone3 {minus zz bad cb : Bool} {hh mm zone : Int} (hz : (zone = 3 ∧ cb = false) ∨ (zone = 4 ∧ cb = true)) (h0 : 0 ≤ hh) (h0' : 0 ≤ mm) (h1 : bad = false → hh ≤ 23 ∧ mm ≤ 59) (h2 : bad = true → (hh = 24 ∧ mm ≤ 60) ∨ (mm = 60 ∧ hh ≤ 24)) : ZoneF zone (zT zone zz minus hh mm) (zO zone minus hh mm) bad := by
  have ez : zT zone zz minus hh mm = pm minus ++ dgs 2 hh.toNat ++ col cb ++ dgs 2 mm.toNat := by
    unfold zT
    rcases hz with ⟨rfl, rfl⟩ | ⟨rfl, rfl⟩ <;> rfl
  have eo : zO zone minus hh mm = some (neg? minus (hh * 3600 + mm * 60)) := by
    unfold zO
    rcases hz with ⟨rfl, rfl⟩ | ⟨rfl, rfl⟩ <;> rfl
  rw [ez, eo]
  have hb : hh.toNat < 100 ∧ mm.toNat < 100 := by
    cases bad
    · have := h1 rfl; omega
    · have := h2 rfl; omega
  obtain ⟨x, ex, hx, _⟩ := pm_one minus
  obtain ⟨y, w, ey, hy, hw⟩ := dgs2_cut hh.toNat
  obtain ⟨y', w', ey', hy', hw'⟩ := dgs2_cut mm.toNat
  have hl : (col cb).length ≤ 1 := by cases cb <;> decide
  refine ⟨.inr ⟨x, _, by rw [ex]; rfl, hx⟩, (((pm_asc _).append (dgs_asc _ _)).append (col_asc _)).append (dgs_asc _ _), by rw [ex]; simp [dgs_len]; omega, fun e => ?_, fun e => ?_, .inr ?_, fun _ => ⟨x, y, w :: (col cb ++ [y', w']), by rw [ex, ey, ey']; simp, hx, ?_⟩, fun h => by omega⟩
  · obtain ⟨t, e1, e2⟩ := tzEnd_ok (minus := minus) (hh := hh.toNat) (mm := mm.toNat) (by have := h1 e; omega) (by have := h1 e; omega)
    refine ⟨t, ?_, ?_⟩
    · unfold zread
      rw [if_neg (by rw [ex]; simp), tz_hm minus cb hb.1 hb.2]
      exact e1
    · rw [e2, nat_of h0, nat_of h0']
  · unfold zread
    rw [if_neg (by rw [ex]; simp), tz_hm minus cb hb.1 hb.2]
    exact tzEnd_bad (by have := h2 e; omega)
  · cases cb with
    | true => exact parseTz_len (z_len (by rw [ex, ey, ey']; simp [col])) (by rw [ex, ey, ey']; simp [col])
    | false =>
      refine parseTz_min (z_len (by rw [ex, ey, ey']; simp [col])) ?_
      have ep : tzPos (pm minus ++ dgs 2 hh.toNat ++ col false ++ dgs 2 mm.toNat ++ [120]) = 3 := by
        unfold tzPos
        rw [ex, ey, ey']
        have : sl ([x] ++ [y, w] ++ col false ++ [y', w'] ++ [120]) 3 4 = [y'] := rfl
        rw [this, if_neg]
        intro e
        simp at e
        rw [e] at hy'
        exact absurd hy' (by decide)
      unfold tzMin
      rw [ep, if_neg (by rw [ex, ey, ey']; simp [col]), if_pos (by rw [ex, ey, ey']; simp [col])]
  · rw [ex, ey, ey']
    cases cb with
    | true =>
      refine parseTz_min (z_len (by simp [col])) ?_
      have e1 : ([x] ++ [y, w] ++ col true ++ [y', w']).dropLast = [x, y, w, 58, y'] := rfl
      rw [e1]
      have ep : tzPos [x, y, w, 58, y'] = 4 := by
        unfold tzPos
        have : sl [x, y, w, 58, y'] 3 4 = [58] := rfl
        rw [this, if_pos (by decide)]
      unfold tzMin
      rw [ep, if_neg (by simp), if_pos (by simp)]
    | false => exact parseTz_len (z_len (by simp [col])) (by simp [col])
/-- the whole text -/
theorem isoparse_ok {t c : TX} {mk : Nat} {sep : Option Nat} {y mo d : Int} (hs : sep = none ∨ sep = some mk) (hm : isDig mk = false) (D : DTx t true false y mo d) :
    isoparse sep (t ++ mk :: c) = match isotime c with | none => .error VE | some x => isoWhole y mo d x := by
  rcases D.fit (mk :: c) (fun _ => .inr ⟨mk, c, rfl, hm⟩) (fun e => nomatch e) with ⟨_, h2, h3⟩ | ⟨h1, _⟩
  · unfold isoparse
    rw [h2]
    dsimp only
    rw [if_pos (by simp; omega), if_pos]
    · rw [drop_at (l := t ++ mk :: c) (a := t ++ [mk]) (z := c) (by simp) (by simp)]
      all_goals (cases isotime c <;> rfl)
    · rcases hs with rfl | rfl
      · rfl
      · unfold sepFits
        dsimp only
        rw [sl_one_at (a := t) (b := c) (c := mk) (by simp) rfl rfl]
        simp
  · cases h1
theorem isoWhole_noday {y mo d : Int} (h : ¬ dayOk y mo d) (x : Int × Int × Int × Int × TZ) : isoWhole y mo d x = .error VE := by
  obtain ⟨a, b, c, e, t⟩ := x
  unfold isoWhole
  dsimp only
  by_cases h24 : a = 24
  · rw [if_pos h24, if_pos h]
  · rw [if_neg h24, if_neg (fun k => h k.1)]
theorem isoparse_noday {t c : TX} {mk : Nat} {sep : Option Nat} {y mo d : Int} (hm : isDig mk = false) (D : DTx t true true y mo d) :
    isoparse sep (t ++ mk :: c) = .error VE := by
  rcases D.fit (mk :: c) (fun _ => .inr ⟨mk, c, rfl, hm⟩) (fun e => nomatch e) with ⟨h1, _⟩ | ⟨_, h2 | ⟨y', mo', d', h2, h3⟩⟩
  · cases h1
  · unfold isoparse
    rw [h2]
  · unfold isoparse
    rw [h2]
    dsimp only
    rw [if_pos (by simp; omega)]
    by_cases hf : sepFits sep (t ++ mk :: c) (t.length : Int) = true
    · rw [if_pos hf]
      cases isotime ((t ++ mk :: c).drop ((t.length : Int) + 1).toNat) with
      | none => rfl
      | some x => exact isoWhole_noday h3 x
    · rw [if_neg hf]
theorem isoparse_nosep {t c : TX} {mk x : Nat} {y mo d : Int} {r : Bool} (hx : mk ≠ x) (hm : isDig mk = false) (D : DTx t true r y mo d) :
    isoparse (some x) (t ++ mk :: c) = .error VE := by
  cases r with
  | true => exact isoparse_noday hm D
  | false =>
    rcases D.fit (mk :: c) (fun _ => .inr ⟨mk, c, rfl, hm⟩) (fun e => nomatch e) with ⟨_, h2, h3⟩ | ⟨h1, _⟩
    · unfold isoparse
      rw [h2]
      dsimp only
      rw [if_pos (by simp; omega), if_neg]
      unfold sepFits
      dsimp only
      rw [sl_one_at (a := t) (b := c) (c := mk) (by simp) rfl rfl]
      simpa using hx
    · cases h1
end Mine
end
section
set_option Elab.async false
set_option linter.unusedVariables false
namespace Mine
open PySem PySem.NumText
theorem num_snoc (l : TX) (d : Nat) : num (l ++ [d]) = num l * 10 + (d - 48) := digitsVal_snoc ..
theorem num_zeros (l : TX) : ∀ k, num (l ++ List.replicate k 48) = num l * 10 ^ k
  | 0 => by simp
  | k + 1 => by
    rw [List.replicate_succ', ← List.append_assoc, num_snoc, num_zeros l k, Nat.pow_succ, Nat.sub_self, Nat.add_zero, Nat.mul_assoc]
theorem us6_pad {f : TX} (h0 : f ≠ []) : us6 f = ((num ((f ++ List.replicate 5 48).take 6) : Nat) : Int) := by
  have h1 : 1 ≤ f.length := List.length_pos_iff.mpr h0
  have e : (f ++ List.replicate 5 48).take 6 = f.take 6 ++ List.replicate (6 - f.length) 48 := by
    rw [List.take_append, List.take_replicate, Nat.min_eq_left (by omega)]
  rw [e, num_zeros]
  unfold us6
  have hl : (f.take 6).length = min 6 f.length := List.length_take
  rw [hl, show (6 - ((min 6 f.length : Nat) : Int)).toNat = 6 - f.length by omega]
  simp
theorem us6_rng {f : TX} (hf : f.all isDig = true) (h0 : f ≠ []) : 0 ≤ us6 f ∧ us6 f ≤ 999999 := by
  rw [us6_pad h0]
  have h1 : 1 ≤ f.length := List.length_pos_iff.mpr h0
  have hd : ((f ++ List.replicate 5 48).take 6).all isDig = true := by
    rw [List.all_eq_true]
    intro x hx
    rcases List.mem_append.mp (List.mem_of_mem_take hx) with h | h
    · exact List.all_eq_true.mp hf x h
    · rw [(List.mem_replicate.mp h).2]; decide
  have := num_lt hd
  rw [List.length_take, List.length_append, List.length_replicate, Nat.min_eq_left (by omega)] at this
  omega
theorem take_dig {f : TX} (h : f.all isDig = true) (k : Nat) : (f.take k).all isDig = true := by
  rw [List.all_eq_true]
  intro x hx
  exact List.all_eq_true.mp h x (List.mem_of_mem_take hx)
theorem us6_zero {k : Nat} (h1 : 1 ≤ k) (h2 : k ≤ 9) : us6 ((dgs 9 0).take k) = 0 := by
  have : k = 1 ∨ k = 2 ∨ k = 3 ∨ k = 4 ∨ k = 5 ∨ k = 6 ∨ k = 7 ∨ k = 8 ∨ k = 9 := by omega
  rcases this with rfl | rfl | rfl | rfl | rfl | rfl | rfl | rfl | rfl <;> decide
structure ClockF (m c0 c1 c2 : Nat) (late : Int) (bad : Bool) : Prop where
  m3 : m ≤ 3
  r0 : c0 ≤ 25
  r1 : c1 ≤ 60
  r2 : c2 ≤ 60
  m1 : m < 1 → c1 = 0
  m2 : m < 2 → c2 = 0
  good : bad = false → (late = 0 ∧ c0 ≤ 23 ∧ c1 ≤ 59 ∧ c2 ≤ 59) ∨ (late = 1 ∧ c0 = 24 ∧ c1 = 0 ∧ c2 = 0)
  bad : bad = true → c0 = 25 ∨ c1 = 60 ∨ c2 = 60
structure FracF (m : Nat) (c : Nat) (f : TX) (late us : Int) : Prop where
  hc : c = 46 ∨ c = 44
  dig : f.all isDig = true
  ne : f ≠ []
  len : f.length ≤ 9
  hus : us = ckU m f
  zero : late = 1 → us = 0
theorem FracF.rng {m c : Nat} {f : TX} {late us : Int} (F : FracF m c f late us) : 0 ≤ us ∧ us ≤ 999999 := by
  rw [F.hus]
  unfold ckU
  split
  · exact us6_rng F.dig F.ne
  · decide
theorem ckMi_of {m c0 c1 c2 : Nat} {late : Int} {bad : Bool} (C : ClockF m c0 c1 c2 late bad) : ckMi m c1 = c1 ∧ ckS m c2 = c2 := by
  have h1 := C.m1
  have h2 := C.m2
  unfold ckMi ckS
  constructor
  · split <;> omega
  · split <;> omega
section
variable {m c0 c1 c2 c : Nat} {f z : TX} {late us zone : Int} {cb zb b : Bool} {off : Option Int}
/-- the clock as read -/
theorem time_read (C : ClockF m c0 c1 c2 late cb) (F : FracF m c f late us) (Z : ZoneF zone z off zb) :
    isotime (ckT m b c0 c1 c2 (c :: f) ++ z) = match zread z with | none => none | some t => ckEnd c0 c1 c2 us t := by
  have h0 := C.r0
  have h1 := C.r1
  have h2 := C.r2
  rw [isotime_full b C.m3 (by omega) (by omega) (by omega) F.hc F.dig F.ne Z.zt, (ckMi_of C).1, (ckMi_of C).2, ← F.hus]
  all_goals (cases zread z <;> rfl)
theorem time_ok (C : ClockF m c0 c1 c2 late false) (F : FracF m c f late us) (Z : ZoneF zone z off false) :
    ∃ t, isotime (ckT m b c0 c1 c2 (c :: f) ++ z) = some ((c0 : Int), (c1 : Int), (c2 : Int), us, t) ∧ zread z = some t ∧ offI t = off := by
  obtain ⟨t, e1, e2⟩ := Z.read rfl
  refine ⟨t, ?_, e1, e2⟩
  rw [time_read C F Z, e1]
  unfold ckEnd
  dsimp only
  rw [if_neg]
  rcases C.good rfl with ⟨_, a, b, d⟩ | ⟨h, a, b, d⟩
  · simp; omega
  · have := F.zero h
    simp; omega
theorem time_only (C : ClockF m c0 c1 c2 late false) (F : FracF m c f late us) (Z : ZoneF zone z off false) :
    (c0 : Int) % 24 = (if (c0 : Int) = 24 then 0 else (c0 : Int)) ∧ clockOk (if (c0 : Int) = 24 then 0 else (c0 : Int)) c1 c2 us := by
  have := F.rng
  rcases C.good rfl with ⟨_, a, b, d⟩ | ⟨h, a, b, d⟩
  · rw [if_neg (by omega)]
    refine ⟨by omega, ⟨by omega, by omega⟩, ⟨by omega, by omega⟩, ⟨by omega, by omega⟩, ⟨by omega, by omega⟩⟩
  · rw [if_pos (by omega)]
    refine ⟨by omega, ⟨by omega, by omega⟩, ⟨by omega, by omega⟩, ⟨by omega, by omega⟩, ⟨by omega, by omega⟩⟩
theorem time_bad (C : ClockF m c0 c1 c2 late true) (F : FracF m c f late us) (Z : ZoneF zone z off zb) {y mo d : Int} :
    (match isotime (ckT m b c0 c1 c2 (c :: f) ++ z) with | none => .error VE | some x => isoWhole y mo d x) = (.error VE : Except String Mom) := by
  rw [time_read C F Z]
  cases zread z with
  | none => rfl
  | some t =>
    unfold ckEnd
    dsimp only
    have hb := C.bad rfl
    by_cases h : ((c0 : Int) == 24 && ((c1 : Int) != 0 || (c2 : Int) != 0 || us != 0)) = true
    · rw [if_pos h]
    · rw [if_neg h]
      unfold isoWhole
      dsimp only
      have h24 : ¬ (c0 : Int) = 24 := fun e => by
        simp [e] at h
        omega
      rw [if_neg h24, if_neg]
      rintro ⟨_, ⟨_, _⟩, ⟨_, _⟩, ⟨_, _⟩, _, _⟩
      omega
theorem time_badZ (C : ClockF m c0 c1 c2 late cb) (F : FracF m c f late us) (Z : ZoneF zone z off true) : isotime (ckT m b c0 c1 c2 (c :: f) ++ z) = none := by
  rw [time_read C F Z, Z.no rfl]
theorem time_x (C : ClockF m c0 c1 c2 late cb) (F : FracF m c f late us) (Z : ZoneF zone z off zb) : isotime (ckT m b c0 c1 c2 (c :: f) ++ (z ++ [120])) = none := by
  have h0 := C.r0
  have h1 := C.r1
  have h2 := C.r2
  exact isotime_x b C.m3 (by omega) (by omega) (by omega) F.hc F.dig F.ne Z.zt Z.x
theorem time_cut (C : ClockF m c0 c1 c2 late cb) (F : FracF m c f late us) (Z : ZoneF zone z off zb) (h : 1 < zone ∨ (zone = 0 ∧ m < 3)) : isotime (ckT m b c0 c1 c2 (c :: f) ++ z).dropLast = none := by
  have h0 := C.r0
  have h1 := C.r1
  have h2 := C.r2
  rcases h with h | ⟨h, hm⟩
  · obtain ⟨x, y, t, e1, e2, e3⟩ := Z.cut h
    exact isotime_cutZ b C.m3 (by omega) (by omega) (by omega) F.hc F.dig F.ne e1 e2 e3
  · rw [Z.zero h, List.append_nil]
    exact isotime_cut b hm (by omega) (by omega) (by omega)
/-- the moment told -/
theorem moment {y N : Int} (D : Day y N) (C : ClockF m c0 c1 c2 late false) (F : FracF m c f late us) (t : TZ) :
    isoWhole y (lawDayM N) (lawDayD N) ((c0 : Int), (c1 : Int), (c2 : Int), us, t) = .ok ⟨lawDayY (N + late), lawDayM (N + late), lawDayD (N + late), (c0 : Int) % 24, c1, c2, us, t⟩ := by
  have hu := F.rng
  have hn := D.num
  have hr := D.rng
  unfold isoWhole
  dsimp only
  rcases C.good rfl with ⟨hl, a, b, d⟩ | ⟨hl, a, b, d⟩
  · rw [if_neg (by omega), if_pos ⟨D.ok, ⟨by omega, by omega⟩, ⟨by omega, by omega⟩, ⟨by omega, by omega⟩, ⟨by omega, by omega⟩⟩, hl, Int.add_zero, D.year]
    have : (c0 : Int) % 24 = c0 := by omega
    rw [this]
  · have hu0 := F.zero hl
    rw [if_pos (by omega), if_neg (fun h => h D.ok), if_pos (by omega), hn, hl]
    have o := lawDay_ord (n := N + 1) (by omega) (by omega)
    rw [show N - 306 + 1 = N + 1 - 306 by omega, ← o.1, ← o.2.1, ← o.2.2, hu0, a, b, d]
    rfl
end
end Mine
end
section
set_option Elab.async false
set_option linter.unusedVariables false
namespace Mine
def lastX (w : Int) (last : TX) : TX := if w = 16 then last ++ [120] else last
def cutL (w zn mm : Int) : Bool := decide (w = 17 ∧ (1 < zn ∨ (zn = 0 ∧ mm < 3)))
def fullT (ub : Bool) (t : TX) : TX := if ub = true then t.dropLast else t
theorem told {t W last : TX} {mk m c0 c1 c2 c : Nat} {f : TX} {sep : Option Nat} {r0 mb cb zb b : Bool} {y N w zn mm late us : Int} {off : Option Int} (D : Day y N) (T : DTx t true r0 y (lawDayM N) (lawDayD N))
    (hd : isDig mk = false) (hg : mb = false → sep = none ∨ sep = some mk) (hb : mb = true → sep = some 84 ∧ mk ≠ 84) (hm : m = mm.toNat) (hmm : 0 ≤ mm) (C : ClockF m c0 c1 c2 late cb) (F : FracF m c f late us) (Z : ZoneF zn last off zb) (hW : W = ckT m b c0 c1 c2 (c :: f)) :
    ((r0 || cb || zb || mb || decide (w = 16) || cutL w zn mm) = true → isoparse sep (fullT (cutL w zn mm) (t ++ [mk] ++ W ++ lastX w last)) = .error VE) ∧
    ((r0 || cb || zb || mb || decide (w = 16) || cutL w zn mm) = false → ∃ tz, isoparse sep (fullT (cutL w zn mm) (t ++ [mk] ++ W ++ lastX w last)) = .ok ⟨lawDayY (N + late), lawDayM (N + late), lawDayD (N + late), (c0 : Int) % 24, c1, c2, us, tz⟩ ∧
      isotime (W ++ lastX w last) = some ((c0 : Int), (c1 : Int), (c2 : Int), us, tz) ∧ zread last = some tz ∧ offI tz = off ∧ lastX w last = last) := by
  have hWl : W ≠ [] := fun e => by
    have := ckT_len m b c0 c1 c2 (c :: f)
    rw [← hW, e] at this
    simp at this
  have hF : ∃ k, fullT (cutL w zn mm) (t ++ [mk] ++ W ++ lastX w last) = t ++ mk :: k ∧ k = fullT (cutL w zn mm) (W ++ lastX w last) := by
    refine ⟨_, ?_, rfl⟩
    unfold fullT
    by_cases h : cutL w zn mm = true
    · rw [if_pos h, if_pos h]
      have e : t ++ [mk] ++ W ++ lastX w last = (t ++ [mk]) ++ (W ++ lastX w last) := by simp
      rw [e, List.dropLast_append_of_ne_nil (by simp [hWl])]
      simp
    · rw [if_neg h, if_neg h]
      simp
  obtain ⟨k, eF, ek⟩ := hF
  rw [eF]
  cases mb with
  | true =>
    obtain ⟨h1, h2⟩ := hb rfl
    refine ⟨fun _ => ?_, fun e => ?_⟩
    · rw [h1]; exact isoparse_nosep h2 hd T
    · simp at e
  | false =>
  cases r0 with
  | true =>
    refine ⟨fun _ => isoparse_noday hd T, fun e => ?_⟩
    simp at e
  | false =>
  rw [isoparse_ok (hg rfl) hd T]
  by_cases hu : cutL w zn mm = true
  · have hw : w = 17 ∧ (1 < zn ∨ (zn = 0 ∧ mm < 3)) := by unfold cutL at hu; simpa using hu
    have hlx : lastX w last = last := by unfold lastX; rw [if_neg (by omega)]
    have hk : isotime k = none := by
      rw [ek, hlx, hW]
      unfold fullT
      rw [if_pos hu]
      exact time_cut C F Z (by omega)
    refine ⟨fun _ => by rw [hk], fun e => ?_⟩
    rw [hu] at e; simp at e
  · have hu' : cutL w zn mm = false := by simpa using hu
    have ek2 : k = W ++ lastX w last := by rw [ek]; unfold fullT; rw [if_neg hu]
    rw [hu', Bool.or_false]
    by_cases h16 : w = 16
    · have hlx : lastX w last = last ++ [120] := by unfold lastX; rw [if_pos h16]
      have hk : isotime k = none := by rw [ek2, hlx, hW]; exact time_x C F Z
      refine ⟨fun _ => by rw [hk], fun e => ?_⟩
      rw [decide_eq_true h16] at e; simp at e
    · have hlx : lastX w last = last := by unfold lastX; rw [if_neg h16]
      rw [hlx] at ek2 ⊢
      rw [decide_eq_false h16, Bool.or_false, Bool.or_false, ek2, hW]
      cases zb with
      | true =>
        refine ⟨fun _ => by rw [time_badZ C F Z], fun e => ?_⟩
        simp at e
      | false =>
      cases cb with
      | true =>
        refine ⟨fun _ => time_bad C F Z, fun e => ?_⟩
        simp at e
      | false =>
        refine ⟨fun e => by simp at e, fun _ => ?_⟩
        obtain ⟨tz, e1, e2, e3⟩ := time_ok (b := b) C F Z
        refine ⟨tz, ?_, e1, e2, e3, rfl⟩
        rw [e1]
        exact moment D C F tz
end Mine
end
namespace Mine
section
set_option maxRecDepth 100000
open PySem PySem.Spec PySem.Calls PyProof.Rows PySem.W
-- the walk's own line
local macro_rules | `(tactic| walk_at "lk") => `(tactic| (first | with_reducible exact Lk.here | (with_reducible apply Lk.there; first | with_reducible exact Lk.here | (with_reducible apply Lk.there; first | with_reducible exact Lk.here | (with_reducible apply Lk.there; first | with_reducible exact Lk.here | (with_reducible apply Lk.there; first | with_reducible exact Lk.here | (with_reducible apply Lk.there; first | with_reducible exact Lk.here | (with_reducible apply Lk.there; first | with_reducible exact Lk.here | (with_reducible apply Lk.there; first | with_reducible exact Lk.here | (with_reducible apply Lk.there; first | with_reducible exact Lk.here | (with_reducible apply Lk.there; first | with_reducible exact Lk.here | (with_reducible apply Lk.there; first | with_reducible exact Lk.here | (with_reducible apply Lk.there; first | with_reducible exact Lk.here | (with_reducible apply Lk.there; first | with_reducible exact Lk.here | (with_reducible apply Lk.there; first | with_reducible exact Lk.here | (with_reducible apply Lk.there; first | with_reducible exact Lk.here | (with_reducible apply Lk.there; first | with_reducible exact Lk.here | (with_reducible apply Lk.there; first | with_reducible exact Lk.here | (with_reducible apply Lk.there; first | with_reducible exact Lk.here | (with_reducible apply Lk.there; first | with_reducible exact Lk.here | (with_reducible apply Lk.there; first | with_reducible exact Lk.here | (with_reducible apply Lk.there; first | with_reducible exact Lk.here | (with_reducible apply Lk.there; first | with_reducible exact Lk.here | (with_reducible apply Lk.there; first | with_reducible exact Lk.here | (with_reducible apply Lk.there; first | with_reducible exact Lk.here | (with_reducible apply Lk.there; first | with_reducible exact Lk.here | (with_reducible apply Lk.there; first | with_reducible exact Lk.here | (with_reducible apply Lk.there; first | with_reducible exact Lk.here | (with_reducible apply Lk.there; first | with_reducible exact Lk.here | (with_reducible apply Lk.there; first | with_reducible exact Lk.here | (with_reducible apply Lk.there; first | with_reducible exact Lk.here | (with_reducible apply Lk.there; first | with_reducible exact Lk.here | (with_reducible apply Lk.there; first | with_reducible exact Lk.here | (with_reducible apply Lk.there; first | with_reducible exact Lk.here | (with_reducible apply Lk.there; first | with_reducible exact Lk.here | (with_reducible apply Lk.there; fail))))))))))))))))))))))))))))))))))))
local macro_rules | `(tactic| walk_at "up") => `(tactic| (first | with_reducible exact Up.here | (with_reducible apply Up.there; first | with_reducible exact Up.here | (with_reducible apply Up.there; first | with_reducible exact Up.here | (with_reducible apply Up.there; first | with_reducible exact Up.here | (with_reducible apply Up.there; first | with_reducible exact Up.here | (with_reducible apply Up.there; first | with_reducible exact Up.here | (with_reducible apply Up.there; first | with_reducible exact Up.here | (with_reducible apply Up.there; first | with_reducible exact Up.here | (with_reducible apply Up.there; first | with_reducible exact Up.here | (with_reducible apply Up.there; first | with_reducible exact Up.here | (with_reducible apply Up.there; first | with_reducible exact Up.here | (with_reducible apply Up.there; first | with_reducible exact Up.here | (with_reducible apply Up.there; first | with_reducible exact Up.here | (with_reducible apply Up.there; first | with_reducible exact Up.here | (with_reducible apply Up.there; first | with_reducible exact Up.here | (with_reducible apply Up.there; first | with_reducible exact Up.here | (with_reducible apply Up.there; first | with_reducible exact Up.here | (with_reducible apply Up.there; first | with_reducible exact Up.here | (with_reducible apply Up.there; first | with_reducible exact Up.here | (with_reducible apply Up.there; first | with_reducible exact Up.here | (with_reducible apply Up.there; first | with_reducible exact Up.here | (with_reducible apply Up.there; first | with_reducible exact Up.here | (with_reducible apply Up.there; first | with_reducible exact Up.here | (with_reducible apply Up.there; first | with_reducible exact Up.here | (with_reducible apply Up.there; first | with_reducible exact Up.here | (with_reducible apply Up.there; first | with_reducible exact Up.here | (with_reducible apply Up.there; first | with_reducible exact Up.here | (with_reducible apply Up.there; first | with_reducible exact Up.here | (with_reducible apply Up.there; first | with_reducible exact Up.here | (with_reducible apply Up.there; first | with_reducible exact Up.here | (with_reducible apply Up.there; first | with_reducible exact Up.here | (with_reducible apply Up.there; first | with_reducible exact Up.here | (with_reducible apply Up.there; first | with_reducible exact Up.here | (with_reducible apply Up.there; first | with_reducible exact Up.here | (with_reducible apply Up.there; fail))))))))))))))))))))))))))))))))))))
local macro_rules | `(tactic| walk_at "in") => `(tactic| (first | with_reducible exact List.mem_cons_self | (with_reducible apply List.mem_cons_of_mem; first | with_reducible exact List.mem_cons_self | (with_reducible apply List.mem_cons_of_mem; first | with_reducible exact List.mem_cons_self | (with_reducible apply List.mem_cons_of_mem; first | with_reducible exact List.mem_cons_self | (with_reducible apply List.mem_cons_of_mem; first | with_reducible exact List.mem_cons_self | (with_reducible apply List.mem_cons_of_mem; first | with_reducible exact List.mem_cons_self | (with_reducible apply List.mem_cons_of_mem; first | with_reducible exact List.mem_cons_self | (with_reducible apply List.mem_cons_of_mem; first | with_reducible exact List.mem_cons_self | (with_reducible apply List.mem_cons_of_mem; first | with_reducible exact List.mem_cons_self | (with_reducible apply List.mem_cons_of_mem; first | with_reducible exact List.mem_cons_self | (with_reducible apply List.mem_cons_of_mem; first | with_reducible exact List.mem_cons_self | (with_reducible apply List.mem_cons_of_mem; first | with_reducible exact List.mem_cons_self | (with_reducible apply List.mem_cons_of_mem; first | with_reducible exact List.mem_cons_self | (with_reducible apply List.mem_cons_of_mem; first | with_reducible exact List.mem_cons_self | (with_reducible apply List.mem_cons_of_mem; first | with_reducible exact List.mem_cons_self | (with_reducible apply List.mem_cons_of_mem; first | with_reducible exact List.mem_cons_self | (with_reducible apply List.mem_cons_of_mem; first | with_reducible exact List.mem_cons_self | (with_reducible apply List.mem_cons_of_mem; first | with_reducible exact List.mem_cons_self | (with_reducible apply List.mem_cons_of_mem; first | with_reducible exact List.mem_cons_self | (with_reducible apply List.mem_cons_of_mem; first | with_reducible exact List.mem_cons_self | (with_reducible apply List.mem_cons_of_mem; first | with_reducible exact List.mem_cons_self | (with_reducible apply List.mem_cons_of_mem; first | with_reducible exact List.mem_cons_self | (with_reducible apply List.mem_cons_of_mem; first | with_reducible exact List.mem_cons_self | (with_reducible apply List.mem_cons_of_mem; first | with_reducible exact List.mem_cons_self | (with_reducible apply List.mem_cons_of_mem; first | with_reducible exact List.mem_cons_self | (with_reducible apply List.mem_cons_of_mem; first | with_reducible exact List.mem_cons_self | (with_reducible apply List.mem_cons_of_mem; first | with_reducible exact List.mem_cons_self | (with_reducible apply List.mem_cons_of_mem; first | with_reducible exact List.mem_cons_self | (with_reducible apply List.mem_cons_of_mem; first | with_reducible exact List.mem_cons_self | (with_reducible apply List.mem_cons_of_mem; first | with_reducible exact List.mem_cons_self | (with_reducible apply List.mem_cons_of_mem; first | with_reducible exact List.mem_cons_self | (with_reducible apply List.mem_cons_of_mem; first | with_reducible exact List.mem_cons_self | (with_reducible apply List.mem_cons_of_mem; first | with_reducible exact List.mem_cons_self | (with_reducible apply List.mem_cons_of_mem; first | with_reducible exact List.mem_cons_self | (with_reducible apply List.mem_cons_of_mem; fail))))))))))))))))))))))))))))))))))))
local macro_rules | `(tactic| walk_at "bin2") => `(tactic| first
  | with_reducible exact Bin2.add | with_reducible exact Bin2.sub | with_reducible exact Bin2.addB | with_reducible exact Bin2.mulR (by decide) | with_reducible exact Bin2.mulL (by decide) | with_reducible exact Bin2.mulL (by assumption) | with_reducible exact Bin2.fdivP (by decide) (by decide) | with_reducible exact Bin2.modP (by decide) | with_reducible exact Bin2.cat (by assumption))
local macro_rules | `(tactic| walk_at "cmp2") => `(tactic| first
  | with_reducible exact Cmp2.eqI | with_reducible exact Cmp2.neI | with_reducible exact Cmp2.ltI | with_reducible exact Cmp2.leI | with_reducible exact Cmp2.gtI | with_reducible exact Cmp2.geI | with_reducible exact Cmp2.neBB | ((with_reducible apply Cmp2.eq8); (· walk_at "asc"); (· walk_at "asc")) | ((with_reducible apply Cmp2.ne8); (· walk_at "asc"); (· walk_at "asc")) | with_reducible exact Cmp2.eqBy | with_reducible exact Cmp2.neBy | with_reducible exact Cmp2.eqS | with_reducible exact Cmp2.isNN | with_reducible exact Cmp2.isNotNN | with_reducible exact Cmp2.isN rfl | with_reducible exact Cmp2.isNotN rfl)
local macro_rules | `(tactic| walk_at "truth") => `(tactic| first
  | with_reducible exact Truth.bool | with_reducible exact Truth.none | with_reducible exact Truth.int | ((with_reducible apply Truth.by8); omega) | with_reducible exact Truth.str (by assumption) | with_reducible exact Truth.bytes (by assumption))
local macro_rules | `(tactic| walk_at "item") => `(tactic| first | assumption | apply_assumption -exfalso -symm | (exact Item.list (by assumption) (by omega) (by omega) rfl))
local macro_rules | `(tactic| walk_at "keep") => `(tactic| first | with_reducible exact KeepOk.builtin | with_reducible exact kp576 | with_reducible exact kp583 | with_reducible exact kp590 | with_reducible exact kp597 | with_reducible exact kp604 | with_reducible exact kp611 | with_reducible exact kp619 | with_reducible exact kp29 | with_reducible exact kp36 | with_reducible exact kp525 | with_reducible exact kp518 | with_reducible exact KeepOk.type | exact KeepOk.own rfl)
local macro_rules | `(tactic| walk_at "call") => `(tactic| first
  | ((with_reducible apply CallT.len8); omega) | ((with_reducible apply CallT.isdigit8); walk_at "asc") | ((with_reducible apply CallT.decode8); (· walk_at "asc"); (· omega))
  | ((with_reducible apply CallT.lenB); assumption) | ((with_reducible apply CallT.lenS); assumption) | with_reducible exact CallT.isStrS | with_reducible exact CallT.isdigit
  | ((with_reducible apply CallT.of); (· first | assumption | apply_assumption -exfalso -symm); (· exact Fx.fit.id (Sh.fit ‹Sh _ _ _›) (Nat.le_of_ble_eq_true rfl)))
  | assumption
  | apply_assumption -exfalso -symm)
local macro_rules | `(tactic| walk_at "evl") => `(tactic| first | with_reducible exact EvL.nil | ((with_reducible apply EvL.cons); (· walk_at "ev"); (· walk_at "evl"); (· rfl)))
local macro_rules | `(tactic| walk_at "evk") => `(tactic| first | with_reducible exact EvK.nil | ((with_reducible apply EvK.cons); (· walk_at "ev"); (· walk_at "evk")))
local macro_rules | `(tactic| walk_at "evo") => `(tactic| first | exact EvO.none | ((apply EvO.some); walk_at "ev"))
local macro_rules | `(tactic| walk_at "asc") => `(tactic| first | assumption | exact sl_asc ‹_› _ _ | exact Asc.drop ‹_› _ | exact Asc.take ‹_› _ | (unfold Mine.Asc; decide))
local macro_rules | `(tactic| walk_at "cut") => `(tactic| first
  | ((with_reducible apply Cut.sl8); (· omega); (· omega); (· omega)) | ((with_reducible apply Cut.from8); (· omega); (· omega)) | ((with_reducible apply Cut.upto8); (· omega); (· omega)))
local macro_rules | `(tactic| walk_at "dz") => `(tactic| first | exact log2_small (by omega))
local macro_rules | `(tactic| walk_at "pct") => `(tactic| first
  | exact Pct.nil
  | ((refine Pct.lit rfl rfl (by decide) (by decide) ?_); walk_at "pct")
  | ((refine Pct.dec0 ?_ ?_); (· walk_at "dz"); (· walk_at "pct"))
  | ((refine Pct.dec (by decide) ?_ ?_); (· walk_at "dz"); (· walk_at "pct"))
  | ((refine Pct.rep ?_ ?_); (· first | assumption | (apply_assumption)); (· walk_at "pct"))
  | ((refine Pct.str ?_); walk_at "pct"))
local macro_rules | `(tactic| walk_at "meth") => `(tactic| first
  | ((with_reducible apply meth_digits ‹Wd.Ok _›); walk_at "get")
  | ((with_reducible apply meth_isodate ‹Wd.Ok _›); walk_at "get")
  | ((with_reducible apply meth_common ‹Wd.Ok _›); walk_at "get")
  | ((with_reducible apply meth_uncommon ‹Wd.Ok _›); walk_at "get")
  | ((with_reducible apply meth_weekdate ‹Wd.Ok _›); walk_at "get")
  | ((with_reducible apply meth_isotime ‹Wd.Ok _›); walk_at "get")
  | ((with_reducible apply meth_tzstr ‹Wd.Ok _›); walk_at "get")
  | with_reducible exact Meth.bytesIsdigit | with_reducible exact Meth.decode | with_reducible exact Meth.encode
  | ((with_reducible apply Meth.inst ‹Wd.Ok _›); (· walk_at "get"); (· rfl); (· rfl); (· rfl); (· rfl)))
local macro_rules | `(tactic| walk_at "get") => `(tactic| first | assumption | exact get_last | ((refine get_set (o := ?_) ?_); rotate_left; walk_at "get") | ((refine Ext.get Ext.add ?_); walk_at "get"))
local macro_rules | `(tactic| walk_at "gattr") => `(tactic| first
  | ((with_reducible apply get_dsep ‹Wd.Ok _›); walk_at "get") | ((with_reducible apply get_tsep ‹Wd.Ok _›); walk_at "get")
  | ((with_reducible apply Get.ownA ‹Wd.Ok _›); (· walk_at "get"); (· rfl); (· rfl); (· rfl); (· rfl); (· rfl); (· first | rfl | assumption))
  | ((with_reducible apply Get.cls ‹Wd.Ok _›); (· walk_at "get"); (· rfl); (· rfl); (· rfl); (· rfl); (· rfl); (· rfl); (· rfl); (· exact fun ρ => ⟨_, rfl⟩)))
local macro_rules | `(tactic| walk_at "ev") => `(tactic| first
  | ((with_reducible show Ev _ _ (Expr.Name _ _) _ _ _ _); first | ((with_reducible apply Ev.lcA); (· assumption); (· walk_at "lk"); (· first | rfl | assumption)) | ((with_reducible apply Ev.glI); (· assumption); (· assumption); (· walk_at "in")) | ((with_reducible apply Ev.glA); (· assumption); (· assumption); (· walk_at "in")) | fail)
  | ((with_reducible show Ev _ _ (Expr.Constant _ _ _) _ _ _ _); first | with_reducible exact Ev.int | with_reducible exact Ev.str | ((with_reducible apply Ev.by8A); (first | exact (rfl : _ = Mine.by8 [45]) | exact (rfl : _ = Mine.by8 [58]) | exact (rfl : _ = Mine.by8 [87]) | exact (rfl : _ = Mine.by8 [45, 43, 90, 122]) | exact (rfl : _ = Mine.by8 []) | exact (rfl : _ = Mine.by8 [46]) | exact (rfl : _ = Mine.by8 [44]) | exact (rfl : _ = Mine.by8 [90]) | exact (rfl : _ = Mine.by8 [122]) | exact (rfl : _ = Mine.by8 [43]))) | with_reducible exact Ev.bytes | with_reducible exact Ev.nil | with_reducible exact Ev.bool | fail)
  | ((with_reducible show Ev _ _ (Expr.Attribute _ _ _) _ _ _ _); (with_reducible apply Ev.attr); (· walk_at "ev"); (· walk_at "gattr"); (· rfl))
  | ((with_reducible show Ev _ _ (Expr.BinOp _ _ _ _) _ _ _ _); (with_reducible apply Ev.bin); (· walk_at "ev"); (· walk_at "ev"); (· walk_at "bin2"))
  | ((with_reducible show Ev _ _ (Expr.Compare _ _ _ _) _ _ _ _); (with_reducible apply Ev.cmp); (· walk_at "ev"); (· walk_at "ev"); (· walk_at "cmp2"); (· rfl))
  | ((with_reducible show Ev _ _ (Expr.UnaryOp _ _ _) _ _ _ _); (with_reducible apply Ev.neg); (· walk_at "ev"))
  | ((with_reducible show Ev _ _ (Expr.BoolOp _ _ _) _ _ _ _); first
    | ((with_reducible apply Ev.andB); (· walk_at "ev"); (· (intro _; walk_at "ev")))
    | ((with_reducible apply Ev.orB); (· walk_at "ev"); (· (intro _; walk_at "ev")))
    | ((with_reducible apply Ev.and2); (· walk_at "ev"); (· walk_at "truth"); (· (intro _; walk_at "ev")))
    | ((with_reducible apply Ev.or2); (· walk_at "ev"); (· walk_at "truth"); (· (intro _; walk_at "ev"))) | fail)
  | ((with_reducible show Ev _ _ (Expr.Call _ _ _ _) _ _ _ _); first
    | ((with_reducible apply Ev.methA); (· assumption); (· walk_at "ev"); (· walk_at "meth"); (· walk_at "keep"); (· walk_at "evl"); (· walk_at "evk"); (· exact List.singleton_append); (· walk_at "call"); (· rfl); (· exact ⟨_, rfl⟩))
    | ((with_reducible apply Ev.callT); (· assumption); (· walk_at "ev"); (· walk_at "keep"); (· walk_at "evl"); (· walk_at "evk"); (· walk_at "call"); (· rfl); (· rfl)) | fail)
  | ((with_reducible show Ev _ _ (Expr.Subscript _ _ _) _ _ _ _); first
    | ((with_reducible apply Ev.cut); (· walk_at "ev"); (· walk_at "evo"); (· walk_at "evo"); (· walk_at "cut"))
    | ((with_reducible apply Ev.sub); (· walk_at "ev"); (· walk_at "ev"); (· walk_at "item"); (· rfl)) | fail)
  | ((with_reducible show Ev _ _ (Expr.Tuple _ _ _) _ _ _ _); (with_reducible apply Ev.tuple); (· walk_at "evl"); (· exact Nat.le_of_ble_eq_true rfl))
  | ((with_reducible show Ev _ _ (Expr.List _ _) _ _ _ _); (with_reducible apply Ev.list); (· walk_at "evl"); (· exact Nat.le_of_ble_eq_true rfl))
  | fail)
local macro_rules | `(tactic| walk_at "bt") => `(tactic| first
  | ((with_reducible show Bt _ _ (Expr.Compare _ _ _ _) _ _ _ _); first
    | ((with_reducible apply Bt.cmpA); (· walk_at "ev"); (· walk_at "ev"); (· walk_at "cmp2"); (· rfl))
    | ((with_reducible apply Bt.chain); (· walk_at "ev"); (· walk_at "ev"); (· walk_at "cmp2"); (· (intro _; walk_at "ev")); (· (intro _; walk_at "cmp2")); (· rfl)) | fail)
  | ((with_reducible show Bt _ _ (Expr.UnaryOp _ _ _) _ _ _ _); (with_reducible apply Bt.not); (· walk_at "bt"))
  | ((with_reducible show Bt _ _ (Expr.BoolOp _ _ _) _ _ _ _); first
    | ((with_reducible apply Bt.and2); (· walk_at "bt"); (· (intro _; walk_at "bt")))
    | ((with_reducible apply Bt.or2); (· walk_at "bt"); (· (intro _; walk_at "bt")))
    | ((with_reducible apply Bt.andN); (· walk_at "bt"); (· (intro _; walk_at "bt")))
    | ((with_reducible apply Bt.orN); (· walk_at "bt"); (· (intro _; walk_at "bt"))) | fail)
  | ((with_reducible apply Bt.plain); (· walk_at "ev"); (· walk_at "truth"); (· (intro _; rfl)))
  | fail)
local macro_rules | `(tactic| walk_at "inv") => `(tactic| (intro s ρ xs ks X rx rk; (repeat (rcases rx with _ | ⟨r1, rx⟩)); (repeat (rcases rk with _ | ⟨k1, rk⟩))))
local macro_rules | `(tactic| walk_at "reps") => `(tactic| (repeat (first | exact RepL.nil | (refine RepL.cons ?_ ?_; (· first | assumption | exact ⟨_, rfl⟩ | exact rfl)))))
local macro_rules | `(tactic| walk_at "hb1") => `(tactic| (walk_at "inv"; refine ⟨[_], kp_binds ‹Frag.In _ _› (fun S => rfl), ?_⟩; walk_at "reps"))
local macro_rules | `(tactic| walk_at "hb2") => `(tactic| (walk_at "inv"; refine ⟨[_, _], kp_binds ‹Frag.In _ _› (fun S => rfl), ?_⟩; walk_at "reps"))
local macro_rules | `(tactic| walk_at "hb3") => `(tactic| (walk_at "inv"; refine ⟨[_, _, _], kp_binds ‹Frag.In _ _› (fun S => rfl), ?_⟩; walk_at "reps"))
local macro_rules | `(tactic| walk_at "hb4") => `(tactic| (walk_at "inv"; refine ⟨[_, _, _, _], kp_binds ‹Frag.In _ _› (fun S => rfl), ?_⟩; walk_at "reps"))
local macro_rules | `(tactic| walk_at "hb5") => `(tactic| (walk_at "inv"; refine ⟨[_, _, _, _, _], kp_binds ‹Frag.In _ _› (fun S => rfl), ?_⟩; walk_at "reps"))
local macro_rules | `(tactic| walk_at "hb6") => `(tactic| (walk_at "inv"; refine ⟨[_, _, _, _, _, _], kp_binds ‹Frag.In _ _› (fun S => rfl), ?_⟩; walk_at "reps"))
local macro_rules | `(tactic| walk_at "asg") => `(tactic| ((with_reducible apply XP.step); (· (intro _ _; (with_reducible apply Ex1.asgA ‹Sh _ _ _›); (· walk_at "ev"); (· walk_at "up"); (· rfl)))))
local macro_rules | `(tactic| walk_at "ret") => `(tactic| ((with_reducible apply XP.ret); (· (intro _ _; walk_at "ev"))))
local macro_rules | `(tactic| walk_at "ite") => `(tactic| ((with_reducible apply XP.ite); (· (intro _ _; walk_at "bt")); (all_goals (try simp only [List.cons_append, List.nil_append]))))

local macro_rules | `(tactic| walk_at "raiseV") => `(tactic| ((with_reducible apply XP.exc); (· (intro _ _; (with_reducible apply Ex1.raiseA ‹Wd.Ok _› ‹Sh _ _ _› F.excCall_ValueError F.excRaise_ValueError); (· walk_at "in"); (· walk_at "evl"); (· exact Nat.le_of_ble_eq_true rfl); (· rfl)))))
local macro_rules | `(tactic| walk_at "raiseO") => `(tactic| ((with_reducible apply XP.exc); (· (intro _ _; (with_reducible apply Ex1.raiseA ‹Wd.Ok _› ‹Sh _ _ _› F.excCall_OverflowError F.excRaise_OverflowError); (· walk_at "in"); (· walk_at "evl"); (· exact Nat.le_of_ble_eq_true rfl); (· rfl)))))
local macro_rules | `(tactic| walk_at "set") => `(tactic| ((with_reducible apply XP.step); (· (intro _ _; (with_reducible apply Ex1.setA ‹Wd.Ok _›); (· walk_at "ev"); (· walk_at "ev"); (· walk_at "get"); (· rfl); (· exact Nat.le_of_ble_eq_true rfl); (· rfl); (· rfl); (· rfl)))))
local macro_rules | `(tactic| walk_at "setAt") => `(tactic| ((with_reducible apply XP.step); (· (intro _ _; (with_reducible apply Ex1.setAtL); (· walk_at "ev"); (· walk_at "ev"); (· walk_at "ev"); (· walk_at "get"); (· decide); (· decide); (· rfl); (· rfl); (· rfl)))))
local macro_rules | `(tactic| walk_at "setAtE") => `(tactic| ((with_reducible apply XP.exc); (· (intro _ _; (with_reducible apply Ex1.setAtE); (· walk_at "ev"); (· rfl)))))
local macro_rules | `(tactic| walk_at "asgE") => `(tactic| ((with_reducible apply XP.exc); (· (intro _ _; (with_reducible apply Ex1.asgEA); (· walk_at "ev"); (· rfl)))))
local macro_rules | `(tactic| walk_at "retE") => `(tactic| ((with_reducible apply XP.retE); (· (intro _ _; walk_at "ev"))))
local macro_rules | `(tactic| walk_at "aug2") => `(tactic| first | with_reducible exact Aug2.addI | with_reducible exact Aug2.addB)
local macro_rules | `(tactic| walk_at "aug") => `(tactic| ((with_reducible apply XP.step); (· (intro _ _; (with_reducible apply Ex1.augA ‹Sh _ _ _›); (· walk_at "lk"); (· rfl); (· walk_at "ev"); (· walk_at "aug2"); (· walk_at "up")))))
local macro_rules | `(tactic| walk_at "expr") => `(tactic| ((with_reducible apply XP.step); (· (intro _ _; (with_reducible apply Ex1.expr ‹Sh _ _ _›); (· walk_at "ev"); (· rfl)))))
local macro_rules | `(tactic| walk_at "exprE") => `(tactic| ((with_reducible apply XP.exc); (· (intro _ _; (with_reducible apply Ex1.exprE ‹Sh _ _ _›); (· walk_at "ev"); (· rfl)))))
section
set_option Elab.async false
set_option maxRecDepth 100000
set_option maxHeartbeats 4000000
set_option linter.unusedVariables false
open PySem PySem.Spec PySem.Calls PyProof.Rows PySem.W
variable {q : Pk}
/-- a day's parts and the place, as they come back -/
def DayAt (st st' : Sto) (r : Out V) (x : Int × Int × Int × Int) : Prop := ∃ t k, r = .ok (.obj t) ∧ st'[t]? = some (.tuple [.obj k, .int x.2.2.2]) ∧ st'[k]? = some (.list [.int x.1, .int x.2.1, .int x.2.2.1]) ∧ st.length ≤ k
theorem common_ (ok : (C1 q).Ok) (z : Bool) {n : Nat} {sep : V} {l : TX} {st : Sto} (hn : st[n]? = some (rd sep)) (hl : Asc l) (hz : l.length ≤ 1000) :
    ∃ r st', Calls (C1 q) z 2 (.glob (.ref 590)) [.obj n, .bytes (by8 l)] [] st r st' ∧ (Ext st st' ∧ (match common l with | none => r = .exc ⟨"ValueError", z⟩ | some x => DayAt st st' r x)) := by
  refine Calls.defX (c := C1 q) (f := 590) (binds := [.obj n, .bytes (by8 l)]) 2 ["self", "dt_str", "len_str", "components", "pos", "has_sep"] [("len", .builtin "len"), ("ValueError", .type "ValueError")] z 1 [.obj n, .bytes (by8 l), .undef, .undef, .undef, .undef] ok rfl rfl rfl rfl ?_ rfl (by decide) rfl ?_
  · walk_at "hb2"
  · have hn1 := Ext.get (Ext.add (l := [MObj.list [.int 1, .int 1, .int 1]])) hn
    have hk1 : (st ++ [MObj.list [.int 1, .int 1, .int 1]])[st.length]? = some (.list [.int 1, .int 1, .int 1]) := get_last
    walk_at "asg"
    walk_at "asg"
    by_cases h4 : (l.length : Int) < 4
    · have hc : common l = none := by
        unfold common
        rw [dg_short (by omega) (by omega) (by omega)]
      rw [hc]
      walk_at "ite"
      · intro _
        walk_at "raiseV"
        exact ⟨_, rfl, Ext.add, rfl⟩
      · intro ht; simp at ht; omega
    · walk_at "ite"
      · intro ht; simp at ht; omega
      intro _
      obtain ⟨r1, st1, c1, x1, e1⟩ := digits_ (q := q) ok z (p := 0) (k := 4) hn1 hl hz (by decide) (by decide) (by decide)
      cases hd : dg l 0 4 with
      | none =>
        have hc : common l = none := by unfold common; rw [hd]
        rw [hc]
        rw [hd] at e1
        subst e1
        walk_at "setAtE"
        exact ⟨_, rfl, Ext.add.trans x1, rfl⟩
      | some y =>
        rw [hd] at e1
        subst e1
        have hk2 := Ext.get x1 hk1
        walk_at "setAt"
        have X1 : Ext st (st1.set st.length (.list [.int y, .int 1, .int 1])) := (Ext.add.trans x1).set (Nat.le_refl _) _
        have K1' : (st1.set st.length (.list [.int y, .int 1, .int 1]))[st.length]? = some (.list [.int y, .int 1, .int 1]) := get_set hk2
        change XP _ _ _ _ (st1.set st.length (.list [.int y, .int 1, .int 1])) _
        generalize (st1.set st.length (.list [.int y, .int 1, .int 1])) = S1 at *
        clear hk2 x1 c1 hn1 hk1
        have hn2 := Ext.get X1 hn
        walk_at "asg"
        by_cases h5 : 4 ≥ (l.length : Int)
        · have hc : common l = some (y, 1, 1, 4) := by unfold common; rw [hd]; simp only [if_pos h5]
          rw [hc]
          walk_at "ite"
          · intro _
            walk_at "ret"
            exact ⟨_, rfl, X1.trans Ext.add, _, _, rfl, get_last, Ext.get Ext.add K1', Nat.le_refl _⟩
          · intro ht; simp at ht; omega
        walk_at "ite"
        · intro ht; simp at ht; omega
        intro _
        walk_at "asg"
        generalize hb : (sl l 4 (4 + 1) == [45]) = b
        with_reducible apply XP.step (m₁ := [.obj n, .bytes (by8 l), .int l.length, .obj st.length, .int (if b then 4 + 1 else 4), .bool b]) (st₁ := S1)
        · intro fr F'
          cases b <;> simp only [reduceIte, Bool.false_eq_true]
          · refine Ex1.ite (t := false) (st₁ := S1) (by walk_at "bt") (fun e => nomatch e) fun _ => Ex.nil
          · refine Ex1.ite (t := true) (st₁ := S1) (by walk_at "bt") (fun _ => Ex.cons ?_ Ex.nil) (fun e => nomatch e)
            (with_reducible apply Ex1.augA ‹Sh _ _ _›); (· walk_at "lk"); (· rfl); (· walk_at "ev"); (· walk_at "aug2"); (· walk_at "up")
        have hcm : common l = com1 l b y (if b then 4 + 1 else 4) := by
          unfold common
          rw [hd]
          simp only [if_neg h5, hb]
        have hp : (4 : Int) ≤ (if b then 4 + 1 else 4) ∧ (if b then 4 + 1 else 4 : Int) ≤ 5 := by cases b <;> decide
        generalize hp1 : (if b then 4 + 1 else 4 : Int) = p1 at *
        by_cases h6 : (l.length : Int) - p1 < 2
        · unfold com1 at hcm
          rw [dg_short (by omega) (by omega) (by omega)] at hcm
          rw [hcm]
          walk_at "ite"
          · intro _
            walk_at "raiseV"
            exact ⟨_, rfl, X1, rfl⟩
          · intro ht; simp at ht; omega
        walk_at "ite"
        · intro ht; simp at ht; omega
        intro _
        obtain ⟨r2, st2, c2, x2, e2⟩ := digits_ (q := q) ok z (p := p1) (k := 2) hn2 hl hz (by omega) (by decide) (by decide)
        unfold com1 at hcm
        cases hd2 : dg l p1 2 with
        | none =>
          rw [hd2] at hcm e2
          rw [hcm]
          subst e2
          walk_at "setAtE"
          exact ⟨_, rfl, X1.trans x2, rfl⟩
        | some mo =>
          rw [hd2] at hcm e2
          simp only at hcm
          unfold com2 at hcm
          subst e2
          have hk2 := Ext.get x2 K1'
          walk_at "setAt"
          have X2 : Ext st (st2.set st.length (.list [.int y, .int mo, .int 1])) := (X1.trans x2).set (Nat.le_refl _) _
          have K2' : (st2.set st.length (.list [.int y, .int mo, .int 1]))[st.length]? = some (.list [.int y, .int mo, .int 1]) := get_set hk2
          change XP _ _ _ _ (st2.set st.length (.list [.int y, .int mo, .int 1])) _
          generalize (st2.set st.length (.list [.int y, .int mo, .int 1])) = S2 at *
          clear hk2 x2 c2 hn2 K1' X1
          have hn2 := Ext.get X2 hn
          walk_at "aug"
          by_cases h7 : p1 + 2 ≥ (l.length : Int)
          · rw [if_pos h7] at hcm
            walk_at "ite"
            · intro _
              cases b
              · simp only [Bool.false_eq_true, if_false] at hcm
                rw [hcm]
                walk_at "ite"
                · intro e; cases e
                · intro _
                  walk_at "raiseV"
                  exact ⟨_, rfl, X2, rfl⟩
              · simp only [if_true] at hcm
                rw [hcm]
                walk_at "ite"
                · intro _
                  walk_at "ret"
                  exact ⟨_, rfl, X2.trans Ext.add, _, _, rfl, get_last, Ext.get Ext.add K2', Nat.le_refl _⟩
                · intro e; cases e
            · intro ht; simp at ht; omega
          rw [if_neg h7] at hcm
          walk_at "ite"
          · intro ht; simp at ht; omega
          intro _
          by_cases h8 : b = true ∧ (sl l (p1 + 2) (p1 + 2 + 1) == [45]) = false
          · rw [if_pos h8] at hcm
            rw [hcm]
            obtain ⟨rfl, h8⟩ := h8
            walk_at "ite"
            · intro _
              walk_at "ite"
              · intro _
                walk_at "raiseV"
                exact ⟨_, rfl, X2, rfl⟩
              · intro ht; unfold bne at ht; rw [h8] at ht; cases ht
            · intro e; cases e
          rw [if_neg h8] at hcm
          with_reducible apply XP.step (m₁ := [.obj n, .bytes (by8 l), .int l.length, .obj st.length, .int (if b then p1 + 2 + 1 else p1 + 2), .bool b]) (st₁ := S2)
          · intro fr F'
            cases b <;> simp only [reduceIte, Bool.false_eq_true]
            · refine Ex1.ite (t := false) (st₁ := S2) (by walk_at "bt") (fun e => nomatch e) fun _ => Ex.nil
            · refine Ex1.ite (t := true) (st₁ := S2) (by walk_at "bt") (fun _ => Ex.cons (Ex1.ite (t := false) (st₁ := S2) (Bt.conv (b := (sl l (p1 + 2) (p1 + 2 + 1) != [45])) (by walk_at "bt") ?_) (fun e => nomatch e) fun _ => Ex.nil) (Ex.cons ?_ Ex.nil)) (fun e => nomatch e)
              · simp at h8; simp [h8]
              (with_reducible apply Ex1.augA ‹Sh _ _ _›); (· walk_at "lk"); (· rfl); (· walk_at "ev"); (· walk_at "aug2"); (· walk_at "up")
          have hp3 : (0 : Int) ≤ (if b then p1 + 2 + 1 else p1 + 2) := by cases b <;> simp <;> omega
          generalize hp4 : (if b then p1 + 2 + 1 else p1 + 2 : Int) = p3 at *
          by_cases h9 : (l.length : Int) - p3 < 2
          · unfold com3 at hcm
            rw [dg_short (by omega) (by omega) (by omega)] at hcm
            rw [hcm]
            walk_at "ite"
            · intro _
              walk_at "raiseV"
              exact ⟨_, rfl, X2, rfl⟩
            · intro ht; simp at ht; omega
          walk_at "ite"
          · intro ht; simp at ht; omega
          intro _
          obtain ⟨r3, st3, c3, x3, e3⟩ := digits_ (q := q) ok z (p := p3) (k := 2) hn2 hl hz (by omega) (by decide) (by decide)
          unfold com3 at hcm
          cases hd3 : dg l p3 2 with
          | none =>
            rw [hd3] at hcm e3
            rw [hcm]
            subst e3
            walk_at "setAtE"
            exact ⟨_, rfl, X2.trans x3, rfl⟩
          | some d =>
            rw [hd3] at hcm e3
            simp only at hcm
            rw [hcm]
            subst e3
            have hk2 := Ext.get x3 K2'
            walk_at "setAt"
            have X3 : Ext st (st3.set st.length (.list [.int y, .int mo, .int d])) := (X2.trans x3).set (Nat.le_refl _) _
            have K3' : (st3.set st.length (.list [.int y, .int mo, .int d]))[st.length]? = some (.list [.int y, .int mo, .int d]) := get_set hk2
            change XP _ _ _ _ (st3.set st.length (.list [.int y, .int mo, .int d])) _
            walk_at "ret"
            exact ⟨_, rfl, X3.trans Ext.add, _, _, rfl, get_last, Ext.get Ext.add K3', Nat.le_refl _⟩
end
section
set_option Elab.async false
set_option maxRecDepth 100000
set_option maxHeartbeats 4000000
set_option linter.unusedVariables false
open PySem PySem.Spec PySem.Calls PyProof.Rows PySem.W
variable {q : Pk}
def exc (z : Bool) (s : String) : Out V := .exc ⟨s, z⟩
theorem get_last2 {st : Sto} {a b : MObj} : (st ++ [a] ++ [b])[st.length + 1]? = some b := by simp
/-- the day's number is what comes back as a date -/
def DateIs (z : Bool) (st' : Sto) (r : Out V) : Except String Int → Prop
  | .error e => r = .exc ⟨e, z⟩
  | .ok N => ∃ k, r = .ok (.obj k) ∧ st'[k]? = some (ordO N) ∧ 1 ≤ N ∧ N ≤ 3652059
theorem weekdate_ (ok : (C1 q).Ok) (z : Bool) {n : Nat} {sep : V} {y w d : Int} {st : Sto} (hn : st[n]? = some (rd sep)) (hw : 0 ≤ w ∧ w < 1000) (hd : 0 ≤ d ∧ d < 1000) :
    ∃ r st', Calls (C1 q) z 8 (.glob (.ref 604)) [.obj n, .int y, .int w, .int d] [] st r st' ∧ (Ext st st' ∧ DateIs z st' r (weekdate y w d)) := by
  refine Calls.defX (c := C1 q) (f := 604) (binds := [.obj n, .int y, .int w, .int d]) 4 ["self", "year", "week", "day", "jan_4", "week_1", "week_offset"] [("ValueError", .type "ValueError"), ("date", .ref 276), ("timedelta", .ref 124)] z 7 [.obj n, .int y, .int w, .int d, .undef, .undef, .undef] ok rfl rfl rfl rfl ?_ rfl (by decide) rfl ?_
  · walk_at "hb4"
  · have dzl : ∀ i : Int, 0 ≤ i ∧ i < 1000 → (dz false none i).length ≤ 9 := fun i hi => by
      obtain ⟨a, rfl⟩ := Int.eq_ofNat_of_zero_le hi.1
      exact dz_len (by decide) (by omega)
    by_cases h1 : 0 < w ∧ w < 54
    · walk_at "ite"
      · intro ht; simp at ht; omega
      intro _
      by_cases h2 : 0 < d ∧ d < 8
      · walk_at "ite"
        · intro ht; simp at ht; omega
        intro _
        obtain ⟨r1, st1, c1, x1, e1⟩ := dateMake (q := q) ok z (y := y) (mo := 1) (d := 4) (st := st)
        by_cases h3 : 1 ≤ y ∧ y ≤ 9999
        · rw [if_pos ((jan4_ok y).mpr h3)] at e1
          obtain ⟨rfl, rfl⟩ := e1
          walk_at "asg"
          obtain ⟨w1, w2⟩ := week1_pos h3.1 h3.2
          have g1 : (st ++ [dO y 1 4])[st.length]? = some (dO y 1 4) := get_last
          have hwd := weekday_ (q := q) ok z g1
          have htd := tdDays (q := q) ok z (d := (before y 1 + 4 + 6) % 7) (st := st ++ [dO y 1 4]) (by omega)
          have g2 : (st ++ [dO y 1 4] ++ [td ((before y 1 + 4 + 6) % 7) 0 0])[(st ++ [dO y 1 4]).length]? = some (td ((before y 1 + 4 + 6) % 7) 0 0) := get_last
          have hs := dateSub (q := q) ok z (Ext.get Ext.add g1) g2 (by omega) (by unfold week1 at w1 w2; omega)
          rw [show before y 1 + 4 + -((before y 1 + 4 + 6) % 7) = week1 y by unfold week1; omega] at hs
          with_reducible apply XP.step
          · intro fr F'
            (with_reducible apply Ex1.asgA ‹Sh _ _ _›)
            · refine Ev.binO ok (C := 276) (D := 124) (f := 273) (b := true) (n := st.length) (k := (st ++ [dO y 1 4]).length) (by walk_at "ev") (by walk_at "ev") binSub (Ext.get Ext.add g1) g2 (CallT.of hs (Fx.fit.id F'.fit (Nat.le_of_ble_eq_true rfl))) (fun v e => by cases e; exact ⟨_, rfl⟩)
            · walk_at "up"
            · rfl
          generalize hS : st ++ [dO y 1 4] ++ [td ((before y 1 + 4 + 6) % 7) 0 0] ++ [td (-((before y 1 + 4 + 6) % 7)) 0 0] ++ [ordO (week1 y)] = S
          have gw : S[(st ++ [dO y 1 4] ++ [td ((before y 1 + 4 + 6) % 7) 0 0]).length + 1]? = some (ordO (week1 y)) := by rw [← hS]; exact get_last2
          have XS : Ext st S := ⟨[dO y 1 4] ++ [td ((before y 1 + 4 + 6) % 7) 0 0] ++ [td (-((before y 1 + 4 + 6) % 7)) 0 0] ++ [ordO (week1 y)], by rw [← hS]; simp⟩
          generalize (st ++ [dO y 1 4] ++ [td ((before y 1 + 4 + 6) % 7) 0 0]).length + 1 = kw at *
          clear hs htd hwd g1 g2 c1 x1 hS
          walk_at "asg"
          have htd := tdDays (q := q) ok z (d := (w - 1) * 7 + (d - 1)) (st := S) (by omega)
          have g2 : (S ++ [td ((w - 1) * 7 + (d - 1)) 0 0])[S.length]? = some (td ((w - 1) * 7 + (d - 1)) 0 0) := get_last
          have ha := dateAdd (q := q) ok z (Ext.get Ext.add gw) g2
          rw [ord_back] at ha
          have hN : week1 y + ((w - 1) * 7 + (d - 1)) = weekN y w d := rfl
          rw [hN] at ha
          have hlo : 1 ≤ weekN y w d := by rw [← hN]; omega
          by_cases h4 : weekN y w d ≤ 3652059
          · have hr : weekdate y w d = .ok (weekN y w d) := by unfold weekdate; rw [if_neg (by omega), if_neg (by omega), if_neg (by omega), if_pos h4]
            rw [hr]
            rw [if_pos ⟨hlo, h4⟩, if_pos ⟨hlo, h4⟩] at ha
            apply XP.ret
            · intro fr F'
              refine Ev.binO ok (C := 276) (D := 124) (f := 266) (b := true) (n := kw) (k := S.length) (by walk_at "ev") (by walk_at "ev") binAdd (Ext.get Ext.add gw) g2 (CallT.of ha (Fx.fit.id F'.fit (Nat.le_of_ble_eq_true rfl))) (fun v e => by cases e; exact ⟨_, rfl⟩)
            · exact ⟨_, rfl, XS.trans (Ext.add.trans Ext.add), _, rfl, get_last, hlo, h4⟩
          · have hr : weekdate y w d = .error "OverflowError" := by unfold weekdate; rw [if_neg (by omega), if_neg (by omega), if_neg (by omega), if_neg h4]
            rw [hr]
            rw [if_neg (by omega), if_neg (by omega)] at ha
            apply XP.retE
            · intro fr F'
              refine Ev.binO ok (C := 276) (D := 124) (f := 266) (b := true) (n := kw) (k := S.length) (by walk_at "ev") (by walk_at "ev") binAdd (Ext.get Ext.add gw) g2 (CallT.of ha (Fx.fit.id F'.fit (Nat.le_of_ble_eq_true rfl))) (fun v e => by cases e)
            · exact ⟨_, rfl, XS.trans Ext.add, rfl⟩
        · have hr : weekdate y w d = .error "ValueError" := by unfold weekdate; rw [if_neg (by omega), if_neg (by omega), if_pos (by omega)]
          rw [hr]
          rw [if_neg (fun h => h3 ((jan4_ok y).mp h))] at e1
          subst e1
          walk_at "asgE"
          exact ⟨_, rfl, x1, rfl⟩
      · have hr : weekdate y w d = .error "ValueError" := by unfold weekdate; rw [if_neg (by omega), if_pos (by omega)]
        rw [hr]
        walk_at "ite"
        · intro _
          with_reducible apply XP.exc
          · intro fr F'
            (with_reducible apply Ex1.raiseA ‹Wd.Ok _› ‹Sh _ _ _› F.excCall_ValueError F.excRaise_ValueError)
            · walk_at "in"
            · with_reducible apply EvL.cons
              · with_reducible apply Ev.bin
                · walk_at "ev"
                · walk_at "ev"
                · exact Bin2.pctI [.lit (tx "Invalid weekday: "), .d] rfl rfl ⟨by omega, trivial⟩ (by omega) (by
                    have := dzl d hd
                    simp only [fmt, List.length_append, List.length_nil]
                    have e1 : (tx "Invalid weekday: ").length = 17 := rfl
                    omega)
              · walk_at "evl"
              · rfl
            · exact Nat.le_of_ble_eq_true rfl
            · rfl
          exact ⟨_, rfl, Ext.refl, rfl⟩
        · intro ht; simp at ht; omega
    · have hr : weekdate y w d = .error "ValueError" := by unfold weekdate; rw [if_pos (by omega)]
      rw [hr]
      walk_at "ite"
      · intro _
        with_reducible apply XP.exc
        · intro fr F'
          (with_reducible apply Ex1.raiseA ‹Wd.Ok _› ‹Sh _ _ _› F.excCall_ValueError F.excRaise_ValueError)
          · walk_at "in"
          · with_reducible apply EvL.cons
            · with_reducible apply Ev.bin
              · walk_at "ev"
              · walk_at "ev"
              · exact Bin2.pctI [.lit (tx "Invalid week: "), .d] rfl rfl ⟨by omega, trivial⟩ (by omega) (by
                  have := dzl w hw
                  simp only [fmt, List.length_append, List.length_nil]
                  have e1 : (tx "Invalid week: ").length = 14 := rfl
                  omega)
            · walk_at "evl"
            · rfl
          · exact Nat.le_of_ble_eq_true rfl
          · rfl
        exact ⟨_, rfl, Ext.refl, rfl⟩
      · intro ht; simp at ht; omega
end
section
set_option Elab.async false
set_option maxRecDepth 100000
set_option simprocs false
set_option maxHeartbeats 4000000
set_option linter.unusedVariables false
open PySem PySem.Spec PySem.Calls PyProof.Rows PySem.W
variable {q : Pk}
def DayOr (st st' : Sto) (r : Out V) : Except String (Int × Int × Int × Int) → Prop
  | .error e => ∃ k, r = .exc ⟨e, k⟩
  | .ok x => DayAt st st' r x
abbrev unb (x : Int × Int) : Int × Int × Int × Int := (ordY x.1, ordM x.1, ordD x.1, x.2)
theorem uncommon_ (ok : (C1 q).Ok) (z : Bool) {n : Nat} {sep : V} {l : TX} {st : Sto} (hn : st[n]? = some (rd sep)) (hl : Asc l) (hz : l.length ≤ 1000) :
    ∃ r st', Calls (C1 q) z 9 (.glob (.ref 597)) [.obj n, .bytes (by8 l)] [] st r st' ∧ (Ext st st' ∧ DayOr st st' r ((uncommon l).map unb)) := by
  refine Calls.defX (c := C1 q) (f := 597) (binds := [.obj n, .bytes (by8 l)]) 2 ["self", "dt_str", "year", "has_sep", "pos", "weekno", "dayno", "base_date", "ordinal_day", "components"] [("len", .builtin "len"), ("ValueError", .type "ValueError"), ("isleap", .ref 29), ("date", .ref 276), ("timedelta", .ref 124)] z 8 [.obj n, .bytes (by8 l), .undef, .undef, .undef, .undef, .undef, .undef, .undef, .undef] ok rfl rfl rfl rfl ?_ rfl (by decide) rfl ?_
  · walk_at "hb2"
  · by_cases h4 : (l.length : Int) < 4
    · have hc : uncommon l = .error VE := by
        unfold uncommon
        rw [dg_short (by omega) (by omega) (by omega)]
      rw [hc]
      walk_at "ite"
      · intro _
        walk_at "raiseV"
        exact ⟨_, rfl, Ext.refl, _, rfl⟩
      · intro ht; simp at ht; omega
    · walk_at "ite"
      · intro ht; simp at ht; omega
      intro _
      obtain ⟨r1, st1, c1, x1, e1⟩ := digits_ (q := q) ok z (p := 0) (k := 4) hn hl hz (by decide) (by decide) (by decide)
      unfold uncommon
      cases hd : dg l 0 4 with
      | none =>
        rw [hd] at e1
        subst e1
        walk_at "asgE"
        exact ⟨_, rfl, x1, _, rfl⟩
      | some y =>
        have hy := dg_r4 hd
        rw [hd] at e1
        subst e1
        walk_at "asg"
        have hn1 := Ext.get x1 hn
        walk_at "asg"
        generalize hb : (sl l 4 5 == [45]) = b
        walk_at "asg"
        simp only [unc1]
        have hp0 : (0 : Int) ≤ (4 + if b = true then 1 else 0) ∧ (4 + if b = true then 1 else 0 : Int) ≤ 5 := by cases b <;> decide
        generalize hp : (4 + if b = true then 1 else 0 : Int) = p at *
        unfold uncP
        walk_at "ite"
        · intro hw
          rw [if_pos hw]
          unfold uncW
          walk_at "aug"
          obtain ⟨r2, st2, c2, x2, e2⟩ := digits_ (q := q) ok z (p := p + 1) (k := 2) hn1 hl hz (by omega) (by decide) (by decide)
          cases hd2 : dg l (p + 1) 2 with
          | none =>
            rw [hd2] at e2
            subst e2
            walk_at "asgE"
            exact ⟨_, rfl, x1.trans x2, _, rfl⟩
          | some w =>
            have hw2 := dg_r2 hd2
            rw [hd2] at e2
            subst e2
            walk_at "asg"
            have X2 := x1.trans x2
            have hn2 := Ext.get X2 hn
            clear x1 x2 c1 c2 hn1
            walk_at "aug"
            walk_at "asg"
            by_cases h6 : (l.length : Int) > p + 1 + 2
            · simp only [if_pos h6]
              walk_at "ite"
              · intro _
                by_cases h7 : ((sl l (p + 1 + 2) (p + 1 + 2 + 1) == [45]) != b) = true
                · rw [if_pos h7]
                  walk_at "ite"
                  · intro _
                    walk_at "raiseV"
                    exact ⟨_, rfl, X2, _, rfl⟩
                  · intro ht; rw [h7] at ht; cases ht
                rw [if_neg h7]
                walk_at "ite"
                · intro ht; exact absurd ht h7
                intro _
                walk_at "aug"
                have hp3 : (0 : Int) ≤ p + 1 + 2 + (if b = true then 1 else 0) := by cases b <;> simp <;> omega
                generalize (p + 1 + 2 + if b = true then 1 else 0 : Int) = p3 at *
                obtain ⟨r3, st3, c3, x3, e3⟩ := digits_ (q := q) ok z (p := p3) (k := 1) hn2 hl hz (by omega) (by decide) (by decide)
                cases hd3 : dg l p3 1 with
                | none =>
                  rw [hd3] at e3
                  subst e3
                  walk_at "asgE"
                  exact ⟨_, rfl, X2.trans x3, _, rfl⟩
                | some d =>
                  have hw3 := dg_r1 hd3
                  rw [hd3] at e3
                  subst e3
                  walk_at "asg"
                  have X3 := X2.trans x3
                  have hn3 := Ext.get X3 hn
                  walk_at "aug"
                  simp only []
                  obtain ⟨r4, st4, c4, x4, e4⟩ := weekdate_ (q := q) ok z (y := y) (w := w) (d := d) hn3 (by omega) (by omega)
                  cases hwd : weekdate y w d with
                  | error e =>
                    rw [hwd] at e4
                    obtain rfl : _ = _ := e4
                    walk_at "asgE"
                    exact ⟨_, rfl, X3.trans x4, _, rfl⟩
                  | ok N =>
                    rw [hwd] at e4
                    obtain ⟨kb, rfl, hkb, hN1, hN2⟩ := e4
                    walk_at "asg"
                    walk_at "asg"
                    walk_at "ret"
                    exact ⟨_, rfl, (X3.trans x4).trans (Ext.add.trans Ext.add), _, _, rfl, get_last, Ext.get Ext.add get_last, (X3.trans x4).len⟩
              · intro ht; simp at ht; omega
            · simp only [if_neg h6]
              walk_at "ite"
              · intro ht; simp at ht; omega
              · intro _
                obtain ⟨r4, st4, c4, x4, e4⟩ := weekdate_ (q := q) ok z (y := y) (w := w) (d := 1) hn2 (by omega) (by omega)
                cases hwd : weekdate y w 1 with
                | error e =>
                  rw [hwd] at e4
                  obtain rfl : _ = _ := e4
                  walk_at "asgE"
                  exact ⟨_, rfl, X2.trans x4, _, rfl⟩
                | ok N =>
                  rw [hwd] at e4
                  obtain ⟨kb, rfl, hkb, hN1, hN2⟩ := e4
                  walk_at "asg"
                  walk_at "asg"
                  walk_at "ret"
                  exact ⟨_, rfl, (X2.trans x4).trans (Ext.add.trans Ext.add), _, _, rfl, get_last, Ext.get Ext.add get_last, (X2.trans x4).len⟩
        · intro hw
          rw [if_neg (by rw [hw]; exact fun e => nomatch e)]
          unfold uncD
          by_cases h6 : (l.length : Int) - p < 3
          · rw [dg_short (by omega) (by omega) (by omega)]
            walk_at "ite"
            · intro _
              walk_at "raiseV"
              exact ⟨_, rfl, x1, _, rfl⟩
            · intro ht; simp at ht; omega
          walk_at "ite"
          · intro ht; simp at ht; omega
          intro _
          obtain ⟨r2, st2, c2, x2, e2⟩ := digits_ (q := q) ok z (p := p) (k := 3) hn1 hl hz (by omega) (by decide) (by decide)
          cases hd2 : dg l p 3 with
          | none =>
            rw [hd2] at e2
            subst e2
            walk_at "asgE"
            exact ⟨_, rfl, x1.trans x2, _, rfl⟩
          | some o =>
            have ho := dg_r3 hd2
            rw [hd2] at e2
            subst e2
            walk_at "asg"
            have X2 := x1.trans x2
            clear x1 x2 c1 c2 hn1
            walk_at "aug"
            dsimp only
            have hlp := isleap_ (q := q) ok z y st2
            have hif : ∀ b : Bool, (if b = true then 1 else 0 : Int) = bi b := fun b => rfl
            by_cases h7 : o < 1 ∨ o > 365 + bi (leap y)
            · rw [if_pos h7]
              walk_at "ite"
              · intro _
                with_reducible apply XP.exc
                · intro fr F'
                  (with_reducible apply Ex1.raiseA ‹Wd.Ok _› ‹Sh _ _ _› F.excCall_ValueError F.excRaise_ValueError)
                  · walk_at "in"
                  · with_reducible apply EvL.cons
                    · with_reducible apply Ev.bin
                      · walk_at "ev"
                      · with_reducible apply Ev.pct [.lit (tx " "), .d, .lit (tx " for year "), .d]
                        · walk_at "ev"
                        · walk_at "ev"
                        · walk_at "get"
                        · rfl
                        · rfl
                        · exact ⟨by omega, by omega, trivial⟩
                        · have a1 : (dz false none o).length ≤ 9 := by
                            obtain ⟨a, rfl⟩ := Int.eq_ofNat_of_zero_le ho.1
                            exact dz_len (by decide) (by omega)
                          have a2 : (dz false none y).length ≤ 9 := by
                            obtain ⟨a, rfl⟩ := Int.eq_ofNat_of_zero_le hy.1
                            exact dz_len (by decide) (by omega)
                          simp only [fmt, List.length_append, List.length_nil]
                          have e1 : (tx " ").length = 1 := rfl
                          have e2 : (tx " for year ").length = 10 := rfl
                          omega
                      · refine Bin2.cat ?_
                        have a1 : (dz false none o).length ≤ 9 := by
                          obtain ⟨a, rfl⟩ := Int.eq_ofNat_of_zero_le ho.1
                          exact dz_len (by decide) (by omega)
                        have a2 : (dz false none y).length ≤ 9 := by
                          obtain ⟨a, rfl⟩ := Int.eq_ofNat_of_zero_le hy.1
                          exact dz_len (by decide) (by omega)
                        show (tx "Invalid ordinal day").toArray.size + (fmt _ _).toArray.size ≤ 2 ^ 24
                        simp only [fmt, List.size_toArray, List.length_append, List.length_nil]
                        have e1 : (tx " ").length = 1 := rfl
                        have e2 : (tx " for year ").length = 10 := rfl
                        have e3 : (tx "Invalid ordinal day").length = 19 := rfl
                        omega
                    · walk_at "evl"
                    · rfl
                  · exact Nat.le_of_ble_eq_true rfl
                  · rfl
                exact ⟨_, rfl, X2.trans Ext.add, _, rfl⟩
              · intro ht
                rw [hif] at ht
                simp at ht
                omega
            rw [if_neg h7]
            walk_at "ite"
            · intro ht
              rw [hif] at ht
              simp at ht
              omega
            intro _
            obtain ⟨r3, st3, c3, x3, e3⟩ := dateMake (q := q) ok z (y := y) (mo := 1) (d := 1) (st := st2)
            by_cases h8 : 1 ≤ y ∧ y ≤ 9999
            · rw [if_neg (by simpa using h8)]
              rw [if_pos ((jan1_ok y).mpr h8)] at e3
              obtain ⟨rfl, rfl⟩ := e3
              have htd := tdDays (q := q) ok z (d := o - 1) (st := st2 ++ [dO y 1 1]) (by omega)
              have g1 : (st2 ++ [dO y 1 1] ++ [td (o - 1) 0 0])[st2.length]? = some (dO y 1 1) := Ext.get Ext.add get_last
              have g2 : (st2 ++ [dO y 1 1] ++ [td (o - 1) 0 0])[(st2 ++ [dO y 1 1]).length]? = some (td (o - 1) 0 0) := get_last
              have ha := dateAdd (q := q) ok z g1 g2
              have hr := doy_range h8.1 h8.2 (by omega) (show o ≤ 365 + bi (leap y) by omega)
              rw [if_pos hr, if_pos hr] at ha
              with_reducible apply XP.step
              · intro fr F'
                (with_reducible apply Ex1.asgA ‹Sh _ _ _›)
                · refine Ev.binO ok (C := 276) (D := 124) (f := 266) (b := true) (n := st2.length) (k := (st2 ++ [dO y 1 1]).length) (by walk_at "ev") (by walk_at "ev") binAdd g1 g2 (CallT.of ha (Fx.fit.id F'.fit (Nat.le_of_ble_eq_true rfl))) (fun v e => by cases e; exact ⟨_, rfl⟩)
                · walk_at "up"
                · rfl
              generalize before y 1 + 1 + (o - 1) = N at *
              walk_at "asg"
              walk_at "ret"
              exact ⟨_, rfl, X2.trans (Ext.add.trans (Ext.add.trans (Ext.add.trans (Ext.add.trans Ext.add)))), _, _, rfl, get_last, Ext.get Ext.add get_last, Nat.le_trans X2.len (Ext.add.trans (Ext.add.trans Ext.add)).len⟩
            · rw [if_pos h8]
              rw [if_neg (fun h => h8 ((jan1_ok y).mp h))] at e3
              subst e3
              with_reducible apply XP.exc
              · intro fr F'
                (with_reducible apply Ex1.asgEA)
                · with_reducible apply Ev.binopE1
                  walk_at "ev"
                · rfl
              exact ⟨_, rfl, X2.trans x3, _, rfl⟩
end
section
set_option Elab.async false
set_option maxRecDepth 100000
set_option maxHeartbeats 4000000
set_option simprocs false
set_option linter.unusedVariables false
open PySem PySem.Spec PySem.Calls PyProof.Rows PySem.W
variable {q : Pk}
theorem isodate_ (ok : (C1 q).Ok) {n : Nat} {sep : V} {l : TX} {st : Sto} (hn : st[n]? = some (rd sep)) (hl : Asc l) (hz : l.length ≤ 1000) :
    ∃ r st', Calls (C1 q) true 10 (.glob (.ref 583)) [.obj n, .bytes (by8 l)] [] st r st' ∧ (Ext st st' ∧ DayOr st st' r (isodate l)) := by
  refine Calls.defX (c := C1 q) (f := 583) (binds := [.obj n, .bytes (by8 l)]) 2 ["self", "dt_str"] [("ValueError", .type "ValueError")] true 9 [.obj n, .bytes (by8 l)] ok rfl rfl rfl rfl ?_ rfl (by decide) rfl ?_
  · walk_at "hb2"
  · obtain ⟨r1, st1, c1, x1, e1⟩ := common_ (q := q) ok true hn hl hz
    unfold isodate
    cases hc : common l with
    | some x =>
      rw [hc] at e1
      obtain ⟨t, k, rfl, h1, h2, h3⟩ := e1
      apply XP.stop (f := .ret (.obj t)) (m₁ := [.obj n, .bytes (by8 l)]) (st₁ := st1)
      · intro fr F'
        refine Ex1.tryOk (Ex.stop (fun e => nomatch e) (.ret ?_))
        walk_at "ev"
      · exact fun e => nomatch e
      · exact ⟨_, rfl, x1, _, _, rfl, h1, h2, h3⟩
    | none =>
      rw [hc] at e1
      subst e1
      obtain ⟨r2, st2, c2, x2, e2⟩ := uncommon_ (q := q) ok false (Ext.get x1 hn) hl hz
      have hn1 := Ext.get x1 hn
      have X2 := x1.trans x2
      dsimp only
      cases hu : uncommon l with
      | error er =>
        rw [hu] at e2
        obtain ⟨k, rfl⟩ := e2
        apply XP.exc (C := ⟨er, k⟩) (m₁ := [.obj n, .bytes (by8 l)]) (st₁ := st2)
        · intro fr F'
          refine Ex1.tryType (st₁ := st1) (m₁ := [.obj n, .bytes (by8 l)]) (F'.head rfl) (b := true) (X := ⟨"ValueError", true⟩) (T := "ValueError") (fun _ => rfl) catch_ValueError sub_VV (Ex.stopE (.retE ?_)) (fun e => ?_) fun e => ?_
          · walk_at "ev"
          · have F'' := F'.handling (e := e) (b := true) rfl
            walk_at "ev"
          · have F'' := F'.handling (e := e) (b := true) rfl
            refine Ex.stopE (.retE ?_)
            walk_at "ev"
        · exact ⟨_, rfl, X2, _, rfl⟩
      | ok x =>
        rw [hu] at e2
        obtain ⟨t, k, rfl, h1, h2, h3⟩ := e2
        apply XP.stop (f := .ret (.obj t)) (m₁ := [.obj n, .bytes (by8 l)]) (st₁ := st2)
        · intro fr F'
          refine Ex1.tryType (st₁ := st1) (m₁ := [.obj n, .bytes (by8 l)]) (F'.head rfl) (b := true) (X := ⟨"ValueError", true⟩) (T := "ValueError") (fun _ => rfl) catch_ValueError sub_VV (Ex.stopE (.retE ?_)) (fun e => ?_) fun e => ?_
          · walk_at "ev"
          · have F'' := F'.handling (e := e) (b := true) rfl
            walk_at "ev"
          · have F'' := F'.handling (e := e) (b := true) rfl
            refine Ex.stop (fun e => nomatch e) (.ret ?_)
            walk_at "ev"
        · exact fun e => nomatch e
        · exact ⟨_, rfl, X2, _, _, rfl, h1, h2, Nat.le_trans x1.len h3⟩
end
section
set_option Elab.async false
set_option maxRecDepth 100000
set_option maxHeartbeats 4000000
set_option simprocs false
set_option linter.unusedVariables false
open PySem PySem.Spec PySem.Calls PyProof.Rows PySem.W
variable {q : Pk}
theorem fraction_ (ok : (C1 q).Ok) (z : Bool) {l : TX} {st : Sto} (hl : Asc l) (hz : l.length ≤ 1000) :
    Calls (C1 q) z 1 (.glob (.ref 525)) [.bytes (by8 l)] [] st (.ok (.bytes (by8 (frac l)))) (st ++ [.tuple [.bytes (by8 [46]), .bytes (by8 [44])]]) := Calls.of <| by
  refine Calls.defX (c := C1 q) (f := 525) (binds := [.bytes (by8 l)]) 1 ["s", "n"] [] z 0 [.bytes (by8 l), .undef] ok rfl rfl rfl rfl ?_ rfl (by decide) rfl ?_
  · walk_at "hb1"
  · have hrl := run_le l
    walk_at "asg"
    with_reducible apply XP.step (m₁ := [.bytes (by8 l), .int (1 + (run l : Int))]) (st₁ := st)
    · intro fr F'
      refine Ex1.while_ (F'.head rfl) (Wl.count (f := fun i => [.bytes (by8 l), .int (1 + (i : Int))]) ?_ ?_ ?_)
      · intro i hi
        refine Bt.conv (b := (!(sl l (1 + (i : Int)) (1 + (i : Int) + 1)).isEmpty && (sl l (1 + (i : Int)) (1 + (i : Int) + 1)).all isDig)) (by walk_at "bt") ?_
        rw [run_test l i (by omega)]
        exact decide_eq_true hi
      · intro i hi
        refine Ex.cons ?_ Ex.nil
        refine Ex1.augA (v := .int (1 + (i : Int) + 1)) F' (by walk_at "lk") rfl (by walk_at "ev") (by walk_at "aug2") ?_
        rw [show (1 + (i : Int) + 1) = 1 + ((i + 1 : Nat) : Int) by omega]
        walk_at "up"
      · refine Bt.conv (b := (!(sl l (1 + (run l : Int)) (1 + (run l : Int) + 1)).isEmpty && (sl l (1 + (run l : Int)) (1 + (run l : Int) + 1)).all isDig)) (by walk_at "bt") ?_
        rw [run_test l (run l) (Nat.le_refl _)]
        exact decide_eq_false (Nat.lt_irrefl _)
    · apply XP.ret (v := .bytes (by8 (frac l))) (st₁ := st ++ [.tuple [.bytes (by8 [46]), .bytes (by8 [44])]])
      · intro fr F'
        have hd : (([.bytes (by8 [46]), .bytes (by8 [44])] : List V).any fun v => v.eqv (.bytes (by8 (sl l 0 1)))) = dotted l := by
          have a0 := sl_asc hl 0 1
          show ((by8 [46]).toList == (by8 (sl l 0 1)).toList || ((by8 [44]).toList == (by8 (sl l 0 1)).toList || false)) = dotted l
          rw [by8_eq (by walk_at "asc") a0, by8_eq (by walk_at "asc") a0, Bool.or_false]
          unfold dotted
          rw [Bool.beq_comm, Bool.beq_comm (a := [44])]
        refine Ev.ifexp (t := dotted l) (st₁ := st ++ [.tuple [.bytes (by8 [46]), .bytes (by8 [44])]]) (hd ▸ Bt.cmpA (by walk_at "ev") (by walk_at "ev") (Cmp2.inT get_last rfl) rfl) ?_ ?_
        · intro ht
          unfold frac
          rw [if_pos ht, ← frac_cut]
          walk_at "ev"
        · intro ht
          unfold frac
          rw [if_neg (by rw [ht]; exact fun e => nomatch e)]
          walk_at "ev"
      · exact ⟨_, rfl, rfl, rfl⟩
end
section
set_option Elab.async false
set_option maxRecDepth 100000
set_option maxHeartbeats 4000000
set_option simprocs false
set_option linter.unusedVariables false
open PySem PySem.Spec PySem.Calls PyProof.Rows PySem.W
variable {q : Pk}
theorem tzInit (ok : (C1 q).Ok) {n : Nat} {s : Int} {st : Sto} (hn : st[n]? = some (.inst 509 [])) (hs : -86400000 ≤ s ∧ s ≤ 86400000) :
    ∃ r st', Calls (C1 q) true 3 (.glob (.ref 457)) [.obj n, .none, .int s] [] st r st' ∧ (r = .ok .none ∧ ∃ st1 k, Ext (st.set n (.inst 509 [("_name", .none)])) st1 ∧ st1[k]? = some (td (s / 86400) (s % 86400) 0) ∧ st.length ≤ k ∧ st' = st1.set n (.inst 509 [("_name", .none), ("_offset", .obj k)])) := by
  refine Calls.defX (c := C1 q) (f := 457) (binds := [.obj n, .none, .int s]) 3 ["self", "name", "offset"] [("TypeError", .type "TypeError"), ("AttributeError", .type "AttributeError"), ("timedelta", .ref 124)] true 2 [.obj n, .none, .int s] ok rfl rfl rfl rfl ?_ rfl (by decide) rfl ?_
  · walk_at "hb3"
  · walk_at "set"
    have e1 : ∀ (l : List (Str × V)), List.nil ++ l = l := fun l => rfl
    simp only [e1]
    have hl : (st.set n (.inst 509 [("_name", .none)])).length = st.length := List.length_set
    have hn1 : (st.set n (.inst 509 [("_name", .none)]))[n]? = some (.inst 509 [("_name", .none)]) := get_set hn
    generalize hS : st.set n (.inst 509 [("_name", .none)]) = S at *
    with_reducible apply XP.step (m₁ := [.obj n, .none, .int s]) (st₁ := S ++ [.tuple [.glob (.type "TypeError"), .glob (.type "AttributeError")]])
    · intro fr F'
      refine Ex1.tryTup (st₁ := S) (m₁ := [.obj n, .none, .int s]) (X := ⟨"AttributeError", false⟩) (T1 := "TypeError") (T2 := "AttributeError") (n := S.length) (F'.head rfl) (b := false) (fun e => nomatch e) catch_TypeError catch_AttributeError sub_AT sub_AA rfl (Ex.stopE (Ex1.asgEA (Ev.noTs (F'.fit.z rfl) (by walk_at "ev") ⟨_, rfl⟩) rfl)) (fun e => ?_) get_last fun e => Ex.cons Ex1.pass Ex.nil
      have F'' := F'.fri.handling (e := e) (b := false)
      refine Ev.tuple (.cons (Ev.glF ok F'' (by walk_at "in")) (.cons (Ev.glF ok F'' (by walk_at "in")) .nil)) (Nat.le_of_ble_eq_true rfl)
    have htd := tdSec (q := q) ok true (s := s) (st := S ++ [.tuple [.glob (.type "TypeError"), .glob (.type "AttributeError")]]) hs
    have hn2 : (S ++ [.tuple [.glob (.type "TypeError"), .glob (.type "AttributeError")]] ++ [td (s / 86400) (s % 86400) 0])[n]? = some (.inst 509 [("_name", .none)]) := Ext.get Ext.add (Ext.get Ext.add hn1)
    walk_at "set"
    with_reducible apply XP.nil
    exact ⟨_, rfl, rfl, _, _, Ext.add.trans Ext.add, get_last, by rw [← hl]; simp, rfl⟩
end
section
set_option Elab.async false
set_option maxRecDepth 100000
set_option maxHeartbeats 4000000
set_option simprocs false
set_option linter.unusedVariables false
open PySem PySem.Spec PySem.Calls PyProof.Rows PySem.W
variable {q : Pk}
def TzAt (st : Sto) : V → TZ → Prop
  | .none, .no => True
  | .obj n, .utc => st[n]? = some (.inst 441 [])
  | .obj n, .off s => ∃ k, st[n]? = some (.inst 509 [("_name", .none), ("_offset", .obj k)]) ∧ st[k]? = some (td (s / 86400) (s % 86400) 0)
  | _, _ => False
theorem TzAt.ext {st st' : Sto} (x : Ext st st') : ∀ {v : V} {t : TZ}, TzAt st v t → TzAt st' v t
  | .none, .no, h => h
  | .obj _, .utc, h => x.get h
  | .obj _, .off _, ⟨k, h1, h2⟩ => ⟨k, x.get h1, x.get h2⟩
theorem utcMake (ok : (C1 q).Ok) (z : Bool) {k : Nat} {st : Sto} : Calls (C1 q) z k (.glob (.ref 441)) [] [] st (.ok (.obj st.length)) (st ++ [.inst 441 []]) := .make0 ok rfl rfl
theorem offMake (ok : (C1 q).Ok) {s : Int} {st : Sto} (hs : -86400000 ≤ s ∧ s ≤ 86400000) : ∃ st', Calls (C1 q) true 4 (.glob (.ref 509)) [.none, .int s] [] st (.ok (.obj st.length)) st' ∧ Ext st st' ∧ TzAt st' (.obj st.length) (.off s) := by
  obtain ⟨r, st', hc, rfl, st1, k, x, h1, h2, rfl⟩ := tzInit (q := q) ok (n := st.length) (s := s) (st := st ++ [.inst 509 []]) get_last hs
  have hx : Ext st st1 := Ext.trans (Ext.set Ext.add (Nat.le_refl _) _) x
  have hk : st.length ≠ k := by simp at h2; omega
  have hg := x.get (get_set (o' := .inst 509 [("_name", .none)]) (get_last (st := st) (o := .inst 509 [])))
  exact ⟨_, Calls.makeA ok rfl rfl rfl hc, hx.set (Nat.le_refl _) _, k, get_set hg, get_set_ne h1 hk⟩
theorem utcOff (ok : (C1 q).Ok) (z : Bool) {n : Nat} {v : V} {st : Sto} (hn : st[n]? = some (.inst 441 [])) : Calls (C1 q) z 3 (.glob (.ref 396)) [.obj n, v] [] st (.ok (.obj st.length)) (st ++ [td 0 0 0]) := Calls.of <| by
  refine Calls.defX (c := C1 q) (f := 396) (binds := [.obj n, v]) 2 ["self", "dt"] [("timedelta", .ref 124)] z 2 [.obj n, v] ok rfl rfl rfl rfl ?_ rfl (by decide) rfl ?_
  · walk_at "hb2"
  · have h0 := tdDay (q := q) ok z (d := 0) (st := st) (by decide)
    walk_at "ret"
    exact ⟨_, rfl, rfl, rfl⟩
theorem offOff (ok : (C1 q).Ok) (z : Bool) {n k : Nat} {v : V} {st : Sto} (hn : st[n]? = some (.inst 509 [("_name", .none), ("_offset", .obj k)])) : Calls (C1 q) z 1 (.glob (.ref 464)) [.obj n, v] [] st (.ok (.obj k)) st := Calls.of <| by
  refine Calls.defX (c := C1 q) (f := 464) (binds := [.obj n, v]) 2 ["self", "dt"] [] z 0 [.obj n, v] ok rfl rfl rfl rfl ?_ rfl (by decide) rfl ?_
  · walk_at "hb2"
  · walk_at "ret"
    exact ⟨_, rfl, rfl, rfl⟩
end
section
set_option Elab.async false
set_option maxRecDepth 100000
set_option maxHeartbeats 4000000
set_option simprocs false
set_option linter.unusedVariables false
open PySem PySem.Spec PySem.Calls PyProof.Rows PySem.W
variable {q : Pk}
def TzOr (st' : Sto) (r : Out V) : Option TZ → Prop
  | none => r = .exc ⟨"ValueError", true⟩
  | some t => ∃ v, r = .ok v ∧ TzAt st' v t
theorem tzstr_ (ok : (C1 q).Ok) {n : Nat} {sep : V} {l : TX} {st : Sto} {args : List V} {kw : List (Str × V)} (hn : st[n]? = some (rd sep)) (hl : Asc l) (hz : l.length ≤ 1000)
    (hbind : ∀ (sh : Shared) (ρ : Rho) (xs ks : List Value), (C1 q).K.In sh.heap → RepL ρ xs args → RepL ρ ks (kw.map (·.2)) → ∀ fd, (∃ oc od osl, (C1 q).K.lookup 619 = some ⟨oc, od, .func fd, osl⟩) → ∃ ys, BindsTo sh fd ⟨xs, (kw.map (·.1)).zip ks⟩ ((["self", "tzstr", "zero_as_utc"] : List Str).zip ys) ∧ RepL ρ ys [.obj n, .bytes (by8 l), .bool true]) :
    ∃ r st', Calls (C1 q) true 5 (.glob (.ref 619)) args kw st r st' ∧ (Ext st st' ∧ TzOr st' r (parseTz l)) := by
  refine Calls.defX (c := C1 q) (f := 619) (binds := [.obj n, .bytes (by8 l), .bool true]) 3 ["self", "tzstr", "zero_as_utc", "mult", "hours", "minutes", "pos"] [("len", .builtin "len"), ("ValueError", .type "ValueError"), ("tzutc", .ref 441), ("tzoffset", .ref 509)] true 4 [.obj n, .bytes (by8 l), .bool true, .undef, .undef, .undef, .undef] ok rfl rfl rfl rfl ?_ rfl (by decide) rfl ?_
  · intro sh ρ xs ks X rx rk
    exact hbind sh ρ xs ks X rx rk _ ⟨_, _, _, rfl⟩
  · unfold parseTz
    by_cases h1 : (l == [90] || l == [122]) = true
    · rw [if_pos h1]
      walk_at "ite"
      · intro _
        have hu := utcMake (q := q) ok true (k := 1) (st := st)
        walk_at "ret"
        exact ⟨_, rfl, Ext.add, _, rfl, get_last⟩
      · intro e; rw [h1] at e; cases e
    rw [if_neg h1]
    walk_at "ite"
    · intro e; exact absurd e h1
    intro _
    with_reducible apply XP.ite
    · intro fr F'
      refine Bt.notInSet (a := (l.length : Int)) ok F' rfl ?_
      walk_at "ev"
    all_goals (try simp only [List.cons_append, List.nil_append])
    · intro ht
      have h2 : ¬ ((l.length : Int) = 3 ∨ (l.length : Int) = 5 ∨ (l.length : Int) = 6) := by simp at ht; omega
      rw [if_pos h2]
      walk_at "raiseV"
      exact ⟨_, rfl, Ext.refl, rfl⟩
    intro ht
    have h2 : (l.length : Int) = 3 ∨ (l.length : Int) = 5 ∨ (l.length : Int) = 6 := by simp at ht; omega
    rw [if_neg (fun e => e h2)]
    have hmc : ∀ m, tzMul l = some m → (m = -1 ∨ m = 1) := by
      intro m
      unfold tzMul
      split
      · intro e; cases e; exact .inl rfl
      · split
        · intro e; cases e; exact .inr rfl
        · intro e; cases e
    cases hm : tzMul l with
    | none =>
      have hb : (sl l 0 1 == [45]) = false ∧ (sl l 0 1 == [43]) = false := by
        unfold tzMul at hm
        split at hm
        · cases hm
        · rename_i h
          split at hm
          · cases hm
          · rename_i h'
            exact ⟨by simpa using h, by simpa using h'⟩
      walk_at "ite"
      · intro e; rw [hb.1] at e; cases e
      intro _
      walk_at "ite"
      · intro e; rw [hb.2] at e; cases e
      intro _
      walk_at "raiseV"
      exact ⟨_, rfl, Ext.refl, rfl⟩
    | some mult =>
      have hmul := hmc mult hm
      have hm64 : Builtin.Int.intBits mult ≤ 64 := by rcases hmul with rfl | rfl <;> decide
      with_reducible apply XP.step (m₁ := [.obj n, .bytes (by8 l), .bool true, .int mult, .undef, .undef, .undef]) (st₁ := st)
      · intro fr F'
        unfold tzMul at hm
        cases hb1 : (sl l 0 1 == [45]) with
        | true =>
          rw [hb1] at hm
          cases hm
          refine Ex1.ite (t := true) (st₁ := st) (hb1 ▸ by walk_at "bt") (fun _ => Ex.cons (Ex1.asgA F' (by walk_at "ev") (by walk_at "up") rfl) Ex.nil) (fun e => nomatch e)
        | false =>
          rw [hb1] at hm
          cases hb2 : (sl l 0 1 == [43]) with
          | true =>
            rw [hb2] at hm
            cases hm
            refine Ex1.ite (t := false) (st₁ := st) (hb1 ▸ by walk_at "bt") (fun e => nomatch e) fun _ => Ex.cons (Ex1.ite (t := true) (st₁ := st) (hb2 ▸ by walk_at "bt") (fun _ => Ex.cons (Ex1.asgA F' (by walk_at "ev") (by walk_at "up") rfl) Ex.nil) (fun e => nomatch e)) Ex.nil
          | false =>
            rw [hb2] at hm
            cases hm
      obtain ⟨r2, st2, c2, x2, e2⟩ := digits_ (q := q) ok true (p := 1) (k := 2) hn hl hz (by decide) (by decide) (by decide)
      dsimp only
      cases hd2 : dg l 1 2 with
      | none =>
        rw [hd2] at e2
        subst e2
        walk_at "asgE"
        exact ⟨_, rfl, x2, rfl⟩
      | some h =>
        have hw2 := dg_r2 hd2
        rw [hd2] at e2
        subst e2
        walk_at "asg"
        have hn2 := Ext.get x2 hn
        dsimp only
        unfold tzMin
        by_cases h3 : (l.length : Int) = 3
        · rw [if_pos h3]
          obtain ⟨mi, hmi⟩ : ∃ mi : Int, mi = 0 := ⟨_, rfl⟩
          walk_at "ite"
          · intro _
            rw [show tzEnd mult h 0 = tzEnd mult h mi by rw [hmi]]
            with_reducible apply XP.step (m₁ := [.obj n, .bytes (by8 l), .bool true, .int mult, .int h, .int mi, .undef]) (st₁ := st2)
            · intro fr F'
              refine Ex1.asgA (v := .int mi) F' ?_ (by walk_at "up") rfl
              rw [hmi]
              walk_at "ev"
            walk_at "ite"
            · intro ht
              have ht' : (h == 0 && mi == 0) = true := by simpa using ht
              have hr : tzEnd mult h mi = some .utc := by unfold tzEnd; rw [if_pos ht']
              rw [hr]
              have hu := utcMake (q := q) ok true (k := 1) (st := st2)
              walk_at "ret"
              exact ⟨_, rfl, x2.trans Ext.add, _, rfl, get_last⟩
            intro ht
            have ht' : ¬ (h == 0 && mi == 0) = true := by intro e; rw [show (true && (h == 0 && mi == 0)) = (h == 0 && mi == 0) from rfl] at ht; rw [e] at ht; cases ht
            by_cases hm : mi > 59
            · have hr : tzEnd mult h mi = none := by unfold tzEnd; rw [if_neg ht', if_pos hm]
              rw [hr]
              walk_at "ite"
              · intro _
                walk_at "raiseV"
                exact ⟨_, rfl, x2, rfl⟩
              · intro e; simp at e; omega
            walk_at "ite"
            · intro e; simp at e; omega
            intro _
            by_cases hh : h > 23
            · have hr : tzEnd mult h mi = none := by unfold tzEnd; rw [if_neg ht', if_neg hm, if_pos hh]
              rw [hr]
              walk_at "ite"
              · intro _
                walk_at "raiseV"
                exact ⟨_, rfl, x2, rfl⟩
              · intro e; simp at e; omega
            have hr : tzEnd mult h mi = some (.off (mult * (h * 60 + mi) * 60)) := by unfold tzEnd; rw [if_neg ht', if_neg hm, if_neg hh]
            rw [hr]
            walk_at "ite"
            · intro e; simp at e; omega
            intro _
            obtain ⟨st9, c9, x9, t9⟩ := offMake (q := q) ok (s := mult * (h * 60 + mi) * 60) (st := st2) (by rcases hmul with rfl | rfl <;> omega)
            walk_at "ret"
            exact ⟨_, rfl, x2.trans x9, _, rfl, t9⟩
          · intro e; simp at e; omega
        · rw [if_neg h3]
          walk_at "ite"
          · intro e; simp at e; omega
          intro _
          have hp34 : tzPos l = 3 ∨ tzPos l = 4 := by unfold tzPos; split <;> simp
          with_reducible apply XP.step (m₁ := [.obj n, .bytes (by8 l), .bool true, .int mult, .int h, .undef, .int (tzPos l)]) (st₁ := st2)
          · intro fr F'
            refine Ex1.asgA (v := .int (tzPos l)) F' ?_ (by walk_at "up") rfl
            · unfold tzPos
              cases hb : (sl l 3 4 == [58])
              · refine Ev.ifexp (t := false) (st₁ := st2) (hb ▸ by walk_at "bt") (fun e => nomatch e) fun _ => ?_
                rw [if_neg Bool.false_ne_true]
                walk_at "ev"
              · refine Ev.ifexp (t := true) (st₁ := st2) (hb ▸ by walk_at "bt") (fun _ => ?_) fun e => nomatch e
                rw [if_pos rfl]
                walk_at "ev"
          generalize tzPos l = p at *
          by_cases h5 : (l.length : Int) ≠ p + 2
          · rw [if_pos h5]
            walk_at "ite"
            · intro _
              walk_at "raiseV"
              exact ⟨_, rfl, x2, rfl⟩
            · intro e; simp at e; omega
          rw [if_neg h5]
          walk_at "ite"
          · intro e; simp at e; omega
          intro _
          obtain ⟨r3, st3, c3, x3, e3⟩ := digits_ (q := q) ok true (p := p) (k := 2) hn2 hl hz (by omega) (by decide) (by decide)
          cases hd3 : dg l p 2 with
          | none =>
            rw [hd3] at e3
            subst e3
            walk_at "asgE"
            exact ⟨_, rfl, x2.trans x3, rfl⟩
          | some mi =>
            have hw3 := dg_r2 hd3
            rw [hd3] at e3
            subst e3
            walk_at "asg"
            have X3 := x2.trans x3
            dsimp only
            walk_at "ite"
            · intro ht
              have ht' : (h == 0 && mi == 0) = true := by simpa using ht
              have hr : tzEnd mult h mi = some .utc := by unfold tzEnd; rw [if_pos ht']
              rw [hr]
              have hu := utcMake (q := q) ok true (k := 1) (st := st3)
              walk_at "ret"
              exact ⟨_, rfl, X3.trans Ext.add, _, rfl, get_last⟩
            intro ht
            have ht' : ¬ (h == 0 && mi == 0) = true := by intro e; rw [show (true && (h == 0 && mi == 0)) = (h == 0 && mi == 0) from rfl] at ht; rw [e] at ht; cases ht
            by_cases hm : mi > 59
            · have hr : tzEnd mult h mi = none := by unfold tzEnd; rw [if_neg ht', if_pos hm]
              rw [hr]
              walk_at "ite"
              · intro _
                walk_at "raiseV"
                exact ⟨_, rfl, X3, rfl⟩
              · intro e; simp at e; omega
            walk_at "ite"
            · intro e; simp at e; omega
            intro _
            by_cases hh : h > 23
            · have hr : tzEnd mult h mi = none := by unfold tzEnd; rw [if_neg ht', if_neg hm, if_pos hh]
              rw [hr]
              walk_at "ite"
              · intro _
                walk_at "raiseV"
                exact ⟨_, rfl, X3, rfl⟩
              · intro e; simp at e; omega
            have hr : tzEnd mult h mi = some (.off (mult * (h * 60 + mi) * 60)) := by unfold tzEnd; rw [if_neg ht', if_neg hm, if_neg hh]
            rw [hr]
            walk_at "ite"
            · intro e; simp at e; omega
            intro _
            obtain ⟨st9, c9, x9, t9⟩ := offMake (q := q) ok (s := mult * (h * 60 + mi) * 60) (st := st3) (by rcases hmul with rfl | rfl <;> omega)
            walk_at "ret"
            exact ⟨_, rfl, X3.trans x9, _, rfl, t9⟩
end
section
set_option Elab.async false
set_option maxRecDepth 100000
set_option maxHeartbeats 4000000
set_option simprocs false
set_option linter.unusedVariables false
open PySem PySem.Spec PySem.Calls PyProof.Rows PySem.W
variable {q : Pk}
theorem WP.mono {c : Wd} {G : Shp} {test : Expr} {body : List Stmt} {m : Loc} {st : Sto} {P P' : Out FV → Loc → Sto → Prop} (h : WP c G test body m st P) (k : ∀ o m st, P o m st → P' o m st) : WP c G test body m st P' := by
  obtain ⟨j, o, m', st', h1, h2⟩ := h
  exact ⟨j, o, m', st', h1, k _ _ _ h2⟩
abbrev isoM (n k : Nat) (l : TX) (c pos : Int) (sep : Bool) (vf vu : V) : Loc := [.obj n, .bytes (by8 l), .int l.length, .obj k, .int pos, .int c, .bool sep, vf, vu]
def ListAt (st : Sto) (k : Nat) (h mi s us : Int) (v : V) : Prop := st[k]? = some (.list [.int h, .int mi, .int s, .int us, v])
def TurnPost (n k : Nat) (l : TX) (c : Int) (sep : Bool) (h mi s us : Int) (st0 : Sto) (o : Out FV) (m' : Loc) (st' : Sto) : Turn → Prop
  | .bad => o = .exc ⟨"ValueError", true⟩
  | .tz t => o = .ok .brk ∧ ∃ sep v vf vu, m' = isoM n k l c l.length sep vf vu ∧ ListAt st' k h mi s us v ∧ TzAt st' v t
  | .go pos' sep' h' mi' s' us' => (o = .ok .next ∨ o = .ok .cont) ∧ 0 ≤ pos' ∧ ∃ vf vu, m' = isoM n k l c pos' sep' vf vu ∧ ListAt st' k h' mi' s' us' .none
def LoopPost (n k : Nat) (l : TX) (o : Out FV) (m' : Loc) (st' : Sto) : Option (Int × Int × Int × Int × Int × TZ) → Prop
  | none => o = .exc ⟨"ValueError", true⟩
  | some (pos, h, mi, s, us, t) => o = .ok .next ∧ ∃ c sep v vf vu, m' = isoM n k l c pos sep vf vu ∧ ListAt st' k h mi s us v ∧ TzAt st' v t
theorem isoWalk {G : Shp} {T : Expr} {B : List Stmt} {n k : Nat} {l : TX} {st0 : Sto}
    (hT : ∀ c pos sep vf vu st fr, Sh (C1 q) G fr → Bt (C1 q) fr T (isoM n k l c pos sep vf vu) st (.ok (decide (pos < (l.length : Int)) && decide (c < 5))) st)
    (hB : ∀ (c pos : Int) (sep : Bool) (h mi s us : Int) (vf vu : V) (st : Sto), Ext st0 st → -1 ≤ c → c ≤ 4 → 0 ≤ pos → pos < (l.length : Int) → ListAt st k h mi s us .none →
      XP (C1 q) G B (isoM n k l c pos sep vf vu) st fun o m' st' => Ext st0 st' ∧ TurnPost n k l (c + 1) sep h mi s us st0 o m' st' (isoTurn l (c + 1) pos sep h mi s us)) :
    ∀ (N : Nat) (pos : Int) (sep : Bool) (h mi s us : Int) (vf vu : V) (st : Sto), N ≤ 6 → Ext st0 st → 0 ≤ pos → ListAt st k h mi s us .none →
      WP (C1 q) G T B (isoM n k l (5 - (N : Int)) pos sep vf vu) st fun o m' st' => Ext st0 st' ∧ LoopPost n k l o m' st' (isoLoop l N pos sep h mi s us)
  | 0, pos, sep, h, mi, s, us, vf, vu, st, _, hx, h0, hL => by
    refine WP.stop (st₁ := st) (fun fr F => Bt.conv (hT _ pos sep vf vu st fr F) ?_) ⟨hx, rfl, _, sep, .none, vf, vu, rfl, hL, trivial⟩
    rw [decide_eq_false (show ¬ (5 - ((0 : Nat) : Int) < 5) by omega), Bool.and_false]
  | N + 1, pos, sep, h, mi, s, us, vf, vu, st, hN, hx, h0, hL => by
    unfold isoLoop
    have ec : 5 - ((N + 1 : Nat) : Int) + 1 = 5 - (N : Int) := by omega
    by_cases hp : pos < (l.length : Int)
    · rw [if_pos hp]
      refine WP.turn (st₁ := st) (fun fr F => Bt.conv (hT _ pos sep vf vu st fr F) ?_) ((hB _ pos sep h mi s us vf vu st hx (by omega) (by omega) h0 hp hL).mono ?_)
      · rw [decide_eq_true hp, decide_eq_true (show 5 - ((N + 1 : Nat) : Int) < 5 by omega)]; rfl
      · rw [ec]
        intro o m' st' ⟨hx', ht⟩
        cases hh : isoTurn l (5 - (N : Int)) pos sep h mi s us with
        | bad =>
          rw [hh] at ht
          obtain rfl : o = _ := ht
          exact ⟨hx', rfl⟩
        | tz t =>
          rw [hh] at ht
          obtain ⟨rfl, sep', v, vf', vu', rfl, hL', hv⟩ := ht
          exact ⟨hx', rfl, _, _, v, _, _, rfl, hL', hv⟩
        | go pos' sep' h' mi' s' us' =>
          rw [hh] at ht
          obtain ⟨ho, h0', vf', vu', rfl, hL'⟩ := ht
          have ih := isoWalk hT hB N pos' sep' h' mi' s' us' vf' vu' st' (by omega) hx' h0' hL'
          rcases ho with rfl | rfl <;> exact ih
    · rw [if_neg hp]
      refine WP.stop (st₁ := st) (fun fr F => Bt.conv (hT _ pos sep vf vu st fr F) ?_) ⟨hx, rfl, _, sep, .none, vf, vu, rfl, hL, trivial⟩
      rw [decide_eq_false hp, Bool.false_and]
end
section
set_option Elab.async false
set_option maxRecDepth 100000
set_option maxHeartbeats 4000000
set_option simprocs false
set_option linter.unusedVariables false
open PySem PySem.Spec PySem.Calls PyProof.Rows PySem.W
variable {q : Pk}
def IsoOr (st st' : Sto) (r : Out V) : Option (Int × Int × Int × Int × TZ) → Prop
  | none => r = .exc ⟨"ValueError", true⟩
  | some (h, mi, s, us, t) => ∃ k v, r = .ok (.obj k) ∧ ListAt st' k h mi s us v ∧ TzAt st' v t ∧ st.length ≤ k
theorem TzAt.set {st : Sto} {k : Nat} {l : List V} {o : MObj} (hk : st[k]? = some (.list l)) : ∀ {v : V} {t : TZ}, TzAt st v t → TzAt (st.set k o) v t
  | .none, .no, h => h
  | .obj n, .utc, h => get_set_ne h (fun e => by subst e; rw [show st[k]? = _ from h] at hk; cases hk)
  | .obj n, .off s, ⟨j, h1, h2⟩ => ⟨j, get_set_ne h1 (fun e => by subst e; rw [h1] at hk; cases hk), get_set_ne h2 (fun e => by subst e; rw [h2] at hk; cases hk)⟩
theorem us6_range {f : TX} (hf : f.all isDig = true) : (num (f.take 6) : Int) < 1000000 := by
  have h1 : (f.take 6).all isDig = true := List.all_eq_true.mpr fun c hc => List.all_eq_true.mp hf c (List.mem_of_mem_take hc)
  have := num_lt h1
  have h2 : (f.take 6).length ≤ 6 := by simp; omega
  have h3 : 10 ^ (f.take 6).length ≤ 10 ^ 6 := Nat.pow_le_pow_right (by decide) h2
  omega
theorem frac_dig (l : TX) : (frac l).all isDig = true := by
  unfold frac
  split
  · exact List.all_takeWhile
  · rfl
theorem frac_len (l : TX) : (frac l).length ≤ l.length := by
  unfold frac
  split
  · have := (List.takeWhile_sublist (p := isDig) (l := l.drop 1)).length_le
    rw [List.length_drop] at this
    omega
  · simp
theorem isotime_ (ok : (C1 q).Ok) {n : Nat} {sep0 : V} {l : TX} {st0 : Sto} (hC : CodeHd (C1 q).base 610 (C1 q).out) (hn : st0[n]? = some (rd sep0)) (hl : Asc l) (hz : l.length ≤ 1000) :
    ∃ r st', Calls (C1 q) true 6 (.glob (.ref 611)) [.obj n, .bytes (by8 l)] [] st0 r st' ∧ (Ext st0 st' ∧ IsoOr st0 st' r (isotime l)) := by
  refine Calls.defXc (c := C1 q) (f := 611) (binds := [.obj n, .bytes (by8 l)]) 2 ["self", "timestr", "len_str", "components", "pos", "comp", "has_sep", "frac", "us_str"] [("len", .builtin "len"), ("ValueError", .type "ValueError"), ("_fraction", .ref 525), ("int", .type "int"), ("any", .builtin "any")] true 5 [.obj n, .bytes (by8 l), .undef, .undef, .undef, .undef, .undef, .undef, .undef] ok rfl rfl rfl rfl ?_ rfl (by decide) rfl ?_
  · walk_at "hb2"
  · refine XPc.split 8 ?_
    simp only [List.take_succ_cons, List.take_zero, List.drop_succ_cons, List.drop_zero]
    walk_at "asg"
    walk_at "asg"
    walk_at "asg"
    have hx0 : Ext st0 (st0 ++ [.list [.int 0, .int 0, .int 0, .int 0, .none]]) := Ext.add
    have hL0 : ListAt (st0 ++ [.list [.int 0, .int 0, .int 0, .int 0, .none]]) st0.length 0 0 0 0 .none := get_last
    generalize st0 ++ [.list [.int 0, .int 0, .int 0, .int 0, .none]] = st at *
    walk_at "asg"
    unfold isotime
    by_cases h2 : (l.length : Int) < 2
    · rw [if_pos h2]
      walk_at "ite"
      · intro _
        walk_at "raiseV"
        exact ⟨_, rfl, hx0, rfl⟩
      · intro e; simp at e; omega
    rw [if_neg h2]
    walk_at "ite"
    · intro e; simp at e; omega
    intro _
    walk_at "asg"
    refine XP.while_ rfl (WP.mono (isoWalk (n := n) (k := st0.length) (l := l) (st0 := st0) ?_ ?_ 6 0 false 0 0 0 0 .undef .undef st (by decide) hx0 (by decide) hL0) ?_)
    · intro c pos sep vf vu st fr F'
      walk_at "bt"
    · intro c pos sep h mi s us vf vu st hx h1 h3 h4 h5 hL
      walk_at "aug"
      have hn' := hx.get hn
      obtain ⟨x, ex, mx⟩ := sl_one h4 h5
      have hsx : signAt l pos = ([45, 43, 90, 122] : TX).contains x := by unfold signAt; rw [ex]; rfl
      unfold isoTurn
      refine XP.ite (t := signAt l pos) (st₁ := st) ?_ ?_ ?_
      · intro fr F'
        rw [hsx]
        refine Bt.cmpA (st₁ := st) (a := .bytes (by8 [x])) (b := .bytes (by8 [45, 43, 90, 122])) ?_ ?_ (Cmp2.in8 (hl x mx) (by walk_at "asc") (F'.fit.z rfl)) rfl
        · rw [← ex]
          walk_at "ev"
        · walk_at "ev"
      all_goals (try simp only [List.cons_append, List.nil_append])
      · intro hs
        rw [if_pos hs]
        obtain ⟨r1, st1, c1, x1, e1⟩ := tzstr_ (q := q) ok (n := n) (sep := sep0) (l := l.drop pos.toNat) (st := st) (args := [.obj n, .bytes (by8 (l.drop pos.toNat))]) (kw := []) hn' (hl.drop _) (by rw [List.length_drop]; omega) (by
          rintro s ρ xs ks X rx rk fd ⟨oc, od, osl, h⟩
          cases h
          (repeat (rcases rx with _ | ⟨r1, rx⟩)); (repeat (rcases rk with _ | ⟨k1, rk⟩))
          refine ⟨[_, _, _], kp_binds ‹Frag.In _ _› (fun S => rfl), ?_⟩
          walk_at "reps")
        cases ht : parseTz (l.drop pos.toNat) with
        | none =>
          rw [ht] at e1
          obtain rfl : r1 = _ := e1
          walk_at "setAtE"
          exact ⟨hx.trans x1, rfl⟩
        | some t =>
          rw [ht] at e1
          obtain ⟨v, rfl, hv⟩ := e1
          have hL1 := x1.get hL
          with_reducible apply XP.step (m₁ := isoM n st0.length l (c + 1) pos sep vf vu) (st₁ := st1.set st0.length (.list [.int h, .int mi, .int s, .int us, v]))
          · intro fr F'
            refine Ex1.setAtZ (l := [.int h, .int mi, .int s, .int us, .none]) (n := st0.length) ?_ ?_ ?_ hL1 (fun e => nomatch e) rfl rfl
            · walk_at "ev"
            · walk_at "ev"
            · walk_at "ev"
          walk_at "asg"
          refine XP.stop (f := .brk) (fun fr F' => Ex1.brk) (fun e => nomatch e) ⟨(hx.trans x1).set (Nat.le_refl _) _, rfl, sep, v, vf, vu, rfl, get_set hL1, ?_⟩
          exact hv.set hL1
      · intro hs
        rw [if_neg (by rw [hs]; exact Bool.false_ne_true)]
        generalize hb1 : (c + 1 == 1 && sl l pos (pos + 1) == [58]) = b1
        generalize hb2 : (c + 1 == 2 && sep) = b2
        by_cases hbad : b1 = false ∧ b2 = true ∧ (sl l pos (pos + 1) == [58]) = false
        · obtain ⟨rfl, rfl, hb3⟩ := hbad
          rw [if_neg Bool.false_ne_true, if_pos rfl, if_neg (by rw [hb3]; exact Bool.false_ne_true)]
          walk_at "ite"
          · intro e; rw [hb1] at e; cases e
          intro _
          walk_at "ite"
          · intro _
            walk_at "ite"
            · intro _
              walk_at "raiseV"
              exact ⟨hx, rfl⟩
            · intro e; unfold bne at e; rw [hb3] at e; cases e
          · intro e; rw [hb2] at e; cases e
        · have hgo : (if b1 = true then isoDig l (c + 1) (pos + 1) true h mi s us else if b2 = true then if (sl l pos (pos + 1) == [58]) = true then isoDig l (c + 1) (pos + 1) sep h mi s us else Turn.bad else isoDig l (c + 1) pos sep h mi s us) =
              isoDig l (c + 1) (if b1 || b2 then pos + 1 else pos) (if b1 then true else sep) h mi s us := by
            cases b1
            · cases b2
              · rfl
              · have : (sl l pos (pos + 1) == [58]) = true := by
                  cases hq : (sl l pos (pos + 1) == [58])
                  · exact absurd ⟨rfl, rfl, hq⟩ hbad
                  · rfl
                rw [if_neg Bool.false_ne_true, if_pos rfl, if_pos this]
                rfl
            · rfl
          rw [hgo]
          clear hgo
          with_reducible apply XP.step (m₁ := isoM n st0.length l (c + 1) (if b1 || b2 then pos + 1 else pos) (if b1 then true else sep) vf vu) (st₁ := st)
          · intro fr F'
            cases b1 with
            | true =>
              rw [show (if (true || b2) = true then pos + 1 else pos) = pos + 1 from rfl, show (if true = true then true else sep) = true from rfl]
              refine Ex1.ite (t := true) (st₁ := st) (hb1 ▸ by walk_at "bt") (fun _ => Ex.cons (Ex1.asgA (m' := isoM n st0.length l (c + 1) pos true vf vu) F' (by walk_at "ev") (by walk_at "up") rfl) (Ex.cons (Ex1.augA F' (by walk_at "lk") rfl (by walk_at "ev") (by walk_at "aug2") (by walk_at "up")) Ex.nil)) (fun e => nomatch e)
            | false =>
              refine Ex1.ite (t := false) (st₁ := st) (hb1 ▸ by walk_at "bt") (fun e => nomatch e) fun _ => Ex.cons ?_ Ex.nil
              cases b2 with
              | false => exact Ex1.ite (t := false) (st₁ := st) (hb2 ▸ by walk_at "bt") (fun e => nomatch e) fun _ => Ex.nil
              | true =>
                have h58 : (sl l pos (pos + 1) == [58]) = true := by
                  cases hq : (sl l pos (pos + 1) == [58])
                  · exact absurd ⟨rfl, rfl, hq⟩ hbad
                  · rfl
                rw [show (if (false || true) = true then pos + 1 else pos) = pos + 1 from rfl, show (if false = true then true else sep) = sep from rfl]
                have h58' : (sl l pos (pos + 1) != [58]) = false := by unfold bne; rw [h58]; rfl
                refine Ex1.ite (t := true) (st₁ := st) (hb2 ▸ by walk_at "bt") (fun _ => Ex.cons (Ex1.ite (t := false) (st₁ := st) (h58' ▸ by walk_at "bt") (fun e => nomatch e) fun _ => Ex.nil) (Ex.cons (Ex1.augA F' (by walk_at "lk") rfl (by walk_at "ev") (by walk_at "aug2") (by walk_at "up")) Ex.nil)) (fun e => nomatch e)
          have hp0 : 0 ≤ (if (b1 || b2) = true then pos + 1 else pos) := by split <;> omega
          generalize (if (b1 || b2) = true then pos + 1 else pos) = pos at *
          generalize (if b1 = true then true else sep) = sep at *
          clear hb1 hb2 hbad hs hsx ex h4 h5
          unfold isoDig
          by_cases hc3 : c + 1 < 3
          · rw [if_pos hc3]
            walk_at "ite"
            · intro _
              obtain ⟨r2, st2, c2, x2, e2⟩ := digits_ (q := q) ok true (p := pos) (k := 2) hn' hl hz (by omega) (by decide) (by decide)
              cases hd2 : dg l pos 2 with
              | none =>
                rw [hd2] at e2
                subst e2
                walk_at "setAtE"
                exact ⟨hx.trans x2, rfl⟩
              | some v =>
                rw [hd2] at e2
                subst e2
                have hL2 : ListAt st2 st0.length h mi s us .none := x2.get hL
                have hset : ([.int h, .int mi, .int s, .int us, .none] : List V).set (c + 1).toNat (.int v) = [.int (if c + 1 = 0 then v else h), .int (if c + 1 = 1 then v else mi), .int (if c + 1 = 2 then v else s), .int us, .none] := by
                  have : c + 1 = 0 ∨ c + 1 = 1 ∨ c + 1 = 2 := by omega
                  rcases this with e | e | e <;> rw [e] <;> rfl
                with_reducible apply XP.step (m₁ := isoM n st0.length l (c + 1) pos sep vf vu) (st₁ := st2.set st0.length (.list [.int (if c + 1 = 0 then v else h), .int (if c + 1 = 1 then v else mi), .int (if c + 1 = 2 then v else s), .int us, .none]))
                · intro fr F'
                  rw [← hset]
                  refine Ex1.setAtL (l := [.int h, .int mi, .int s, .int us, .none]) (n := st0.length) (j := c + 1) ?_ ?_ ?_ hL2 (by omega) (by omega) ?_ rfl rfl
                  · walk_at "ev"
                  · walk_at "ev"
                  · walk_at "ev"
                  · have : c + 1 = 0 ∨ c + 1 = 1 ∨ c + 1 = 2 := by omega
                    rcases this with e | e | e <;> rw [e] <;> rfl
                walk_at "aug"
                walk_at "ite"
                · intro e; simp at e; omega
                intro _
                with_reducible apply XP.nil
                exact ⟨(hx.trans x2).set (Nat.le_refl _) _, .inl rfl, by omega, vf, vu, rfl, get_set hL2⟩
            · intro e; simp at e; omega
          · rw [if_neg hc3]
            walk_at "ite"
            · intro e; simp at e; omega
            intro _
            by_cases hc4 : c + 1 = 3
            · rw [if_pos hc4]
              walk_at "ite"
              · intro _
                have hf := fraction_ (q := q) ok true (l := l.drop pos.toNat) (st := st) (hl.drop _) (by rw [List.length_drop]; omega)
                have hfl := frac_len (l.drop pos.toNat)
                have hfd := frac_dig (l.drop pos.toNat)
                have hfa := digs_asc hfd
                have hx3 : Ext st0 (st ++ [.tuple [.bytes (by8 [46]), .bytes (by8 [44])]]) := hx.trans Ext.add
                have hL3 : ListAt (st ++ [.tuple [.bytes (by8 [46]), .bytes (by8 [44])]]) st0.length h mi s us .none := Ext.get Ext.add hL
                walk_at "asg"
                generalize st ++ [.tuple [.bytes (by8 [46]), .bytes (by8 [44])]] = st3 at *
                rw [List.length_drop] at hfl
                generalize frac (l.drop pos.toNat) = f at *
                by_cases hfe : f.isEmpty = true
                · rw [if_pos hfe]
                  walk_at "ite"
                  · intro _
                    exact XP.stop (f := .cont) (fun fr F' => Ex1.cont) (fun e => nomatch e) ⟨hx3, .inr rfl, hp0, _, vu, rfl, hL3⟩
                  · intro e; rw [hfe] at e; cases e
                rw [if_neg hfe]
                walk_at "ite"
                · intro e; simp at e; simp [e] at hfe
                intro _
                walk_at "asg"
                rw [show (6 : Int).toNat = 6 from rfl]
                have h6d : (f.take 6).all isDig = true := List.all_eq_true.mpr fun c hc => List.all_eq_true.mp hfd c (List.mem_of_mem_take hc)
                have h6n : f.take 6 ≠ [] := by
                  cases f with
                  | nil => exact absurd rfl hfe
                  | cons a r => exact fun e => nomatch e
                have h6l : (f.take 6).length ≤ 6 := by rw [List.length_take]; omega
                have hur := us6_range hfd
                have hi : ∀ fr st, CallT (C1 q) fr (.type "int") [.bytes (by8 (f.take 6))] [] st (.ok (.int (num (f.take 6) : Int))) st := fun fr st => CallT.int8 h6d h6n (by omega)
                have hb6 : Builtin.Int.intBits (num (f.take 6) : Int) ≤ 64 := bits_small (by omega)
                with_reducible apply XP.step (m₁ := isoM n st0.length l (c + 1) pos sep (.bytes (by8 f)) (.bytes (by8 (f.take 6)))) (st₁ := st3.set st0.length (.list [.int h, .int mi, .int s, .int (us6 f), .none]))
                · intro fr F'
                  refine Ex1.setAtL (l := [.int h, .int mi, .int s, .int us, .none]) (n := st0.length) (j := 3) (v := .int (us6 f)) ?_ ?_ ?_ hL3 (by decide) (by decide) rfl rfl rfl
                  · unfold us6
                    with_reducible apply Ev.bin
                    · walk_at "ev"
                    · with_reducible apply Ev.bin
                      · walk_at "ev"
                      · walk_at "ev"
                      · exact Bin2.pow10 (by omega) (by omega)
                    · exact Bin2.mulL hb6
                  · walk_at "ev"
                  · rw [← hc4]
                    walk_at "ev"
                generalize hS4 : st3.set st0.length (.list [.int h, .int mi, .int s, .int (us6 f), .none]) = st4
                walk_at "aug"
                with_reducible apply XP.nil
                exact ⟨hS4 ▸ hx3.set (Nat.le_refl _) _, .inl rfl, by omega, _, _, rfl, hS4 ▸ get_set hL3⟩
              · intro e; simp at e; omega
            · rw [if_neg hc4]
              walk_at "ite"
              · intro e; simp at e; omega
              intro _
              with_reducible apply XP.nil
              exact ⟨hx, .inl rfl, hp0, vf, vu, rfl, hL⟩
    · intro o m' st' ⟨hx, hp⟩
      cases hlp : isoLoop l 6 0 false 0 0 0 0 with
      | none =>
        rw [hlp] at hp
        obtain rfl : o = _ := hp
        exact ⟨_, rfl, hx, rfl⟩
      | some x =>
        obtain ⟨pos, h, mi, s, us, t⟩ := x
        rw [hlp] at hp
        obtain ⟨rfl, c, sep, v, vf, vu, rfl, hL, hv⟩ := hp
        show XP _ _ _ _ _ _
        dsimp only [isoEnd]
        by_cases hpos : pos < (l.length : Int)
        · rw [if_pos hpos]
          walk_at "ite"
          · intro _
            walk_at "raiseV"
            exact ⟨_, rfl, hx, rfl⟩
          · intro e; simp at e; omega
        rw [if_neg hpos]
        walk_at "ite"
        · intro e; simp at e; omega
        intro _
        with_reducible apply XP.nil
        show XPc _ _ _ _ _ _ _
        have hL' : st'[st0.length]? = some (.list [.int h, .int mi, .int s, .int us, v]) := hL
        by_cases h24 : h = 24
        · have hc : (h == 24 && (mi != 0 || s != 0 || us != 0)) = (mi != 0 || s != 0 || us != 0) := by rw [h24]; rfl
          rw [hc]
          cases ha : (mi != 0 || s != 0 || us != 0) with
          | true =>
            rw [if_pos rfl]
            refine ⟨.exc ⟨"ValueError", true⟩, isoM n st0.length l c pos sep vf vu, st' ++ [.list [.int mi, .int s, .int us]], fun fr F' hcd => ?_, _, rfl, hx.trans Ext.add, rfl⟩
            refine Ex.stopE (Ex1.ite (t := true) (st₁ := st') ?_ (fun _ => Ex.stopE (Ex1.ite (t := true) (st₁ := st' ++ [.list [.int mi, .int s, .int us]]) ?_ (fun _ => Ex.stopE (Ex1.raiseA ok F' F.excCall_ValueError F.excRaise_ValueError (by walk_at "in") (by walk_at "evl") (Nat.le_of_ble_eq_true rfl) rfl)) (fun e => nomatch e))) (fun e => nomatch e))
            · exact Bt.conv (b := (h == 24)) (by walk_at "bt") (by rw [h24]; rfl)
            · refine Bt.conv (b := (mi != 0 || s != 0 || us != 0)) ?_ ha
              refine Bt.plain (Ev.any3 ok F' rfl hcd hC rfl (by walk_at "ev") (n := st'.length) ?_ get_last (fun _ => rfl) rfl) Truth.bool (fun _ => rfl)
              exact Ev.cut (by walk_at "ev") (by walk_at "evo") (by walk_at "evo") (Cut.list (lo := .int 1) (hi := .int 4) (i := some 1) (j := some 4) hL' rfl rfl (Nat.le_of_ble_eq_true rfl))
          | false =>
            rw [if_neg Bool.false_ne_true]
            refine ⟨.ok (.ret (.obj st0.length)), isoM n st0.length l c pos sep vf vu, st' ++ [.list [.int mi, .int s, .int us]], fun fr F' hcd => ?_, _, rfl, hx.trans Ext.add, st0.length, v, rfl, Ext.get Ext.add hL, hv.ext Ext.add, Nat.le_refl _⟩
            refine Ex.cons (Ex1.ite (t := true) (st₁ := st') ?_ (fun _ => Ex.cons (Ex1.ite (t := false) (st₁ := st' ++ [.list [.int mi, .int s, .int us]]) ?_ (fun e => nomatch e) fun _ => Ex.nil) Ex.nil) (fun e => nomatch e)) (Ex.stop (fun e => nomatch e) (.ret (by walk_at "ev")))
            · exact Bt.conv (b := (h == 24)) (by walk_at "bt") (by rw [h24]; rfl)
            · refine Bt.conv (b := (mi != 0 || s != 0 || us != 0)) ?_ ha
              refine Bt.plain (Ev.any3 ok F' rfl hcd hC rfl (by walk_at "ev") (n := st'.length) ?_ get_last (fun _ => rfl) rfl) Truth.bool (fun _ => rfl)
              exact Ev.cut (by walk_at "ev") (by walk_at "evo") (by walk_at "evo") (Cut.list (lo := .int 1) (hi := .int 4) (i := some 1) (j := some 4) hL' rfl rfl (Nat.le_of_ble_eq_true rfl))
        · have hc : (h == 24 && (mi != 0 || s != 0 || us != 0)) = false := by rw [show (h == 24) = false by simpa using h24]; rfl
          rw [hc, if_neg Bool.false_ne_true]
          refine ⟨.ok (.ret (.obj st0.length)), isoM n st0.length l c pos sep vf vu, st', fun fr F' hcd => ?_, _, rfl, hx, st0.length, v, rfl, hL, hv, Nat.le_refl _⟩
          refine Ex.cons (Ex1.ite (t := false) (st₁ := st') ?_ (fun e => nomatch e) fun _ => Ex.nil) (Ex.stop (fun e => nomatch e) (.ret (by walk_at "ev")))
          exact Bt.conv (b := (h == 24)) (by walk_at "bt") (by simpa using h24)
end
section
set_option Elab.async false
set_option maxRecDepth 100000
set_option maxHeartbeats 4000000
set_option simprocs false
set_option linter.unusedVariables false
open PySem PySem.Spec PySem.Calls PyProof.Rows PySem.W
variable {q : Pk}
def dtF (y mo d h mi s us : Int) (tz : V) : List (Str × V) := dayF y mo d ++ ([("hour", .int h), ("minute", .int mi), ("second", .int s), ("microsecond", .int us), ("tzinfo", tz), ("fold", .int 0)] : List (Str × V))
abbrev dtO (y mo d h mi s us : Int) (tz : V) : MObj := .inst 380 (dtF y mo d h mi s us tz)
def supArg : Arg := { arg := "self", annotation := none, pos := ⟨132, 17, 132, 21⟩ }
theorem supDT {fd : FuncData} {oc : Value} {od : Option Addr} {osl : Array (Option Value)} (h : (C1 q).K.lookup 297 = some ⟨oc, od, .func fd, osl⟩) : SuperFacts (C1 q) 297 fd supArg 296 284 380 380 185 "__init__" := by
  cases h
  exact ⟨⟨_, _, _, _, _, _, _, _, _, _, _, _, _, rfl, rfl, rfl, by kernel_rfl, rfl, rfl⟩, rfl, by kernel_rfl, by kernel_rfl, by kernel_rfl, by kernel_rfl, by kernel_rfl, by kernel_rfl, by kernel_rfl, by kernel_rfl, by kernel_rfl⟩
theorem set_same {st : Sto} {n : Nat} {o : MObj} (h : st[n]? = some o) : st.set n o = st := by
  apply List.ext_getElem?
  intro i
  by_cases e : n = i
  · subst e; rw [get_set h, h]
  · rw [List.getElem?_set_ne e]
theorem dtInit (ok : (C1 q).Ok) (z : Bool) {n : Nat} {y mo d h mi s us : Int} {tz : V} {st : Sto} {args : List V} {kw : List (Str × V)} (hn : st[n]? = some (.inst 380 []))
    (hbind : ∀ (sh : Shared) (ρ : Rho) (xs ks : List Value), (C1 q).K.In sh.heap → RepL ρ xs args → RepL ρ ks (kw.map (·.2)) → ∀ fd, (∃ oc od osl, (C1 q).K.lookup 297 = some ⟨oc, od, .func fd, osl⟩) → ∃ ys, BindsTo sh fd ⟨xs, (kw.map (·.1)).zip ks⟩ ((["self", "year", "month", "day", "hour", "minute", "second", "microsecond", "tzinfo", "fold"] : List Str).zip ys) ∧ RepL ρ ys [.obj n, .int y, .int mo, .int d, .int h, .int mi, .int s, .int us, tz, .int 0])
    (hd : tz.isDef = true) :
    ∃ r st', Calls (C1 q) z 4 (.glob (.ref 297)) args kw st r st' ∧ (if dayOk y mo d ∧ clockOk h mi s us then r = .ok .none ∧ st' = st.set n (dtO y mo d h mi s us tz) else r = .exc ⟨"ValueError", z⟩ ∧ ∃ o, st' = st.set n o) := by
  obtain ⟨r1, st1, c1, e1⟩ := dateInit (q := q) ok z (C := 380) (.inr rfl) (n := n) (y := y) (mo := mo) (d := d) hn
  refine Calls.defSuper (c := C1 q) (f := 297) (binds := [.obj n, .int y, .int mo, .int d, .int h, .int mi, .int s, .int us, tz, .int 0]) (vs := [.int y, .int mo, .int d]) (st₁ := st) (r1 := r1) (st₂ := st1) 10 ["self", "year", "month", "day", "hour", "minute", "second", "microsecond", "tzinfo", "fold"] [("_clock", .ref 57)] z 3 [.obj n, .int y, .int mo, .int d, .int h, .int mi, .int s, .int us, tz, .int 0] ok rfl rfl rfl rfl rfl rfl rfl ?_ rfl (by decide) rfl (supDT rfl) rfl rfl rfl rfl rfl rfl (show Lk _ _ ("self" : Str) _ from Lk.here) hn ?_ c1 rfl ?_ (fun _ => rfl) (fun _ => ⟨_, rfl⟩)
  · intro sh ρ xs ks X rx rk
    exact hbind sh ρ xs ks X rx rk _ ⟨_, _, _, rfl⟩
  · intro fr F'
    walk_at "evl"
  · by_cases hday : dayOk y mo d
    · rw [if_pos hday] at e1
      obtain ⟨rfl, rfl⟩ := e1
      refine .inl ⟨_, rfl, ?_⟩
      have hn1 : (st.set n (.inst 380 (dayF y mo d)))[n]? = some (.inst 380 (dayF y mo d)) := get_set hn
      have hcl := clock_ (q := q) ok z h mi s us (st.set n (.inst 380 (dayF y mo d)))
      by_cases hck : clockOk h mi s us
      · rw [if_pos hck] at hcl
        simp only [if_pos (And.intro hday hck)]
        walk_at "expr"
        unfold dayF at *
        walk_at "set"
        walk_at "set"
        walk_at "set"
        walk_at "set"
        walk_at "set"
        walk_at "set"
        with_reducible apply XP.nil
        refine ⟨_, rfl, rfl, ?_⟩
        simp only [List.set_set]
        rfl
      · rw [if_neg hck] at hcl
        simp only [if_neg (fun e : dayOk y mo d ∧ clockOk h mi s us => hck e.2)]
        walk_at "exprE"
        exact ⟨_, rfl, rfl, _, rfl⟩
    · rw [if_neg hday] at e1
      obtain ⟨rfl, rfl⟩ := e1
      refine .inr ⟨_, rfl, ?_⟩
      rw [if_neg (fun h => hday h.1)]
      exact ⟨rfl, .inst 380 [], (set_same hn).symm⟩
end
section
set_option Elab.async false
set_option maxRecDepth 100000
set_option maxHeartbeats 4000000
set_option simprocs false
set_option linter.unusedVariables false
open PySem PySem.Spec PySem.Calls PyProof.Rows PySem.W
variable {q : Pk}
theorem dtMake8 (ok : (C1 q).Ok) (z : Bool) {y mo d h mi s us : Int} {tz : V} {st : Sto} (hd : tz.isDef = true) : ∃ r st', Calls (C1 q) z 5 (.glob (.ref 380)) [.int y, .int mo, .int d, .int h, .int mi, .int s, .int us, tz] [] st r st' ∧ Ext st st' ∧ (if dayOk y mo d ∧ clockOk h mi s us then r = .ok (.obj st.length) ∧ st' = st ++ [dtO y mo d h mi s us tz] else r = .exc ⟨"ValueError", z⟩) := by
  obtain ⟨r, st', hc, hr⟩ := dtInit (q := q) ok z (n := st.length) (y := y) (mo := mo) (d := d) (h := h) (mi := mi) (s := s) (us := us) (tz := tz) (st := st ++ [.inst 380 []]) (args := [.obj st.length, .int y, .int mo, .int d, .int h, .int mi, .int s, .int us, tz]) (kw := []) get_last (by
    rintro s ρ xs ks X rx rk fd ⟨oc, od, osl, h⟩
    cases h
    (repeat (rcases rx with _ | ⟨r1, rx⟩)); (repeat (rcases rk with _ | ⟨k1, rk⟩))
    refine ⟨[_, _, _, _, _, _, _, _, _, _], kp_binds ‹Frag.In _ _› (fun S => rfl), ?_⟩
    walk_at "reps") hd
  by_cases h : dayOk y mo d ∧ clockOk h mi s us
  · rw [if_pos h] at hr
    simp only [if_pos h]
    obtain ⟨rfl, rfl⟩ := hr
    rw [set_last] at hc
    exact ⟨_, _, Calls.makeA ok rfl rfl rfl hc, Ext.add, rfl, rfl⟩
  · rw [if_neg h] at hr
    simp only [if_neg h]
    obtain ⟨rfl, o, rfl⟩ := hr
    exact ⟨_, _, Calls.makeX ok rfl rfl rfl hc, Ext.set Ext.add (Nat.le_refl _) _, rfl⟩
theorem dtMake3 (ok : (C1 q).Ok) (z : Bool) {y mo d : Int} {st : Sto} : ∃ r st', Calls (C1 q) z 5 (.glob (.ref 380)) [.int y, .int mo, .int d] [] st r st' ∧ Ext st st' ∧ (if dayOk y mo d then r = .ok (.obj st.length) ∧ st' = st ++ [dtO y mo d 0 0 0 0 .none] else r = .exc ⟨"ValueError", z⟩) := by
  obtain ⟨r, st', hc, hr⟩ := dtInit (q := q) ok z (n := st.length) (y := y) (mo := mo) (d := d) (h := 0) (mi := 0) (s := 0) (us := 0) (tz := .none) (st := st ++ [.inst 380 []]) (args := [.obj st.length, .int y, .int mo, .int d]) (kw := []) get_last (by
    rintro s ρ xs ks X rx rk fd ⟨oc, od, osl, h⟩
    cases h
    (repeat (rcases rx with _ | ⟨r1, rx⟩)); (repeat (rcases rk with _ | ⟨k1, rk⟩))
    refine ⟨[_, _, _, _, _, _, _, _, _, _], kp_binds ‹Frag.In _ _› (fun S => rfl), ?_⟩
    walk_at "reps") rfl
  have hck : clockOk 0 0 0 0 := by decide
  by_cases h : dayOk y mo d
  · rw [if_pos ⟨h, hck⟩] at hr
    simp only [if_pos h]
    obtain ⟨rfl, rfl⟩ := hr
    rw [set_last] at hc
    exact ⟨_, _, Calls.makeA ok rfl rfl rfl hc, Ext.add, rfl, rfl⟩
  · rw [if_neg (fun e => h e.1)] at hr
    simp only [if_neg h]
    obtain ⟨rfl, o, rfl⟩ := hr
    exact ⟨_, _, Calls.makeX ok rfl rfl rfl hc, Ext.set Ext.add (Nat.le_refl _) _, rfl⟩
abbrev tmO (h mi s us : Int) (tz : V) : MObj := .inst 167 [("hour", .int h), ("minute", .int mi), ("second", .int s), ("microsecond", .int us), ("tzinfo", tz)]
theorem tmInit (ok : (C1 q).Ok) (z : Bool) {n : Nat} {h mi s us : Int} {tz : V} {st : Sto} (hn : st[n]? = some (.inst 167 [])) (hd : tz.isDef = true) :
    ∃ r st', Calls (C1 q) z 2 (.glob (.ref 157)) [.obj n, .int h, .int mi, .int s, .int us, tz] [] st r st' ∧ (if clockOk h mi s us then r = .ok .none ∧ st' = st.set n (tmO h mi s us tz) else r = .exc ⟨"ValueError", z⟩ ∧ st' = st) := by
  refine Calls.defX (c := C1 q) (f := 157) (binds := [.obj n, .int h, .int mi, .int s, .int us, tz]) 6 ["self", "hour", "minute", "second", "microsecond", "tzinfo"] [("_clock", .ref 57)] z 1 [.obj n, .int h, .int mi, .int s, .int us, tz] ok rfl rfl rfl rfl ?_ rfl (by decide) rfl ?_
  · walk_at "hb6"
  · have hcl := clock_ (q := q) ok z h mi s us st
    by_cases hck : clockOk h mi s us
    · rw [if_pos hck] at hcl
      simp only [if_pos hck]
      walk_at "expr"
      walk_at "set"
      walk_at "set"
      walk_at "set"
      walk_at "set"
      walk_at "set"
      with_reducible apply XP.nil
      refine ⟨_, rfl, rfl, ?_⟩
      simp only [List.set_set]
      rfl
    · rw [if_neg hck] at hcl
      simp only [if_neg hck]
      walk_at "exprE"
      exact ⟨_, rfl, rfl, rfl⟩
theorem tmMake (ok : (C1 q).Ok) (z : Bool) {h mi s us : Int} {tz : V} {st : Sto} (hd : tz.isDef = true) : ∃ r st', Calls (C1 q) z 3 (.glob (.ref 167)) [.int h, .int mi, .int s, .int us, tz] [] st r st' ∧ Ext st st' ∧ (if clockOk h mi s us then r = .ok (.obj st.length) ∧ st' = st ++ [tmO h mi s us tz] else r = .exc ⟨"ValueError", z⟩) := by
  obtain ⟨r, st', hc, hr⟩ := tmInit (q := q) ok z (n := st.length) (h := h) (mi := mi) (s := s) (us := us) (st := st ++ [.inst 167 []]) get_last hd
  by_cases h : clockOk h mi s us
  · rw [if_pos h] at hr
    simp only [if_pos h]
    obtain ⟨rfl, rfl⟩ := hr
    rw [set_last] at hc
    exact ⟨_, _, Calls.makeA ok rfl rfl rfl hc, Ext.add, rfl, rfl⟩
  · rw [if_neg h] at hr
    simp only [if_neg h]
    obtain ⟨rfl, rfl⟩ := hr
    exact ⟨_, _, Calls.makeX ok rfl rfl rfl hc, Ext.add, rfl⟩
theorem binDT2 : BinFacts (C1 q) 380 124 377 "add" true :=
  ⟨⟨_, _, rfl, rfl⟩, ⟨_, _, 114, rfl, rfl, rfl⟩, rfl, rfl, by decide, rfl, fun S => rfl, fun S => rfl⟩
end
section
set_option Elab.async false
set_option maxRecDepth 100000
set_option maxHeartbeats 4000000
set_option simprocs false
set_option linter.unusedVariables false
open PySem PySem.Spec PySem.Calls PyProof.Rows PySem.W
variable {q : Pk}
/-- what comes of a day's first moment and one day -/
theorem dtAdd (ok : (C1 q).Ok) (z : Bool) (hz : z = true) {n k : Nat} {y mo d : Int} {tz : V} {st : Sto} (hn : st[n]? = some (dtO y mo d 0 0 0 0 tz)) (hk : st[k]? = some (td 1 0 0)) (hN0 : 1 ≤ before y mo + d ∧ before y mo + d ≤ 3652059) (htz : tz.isDef = true) (htp : tz.plain = true) :
    ∃ r st', Calls (C1 q) z 7 (.glob (.ref 377)) [.obj n, .obj k] [] st r st' ∧ (Ext st st' ∧ (if before y mo + d + 1 ≤ 3652059 then ∃ j, r = .ok (.obj j) ∧ st'[j]? = some (dtO (ordY (before y mo + d + 1)) (ordM (before y mo + d + 1)) (ordD (before y mo + d + 1)) 0 0 0 0 tz) else r = .exc ⟨"OverflowError", z⟩)) := by
  refine Calls.defX (c := C1 q) (f := 377) (binds := [.obj n, .obj k]) 2 ["self", "other", "clock", "whole", "day"] [("isinstance", .builtin "isinstance"), ("timedelta", .ref 124), ("NotImplemented", .notImplemented), ("date", .ref 276), ("_held", .ref 50), ("datetime", .ref 380)] z 6 [.obj n, .obj k, .undef, .undef, .undef] ok rfl rfl rfl rfl ?_ rfl (by decide) rfl ?_
  · walk_at "hb2"
  · have hi : ∀ fr, CallT (C1 q) fr (.builtin "isinstance") [.obj k, .glob (.ref 124)] [] st (.ok (.bool true)) st := fun fr => CallT.isYes ok hk rfl
    walk_at "ite"
    · intro h
      exact absurd h (by simp)
    · intro _
      walk_at "asg"
      have htd := td3 (q := q) ok z (d := before y mo + d + 1) (s := 0 * 3600 + 0 * 60 + 0 + 0) (u := 0 + 0) (st := st) (by omega)
      rw [show before y mo + d + 1 + (0 * 3600 + 0 * 60 + 0 + 0 + (0 + 0) / 1000000) / 86400 = before y mo + d + 1 by omega, show (0 * 3600 + 0 * 60 + 0 + 0 + (0 + 0) / 1000000 : Int) % 86400 = 0 from rfl, show (0 + 0 : Int) % 1000000 = 0 from rfl] at htd
      walk_at "asg"
      have hw : (st ++ [td (before y mo + d + 1) 0 0])[st.length]? = some (td (before y mo + d + 1) 0 0) := get_last
      have hn1 : (st ++ [td (before y mo + d + 1) 0 0])[n]? = some (dtO y mo d 0 0 0 0 tz) := Ext.get Ext.add hn
      have hX : Ext st (st ++ [td (before y mo + d + 1) 0 0]) := Ext.add
      generalize st ++ [td (before y mo + d + 1) 0 0] = S at *
      have hlo : 1 ≤ before y mo + d + 1 := by omega
      generalize before y mo + d + 1 = N at *
      have hh := held_ (q := q) ok z N S
      by_cases h4 : N ≤ 3652059
      · rw [if_pos ⟨hlo, h4⟩] at hh
        simp only [if_pos h4]
        have hf := fromord_ (q := q) ok z hlo h4 (st := S)
        have hw1 : (S ++ [ordO N])[st.length]? = some (td N 0 0) := Ext.get Ext.add hw
        have hd1 : (S ++ [ordO N])[S.length]? = some (ordO N) := get_last
        have hn2 : (S ++ [ordO N])[n]? = some (dtO y mo d 0 0 0 0 tz) := Ext.get Ext.add hn1
        have hX1 : Ext st (S ++ [ordO N]) := hX.trans Ext.add
        with_reducible apply XP.step (m₁ := [.obj n, .obj k, .int 0, .obj st.length, .obj S.length]) (st₁ := S ++ [ordO N] ++ [.tuple [.obj S.length, .int 0]])
        · intro fr F'
          refine Ex1.asgSwap (xs := ["day", "clock"]) (n := (S ++ [ordO N]).length) (vs := [.obj S.length, .int 0]) F'.fri.own (F'.fit.z hz) ?_ get_last rfl ?_ rfl (swapped2 (blockKind_fn F'.fri.own) (local_of F' (by walk_at "in")) (local_of F' (by walk_at "in")) rfl rfl rfl rfl rfl)
          · refine Ev.tuple (.cons ?_ (.cons (by walk_at "ev") .nil)) (Nat.le_of_ble_eq_true rfl)
            refine Ev.methC ok (C := 276) (p := 194) (f := 192) (mc := .type "type") (st₁ := S) (by walk_at "ev") rfl rfl rfl (by walk_at "evl") EvK.nil hf (Fx.fit.id F'.fit (Nat.le_of_ble_eq_true rfl)) rfl ⟨_, rfl⟩
          · refine StN.cons (St1.locA F' (by walk_at "up")) (StN.cons (St1.locA F' (by walk_at "up")) StN.nil)
        have hday := ord_spec hlo h4
        obtain ⟨r9, st9, c9, x9, e9⟩ := dtMake8 (q := q) ok z (y := ordY N) (mo := ordM N) (d := ordD N) (h := 0 / 3600) (mi := 0 / 60 % 60) (s := 0 % 60) (us := 0) (tz := tz) (st := S ++ [ordO N] ++ [.tuple [.obj S.length, .int 0]]) htz
        rw [if_pos ⟨hday, (by decide : clockOk (0 / 3600) (0 / 60 % 60) (0 % 60) 0)⟩] at e9
        obtain ⟨rfl, rfl⟩ := e9
        have hw2 : (S ++ [ordO N] ++ [.tuple [.obj S.length, .int 0]])[st.length]? = some (td N 0 0) := Ext.get Ext.add hw1
        have hd2 : (S ++ [ordO N] ++ [.tuple [.obj S.length, .int 0]])[S.length]? = some (ordO N) := Ext.get Ext.add hd1
        have hn3 : (S ++ [ordO N] ++ [.tuple [.obj S.length, .int 0]])[n]? = some (dtO y mo d 0 0 0 0 tz) := Ext.get Ext.add hn2
        walk_at "ret"
        exact ⟨_, rfl, (hX1.trans Ext.add).trans Ext.add, _, rfl, get_last⟩
      · rw [if_neg (by omega)] at hh
        simp only [if_neg h4]
        with_reducible apply XP.exc (C := ⟨"OverflowError", z⟩) (m₁ := [.obj n, .obj k, .int 0, .obj st.length, .undef]) (st₁ := S)
        · intro fr F'
          refine Ex1.asgTupE (Ev.tupleE (.head ?_ rfl)) rfl
          refine Ev.methCE ok (C := 276) (p := 194) (f := 192) (mc := .type "type") (st₁ := S) (by walk_at "ev") rfl rfl rfl (EvLE.head (by walk_at "ev") rfl) noKw rfl ⟨_, rfl⟩
        · exact ⟨_, rfl, hX, rfl⟩
end
section
set_option Elab.async false
set_option maxRecDepth 100000
set_option maxHeartbeats 4000000
set_option simprocs false
set_option linter.unusedVariables false
open PySem PySem.Spec PySem.Calls PyProof.Rows PySem.W
variable {q : Pk}
def TextOf (l : TX) (v : V) : Prop := v = .str ⟨l.toArray⟩ ∨ v = .bytes (by8 l)
theorem takes_ (ok : (C1 q).Ok) (z : Bool) {l : TX} {v : V} {st : Sto} (hv : TextOf l v) (hl : Asc l) (hz : l.length ≤ 1000) : Calls (C1 q) z 1 (.glob (.ref 518)) [v] [] st (.ok (.bytes (by8 l))) st := Calls.of <| by
  refine Calls.defX (c := C1 q) (f := 518) (binds := [v]) 1 ["str_in", "e", "msg"] [("isinstance", .builtin "isinstance"), ("str", .type "str")] z 0 [v, .undef, .undef] ok rfl rfl rfl rfl ?_ rfl (by decide) rfl ?_
  · walk_at "hb1"
  · rcases hv with rfl | rfl
    · have he : ∀ fr, CallT (C1 q) fr (.builtin "str.encode") [.str ⟨l.toArray⟩, .str (Str.ofString "ascii")] [] st (.ok (.bytes (by8 l))) st := fun fr => CallT.encode8 hl (by omega)
      walk_at "ite"
      · intro _
        with_reducible apply XP.step (m₁ := [.bytes (by8 l), .undef, .undef]) (st₁ := st)
        · intro fr F'
          refine Ex1.tryOk (Ex.cons ?_ Ex.nil)
          (with_reducible apply Ex1.asgA F'); (· walk_at "ev"); (· walk_at "up"); (· rfl)
        walk_at "ret"
        exact ⟨_, rfl, rfl, rfl⟩
      · intro e; cases e
    · have hb : ∀ fr, CallT (C1 q) fr (.builtin "isinstance") [.bytes (by8 l), .glob (.type "str")] [] st (.ok (.bool false)) st := fun fr => CallT.isStrB ok rfl
      walk_at "ite"
      · intro e; cases e
      · intro _
        walk_at "ret"
        exact ⟨_, rfl, rfl, rfl⟩
theorem rdInit0 (ok : (C1 q).Ok) (z : Bool) {n : Nat} {st : Sto} {args : List V} {kw : List (Str × V)} (hn : st[n]? = some (.inst 622 []))
    (hbind : ∀ (sh : Shared) (ρ : Rho) (xs ks : List Value), (C1 q).K.In sh.heap → RepL ρ xs args → RepL ρ ks (kw.map (·.2)) → ∀ fd, (∃ oc od osl, (C1 q).K.lookup 540 = some ⟨oc, od, .func fd, osl⟩) → ∃ ys, BindsTo sh fd ⟨xs, (kw.map (·.1)).zip ks⟩ ((["self", "sep"] : List Str).zip ys) ∧ RepL ρ ys [.obj n, .none]) :
    Calls (C1 q) z 1 (.glob (.ref 540)) args kw st (.ok .none) (st.set n (rd .none)) := Calls.of <| by
  refine Calls.defX (c := C1 q) (f := 540) (binds := [.obj n, .none]) 2 ["self", "sep"] [("len", .builtin "len"), ("ord", .builtin "ord"), ("ValueError", .type "ValueError")] z 0 [.obj n, .none] ok rfl rfl rfl rfl ?_ rfl (by decide) rfl ?_
  · intro sh ρ xs ks X rx rk
    exact hbind sh ρ xs ks X rx rk _ ⟨_, _, _, rfl⟩
  · walk_at "ite"
    · intro e; cases e
    · intro _
      walk_at "set"
      with_reducible apply XP.nil
      exact ⟨_, rfl, rfl, rfl⟩
theorem rdInitT (ok : (C1 q).Ok) (z : Bool) {n : Nat} {st : Sto} (hn : st[n]? = some (.inst 622 [])) :
    Calls (C1 q) z 1 (.glob (.ref 540)) [.obj n, .str "T"] [] st (.ok .none) (st.set n (rd (.bytes (by8 [84])))) := Calls.of <| by
  refine Calls.defX (c := C1 q) (f := 540) (binds := [.obj n, .str "T"]) 2 ["self", "sep"] [("len", .builtin "len"), ("ord", .builtin "ord"), ("ValueError", .type "ValueError")] z 0 [.obj n, .str "T"] ok rfl rfl rfl rfl ?_ rfl (by decide) rfl ?_
  · walk_at "hb2"
  · have eT : (Str.ofString "T") = ⟨([84] : TX).toArray⟩ := by rfl
    have he : ∀ fr, CallT (C1 q) fr (.builtin "str.encode") [.str "T", .str (Str.ofString "ascii")] [] st (.ok (.bytes (by8 [84]))) st := fun fr => by rw [eT]; exact CallT.encode8 (by unfold Asc; decide) (by decide)
    have hlen : ∀ fr, CallT (C1 q) fr (.builtin "len") [.str "T"] [] st (.ok (.int 1)) st := fun fr => CallT.lenS (a := "T") (by decide)
    have hord : ∀ fr, CallT (C1 q) fr (.builtin "ord") [.str "T"] [] st (.ok (.int 84)) st := fun fr => CallT.ord (a := "T") rfl
    walk_at "ite"
    · intro _
      with_reducible apply XP.ite (t := false) (st₁ := st)
      · intro fr F'
        refine Bt.conv (b := ((1 : Int) != 1 || (decide ((84 : Int) ≥ 128) || Txt.contains "0123456789" "T"))) ?_ (by decide +kernel)
        refine Bt.orN (by walk_at "bt") fun _ => Bt.or2 (by walk_at "bt") fun _ => ?_
        exact Bt.cmpA (by walk_at "ev") (by walk_at "ev") Cmp2.inS rfl
      · intro e; cases e
      · intro _
        simp only [List.cons_append, List.nil_append]
        walk_at "asg"
        walk_at "set"
        with_reducible apply XP.nil
        exact ⟨_, rfl, rfl, rfl⟩
    · intro e; cases e
theorem rdMake0 (ok : (C1 q).Ok) (z : Bool) {st : Sto} : Calls (C1 q) z 2 (.glob (.ref 622)) [] [] st (.ok (.obj st.length)) (st ++ [rd .none]) := by
  refine Calls.makeA ok rfl rfl rfl ?_
  have := rdInit0 (q := q) ok z (n := st.length) (st := st ++ [.inst 622 []]) (args := [.obj st.length]) (kw := []) get_last (by
    rintro s ρ xs ks X rx rk fd ⟨oc, od, osl, h⟩
    cases h
    (repeat (rcases rx with _ | ⟨r1, rx⟩)); (repeat (rcases rk with _ | ⟨k1, rk⟩))
    refine ⟨[_, _], kp_binds ‹Frag.In _ _› (fun S => rfl), ?_⟩
    walk_at "reps")
  rwa [set_last] at this
theorem rdMakeT (ok : (C1 q).Ok) (z : Bool) {st : Sto} : Calls (C1 q) z 2 (.glob (.ref 622)) [.str "T"] [] st (.ok (.obj st.length)) (st ++ [rd (.bytes (by8 [84]))]) := by
  refine Calls.makeA ok rfl rfl rfl ?_
  have := rdInitT (q := q) ok z (n := st.length) (st := st ++ [.inst 622 []]) get_last
  rwa [set_last] at this
end
section
set_option Elab.async false
set_option maxRecDepth 100000
set_option maxHeartbeats 4000000
set_option simprocs false
set_option linter.unusedVariables false
open PySem PySem.Spec PySem.Calls PyProof.Rows PySem.W
variable {q : Pk}
def sepV : Option Nat → V
  | none => .none
  | some x => .bytes (by8 [x])
theorem sepV_def (s : Option Nat) : (sepV s).isDef = true := by cases s <;> rfl
theorem sepV_plain (s : Option Nat) : (sepV s).plain = true := by cases s <;> rfl
def MomAt (st' : Sto) (r : Out V) : Except String Mom → Prop
  | .error e => ∃ k, r = .exc ⟨e, k⟩
  | .ok m => ∃ j v, r = .ok (.obj j) ∧ st'[j]? = some (dtO m.y m.mo m.d m.h m.mi m.s m.us v) ∧ TzAt st' v m.t
theorem TzAt.def {st : Sto} : ∀ {v : V} {t : TZ}, TzAt st v t → v.isDef = true ∧ v.plain = true
  | .none, .no, _ => ⟨rfl, rfl⟩
  | .obj _, .utc, _ => ⟨rfl, rfl⟩
  | .obj _, .off _, _ => ⟨rfl, rfl⟩
theorem kp583' : KeepOk (C1 q) (.ref 583) := kp583
theorem isoparse_ (ok : (C1 q).Ok) {n : Nat} {sep : Option Nat} {l : TX} {v : V} {st : Sto} (hC : CodeHd (C1 q).base 610 (C1 q).out) (hn : st[n]? = some (rd (sepV sep))) (hs : ∀ x, sep = some x → x < 128) (hv : TextOf l v) (hl : Asc l) (hz : l.length ≤ 1000) :
    ∃ r st', Calls (C1 q) true 11 (.glob (.ref 547)) [.obj n, v] [] st r st' ∧ (Ext st st' ∧ MomAt st' r (isoparse sep l)) := by
  have hvd : v.isDef = true := by rcases hv with rfl | rfl <;> rfl
  refine Calls.defX (c := C1 q) (f := 547) (binds := [.obj n, v]) 2 ["self", "dt_str", "components", "pos"] [("len", .builtin "len"), ("ValueError", .type "ValueError"), ("_takes_ascii", .ref 518), ("datetime", .ref 380), ("timedelta", .ref 124)] true 10 [.obj n, v, .undef, .undef] ok rfl rfl rfl rfl ?_ rfl (by decide) rfl ?_
  · walk_at "hb2"
  · have hta := takes_ (q := q) ok true hv hl hz (st := st)
    walk_at "asg"
    obtain ⟨r1, st1, c1, x1, e1⟩ := isodate_ (q := q) ok hn hl hz
    have hn1 := x1.get hn
    unfold isoparse
    cases hd : isodate l with
    | error er =>
      rw [hd] at e1
      obtain ⟨kx, rfl⟩ := e1
      with_reducible apply XP.exc (C := ⟨er, kx⟩) (m₁ := [.obj n, .bytes (by8 l), .undef, .undef]) (st₁ := st1)
      · intro fr F'
        refine Ex1.asgTupE ?_ rfl
        walk_at "ev"
      · exact ⟨_, rfl, x1, _, rfl⟩
    | ok x =>
      have hp0 := isodate_pos hd
      obtain ⟨y, mo, d, p⟩ := x
      rw [hd] at e1
      obtain ⟨t, k, rfl, ht, hk, hkl⟩ := e1
      dsimp only at hp0 ht hk ⊢
      with_reducible apply XP.step (m₁ := [.obj n, .bytes (by8 l), .obj k, .int p]) (st₁ := st1)
      · intro fr F'
        refine Ex1.asgTupA (n := t) (vs := [.obj k, .int p]) F' rfl ?_ ht rfl (.cons (.cons .nil)) (StN.cons (St1.locA F' (by walk_at "up")) (StN.cons (St1.locA F' (by walk_at "up")) StN.nil)) rfl rfl rfl rfl
        walk_at "ev"
      by_cases hlen : (l.length : Int) > p
      · rw [if_pos hlen]
        have hsd := sepV_def sep
        have hsp := sepV_plain sep
        walk_at "ite"
        · intro _
          refine XP.ite (t := sepFits sep l p) (st₁ := st1) ?_ ?_ ?_
          · intro fr F'
            cases sep with
            | none => exact Bt.conv (Bt.or2 (b := true) (d := true) (Bt.cmpA (a := .none) (b := .none) (st₁ := st1) (by walk_at "ev") (by walk_at "ev") Cmp2.isNN rfl) fun e => nomatch e) rfl
            | some x =>
              have hx := hs x rfl
              have hxa : Asc [x] := fun c hc => by simp at hc; omega
              refine Bt.conv (Bt.or2 (b := false) (d := sl l p (p + 1) == [x]) (Bt.cmpA (a := .bytes (by8 [x])) (b := .none) (st₁ := st1) (by walk_at "ev") (by walk_at "ev") (Cmp2.isN rfl) rfl) fun _ => ?_) rfl
              exact Bt.cmpA (a := .bytes (by8 (sl l p (p + 1)))) (b := .bytes (by8 [x])) (st₁ := st1) (by walk_at "ev") (by walk_at "ev") (Cmp2.eq8 (sl_asc hl _ _) hxa) rfl
          all_goals (try simp only [List.cons_append, List.nil_append])
          · intro hfit
            rw [if_pos hfit]
            obtain ⟨r2, st2, c2, x2, e2⟩ := isotime_ (q := q) ok hC hn1 (hl.drop (p + 1).toNat) (by rw [List.length_drop]; omega)
            cases hi : isotime (l.drop (p + 1).toNat) with
            | none =>
              rw [hi] at e2
              obtain rfl : r2 = _ := e2
              with_reducible apply XP.exc (C := ⟨"ValueError", true⟩) (m₁ := [.obj n, .bytes (by8 l), .obj k, .int p]) (st₁ := st2)
              · intro fr F'
                refine Ex1.augE (a := .obj k) F'.fri.own (by rw [F'.fri.nm]; walk_at "lk") rfl ?_
                walk_at "ev"
              · exact ⟨_, rfl, x1.trans x2, _, rfl⟩
            | some x =>
              obtain ⟨h, mi, s, us, tz⟩ := x
              rw [hi] at e2
              obtain ⟨k2, w, rfl, hL, hw, hk2⟩ := e2
              have hk' := x2.get hk
              obtain ⟨hwd, hwp⟩ := hw.def
              with_reducible apply XP.step (m₁ := [.obj n, .bytes (by8 l), .obj k, .int p]) (st₁ := st2.set k (.list [.int y, .int mo, .int d, .int h, .int mi, .int s, .int us, w]))
              · intro fr F'
                refine Ex1.augA F' (by walk_at "lk") rfl (b := .obj k2) (st₁ := st2) ?_ (Aug2.listAdd (l := [.int y, .int mo, .int d]) (l' := [.int h, .int mi, .int s, .int us, w]) hk' hL (Nat.le_of_ble_eq_true rfl)) (by walk_at "up")
                walk_at "ev"
              have X3 : Ext st (st2.set k (.list [.int y, .int mo, .int d, .int h, .int mi, .int s, .int us, w])) := (x1.trans x2).set hkl _
              have K3 : (st2.set k (.list [.int y, .int mo, .int d, .int h, .int mi, .int s, .int us, w]))[k]? = some (.list [.int y, .int mo, .int d, .int h, .int mi, .int s, .int us, w]) := get_set hk'
              have W3 : TzAt (st2.set k (.list [.int y, .int mo, .int d, .int h, .int mi, .int s, .int us, w])) w tz := hw.set hk'
              generalize st2.set k (.list [.int y, .int mo, .int d, .int h, .int mi, .int s, .int us, w]) = S3 at *
              have hlL : ∀ fr, CallT (C1 q) fr (.builtin "len") [.obj k] [] S3 (.ok (.int 8)) S3 := fun fr => CallT.lenL K3 (Nat.le_of_ble_eq_true rfl)
              dsimp only [isoWhole]
              refine XP.ite (t := decide (h = 24)) (st₁ := S3) ?_ ?_ ?_
              · intro fr F'
                refine Bt.conv (Bt.and2 (b := true) (d := h == 24) (Bt.conv (b := decide ((8 : Int) > 3)) (by walk_at "bt") rfl) fun _ => ?_) (by rw [Bool.true_and]; rfl)
                walk_at "bt"
              all_goals (try simp only [List.cons_append, List.nil_append])
              · intro h24
                have h24 := of_decide_eq_true h24
                subst h24
                obtain ⟨rfl, rfl, rfl⟩ := isotime_24 hi
                rw [if_pos rfl]
                with_reducible apply XP.step (m₁ := [.obj n, .bytes (by8 l), .obj k, .int p]) (st₁ := S3.set k (.list [.int y, .int mo, .int d, .int 0, .int 0, .int 0, .int 0, w]))
                · intro fr F'
                  exact Ex1.setAtL (l := [.int y, .int mo, .int d, .int 24, .int 0, .int 0, .int 0, w]) (n := k) (j := 3) (v := .int 0) (by walk_at "ev") (by walk_at "ev") (by walk_at "ev") K3 (by decide) (by decide) rfl rfl rfl
                have X4 : Ext st (S3.set k (.list [.int y, .int mo, .int d, .int 0, .int 0, .int 0, .int 0, w])) := X3.set hkl _
                have K4 : (S3.set k (.list [.int y, .int mo, .int d, .int 0, .int 0, .int 0, .int 0, w]))[k]? = some (.list [.int y, .int mo, .int d, .int 0, .int 0, .int 0, .int 0, w]) := get_set K3
                have W4 : TzAt (S3.set k (.list [.int y, .int mo, .int d, .int 0, .int 0, .int 0, .int 0, w])) w tz := W3.set K3
                generalize S3.set k (.list [.int y, .int mo, .int d, .int 0, .int 0, .int 0, .int 0, w]) = S4 at *
                obtain ⟨r9, st9, c9, x9, e9⟩ := dtMake8 (q := q) ok true (y := y) (mo := mo) (d := d) (h := 0) (mi := 0) (s := 0) (us := 0) (tz := w) (st := S4) hwd
                by_cases hday : dayOk y mo d
                · rw [if_pos ⟨hday, (by decide : clockOk 0 0 0 0)⟩] at e9
                  obtain ⟨rfl, rfl⟩ := e9
                  rw [if_neg (fun e => e hday)]
                  have htd := tdDays (q := q) ok true (d := 1) (st := S4 ++ [dtO y mo d 0 0 0 0 w]) (by decide)
                  have g1 : (S4 ++ [dtO y mo d 0 0 0 0 w] ++ [td 1 0 0])[S4.length]? = some (dtO y mo d 0 0 0 0 w) := Ext.get Ext.add get_last
                  have g2 : (S4 ++ [dtO y mo d 0 0 0 0 w] ++ [td 1 0 0])[(S4 ++ [dtO y mo d 0 0 0 0 w]).length]? = some (td 1 0 0) := get_last
                  obtain ⟨ra, sta, ca, xa, ea⟩ := dtAdd (q := q) ok true rfl g1 g2 (day_range hday) hwd hwp
                  have XA := X4.trans ((Ext.add.trans Ext.add).trans xa)
                  by_cases hN : before y mo + d + 1 ≤ 3652059
                  · rw [if_pos hN] at ea ⊢
                    obtain ⟨j, rfl, hj⟩ := ea
                    with_reducible apply XP.ret (v := .obj j) (st₁ := sta)
                    · intro fr F'
                      refine Ev.binO ok (st₁ := S4 ++ [dtO y mo d 0 0 0 0 w]) (C := 380) (D := 124) (f := 377) (b := true) (n := S4.length) (k := (S4 ++ [dtO y mo d 0 0 0 0 w]).length) ?_ (by walk_at "ev") binDT2 g1 g2 (CallT.of ca (Fx.fit.id F'.fit (Nat.le_of_ble_eq_true rfl))) (fun v e => by cases e; exact ⟨_, rfl⟩)
                      exact Ev.callStar ok (by walk_at "ev") rfl (by walk_at "ev") K4 (Nat.le_of_ble_eq_true rfl) (CallT.of c9 (Fx.fit.id F'.fit (Nat.le_of_ble_eq_true rfl))) rfl
                    · exact ⟨_, rfl, XA, j, w, rfl, hj, W4.ext ((Ext.add.trans Ext.add).trans xa)⟩
                  · rw [if_neg hN] at ea ⊢
                    subst ea
                    with_reducible apply XP.retE (C := ⟨"OverflowError", true⟩) (st₁ := sta)
                    · intro fr F'
                      refine Ev.binO ok (st₁ := S4 ++ [dtO y mo d 0 0 0 0 w]) (C := 380) (D := 124) (f := 377) (b := true) (n := S4.length) (k := (S4 ++ [dtO y mo d 0 0 0 0 w]).length) ?_ (by walk_at "ev") binDT2 g1 g2 (CallT.of ca (Fx.fit.id F'.fit (Nat.le_of_ble_eq_true rfl))) (fun v e => by cases e)
                      exact Ev.callStar ok (by walk_at "ev") rfl (by walk_at "ev") K4 (Nat.le_of_ble_eq_true rfl) (CallT.of c9 (Fx.fit.id F'.fit (Nat.le_of_ble_eq_true rfl))) rfl
                    · exact ⟨_, rfl, XA, _, rfl⟩
                · rw [if_neg (fun e => hday e.1)] at e9
                  subst e9
                  rw [if_pos hday]
                  with_reducible apply XP.retE (C := ⟨"ValueError", true⟩) (st₁ := st9)
                  · intro fr F'
                    refine Ev.binopE1 ?_
                    exact Ev.callStar ok (by walk_at "ev") rfl (by walk_at "ev") K4 (Nat.le_of_ble_eq_true rfl) (CallT.of c9 (Fx.fit.id F'.fit (Nat.le_of_ble_eq_true rfl))) rfl
                  · exact ⟨_, rfl, X4.trans x9, _, rfl⟩
              · intro h24
                have h24 := of_decide_eq_false h24
                rw [if_neg h24]
                obtain ⟨r9, st9, c9, x9, e9⟩ := dtMake8 (q := q) ok true (y := y) (mo := mo) (d := d) (h := h) (mi := mi) (s := s) (us := us) (tz := w) (st := S3) hwd
                by_cases hday : dayOk y mo d ∧ clockOk h mi s us
                · rw [if_pos hday] at e9 ⊢
                  obtain ⟨rfl, rfl⟩ := e9
                  with_reducible apply XP.ret (v := .obj S3.length) (st₁ := S3 ++ [dtO y mo d h mi s us w])
                  · intro fr F'
                    exact Ev.callStar ok (by walk_at "ev") rfl (by walk_at "ev") K3 (Nat.le_of_ble_eq_true rfl) (CallT.of c9 (Fx.fit.id F'.fit (Nat.le_of_ble_eq_true rfl))) rfl
                  · exact ⟨_, rfl, X3.trans Ext.add, _, w, rfl, get_last, W3.ext Ext.add⟩
                · rw [if_neg hday] at e9 ⊢
                  subst e9
                  with_reducible apply XP.retE (C := ⟨"ValueError", true⟩) (st₁ := st9)
                  · intro fr F'
                    exact Ev.callStar ok (by walk_at "ev") rfl (by walk_at "ev") K3 (Nat.le_of_ble_eq_true rfl) (CallT.of c9 (Fx.fit.id F'.fit (Nat.le_of_ble_eq_true rfl))) rfl
                  · exact ⟨_, rfl, X3.trans x9, _, rfl⟩
          · intro hfit
            rw [if_neg (by rw [hfit]; exact Bool.false_ne_true)]
            walk_at "raiseV"
            exact ⟨_, rfl, x1, _, rfl⟩
        · intro e; simp at e; omega
      · rw [if_neg hlen]
        walk_at "ite"
        · intro e; simp at e; omega
        intro _
        have hlL : ∀ fr, CallT (C1 q) fr (.builtin "len") [.obj k] [] st1 (.ok (.int 3)) st1 := fun fr => CallT.lenL hk (Nat.le_of_ble_eq_true rfl)
        with_reducible apply XP.ite (t := false) (st₁ := st1)
        · intro fr F'
          exact Bt.conv (Bt.and2 (b := false) (d := false) (Bt.conv (b := decide ((3 : Int) > 3)) (by walk_at "bt") rfl) fun e => nomatch e) rfl
        · intro e; cases e
        intro _
        simp only [List.nil_append]
        obtain ⟨r9, st9, c9, x9, e9⟩ := dtMake3 (q := q) ok true (y := y) (mo := mo) (d := d) (st := st1)
        by_cases hday : dayOk y mo d
        · rw [if_pos hday] at e9
          obtain ⟨rfl, rfl⟩ := e9
          rw [if_pos hday]
          with_reducible apply XP.ret (v := .obj st1.length) (st₁ := st1 ++ [dtO y mo d 0 0 0 0 .none])
          · intro fr F'
            exact Ev.callStar ok (by walk_at "ev") rfl (by walk_at "ev") hk (Nat.le_of_ble_eq_true rfl) (CallT.of c9 (Fx.fit.id F'.fit (Nat.le_of_ble_eq_true rfl))) rfl
          · exact ⟨_, rfl, x1.trans Ext.add, _, .none, rfl, get_last, trivial⟩
        · rw [if_neg hday] at e9
          subst e9
          rw [if_neg hday]
          with_reducible apply XP.retE (C := ⟨"ValueError", true⟩) (st₁ := st9)
          · intro fr F'
            exact Ev.callStar ok (by walk_at "ev") rfl (by walk_at "ev") hk (Nat.le_of_ble_eq_true rfl) (CallT.of c9 (Fx.fit.id F'.fit (Nat.le_of_ble_eq_true rfl))) rfl
          · exact ⟨_, rfl, x1.trans x9, _, rfl⟩
end
section
set_option Elab.async false
set_option maxRecDepth 100000
set_option maxHeartbeats 4000000
set_option simprocs false
set_option linter.unusedVariables false
open PySem PySem.Spec PySem.Calls PyProof.Rows PySem.W
variable {q : Pk}
def dayOnly (l : TX) : Except String (Int × Int × Int) :=
  match isodate l with
  | .error e => .error e
  | .ok (y, mo, d, p) => if p < (l.length : Int) then .error VE else if dayOk y mo d then .ok (y, mo, d) else .error VE
def DateAt (st' : Sto) (r : Out V) : Except String (Int × Int × Int) → Prop
  | .error e => ∃ k, r = .exc ⟨e, k⟩
  | .ok (y, mo, d) => ∃ j, r = .ok (.obj j) ∧ st'[j]? = some (dO y mo d)
theorem pIsodate_ (ok : (C1 q).Ok) {n : Nat} {sep : Option Nat} {l : TX} {v : V} {st : Sto} (hn : st[n]? = some (rd (sepV sep))) (hv : TextOf l v) (hl : Asc l) (hz : l.length ≤ 1000) :
    ∃ r st', Calls (C1 q) true 11 (.glob (.ref 554)) [.obj n, v] [] st r st' ∧ (Ext st st' ∧ DateAt st' r (dayOnly l)) := by
  have hvd : v.isDef = true := by rcases hv with rfl | rfl <;> rfl
  refine Calls.defX (c := C1 q) (f := 554) (binds := [.obj n, v]) 2 ["self", "datestr", "components", "pos"] [("len", .builtin "len"), ("ValueError", .type "ValueError"), ("_takes_ascii", .ref 518), ("date", .ref 276)] true 10 [.obj n, v, .undef, .undef] ok rfl rfl rfl rfl ?_ rfl (by decide) rfl ?_
  · walk_at "hb2"
  · have hta := takes_ (q := q) ok true hv hl hz (st := st)
    walk_at "asg"
    obtain ⟨r1, st1, c1, x1, e1⟩ := isodate_ (q := q) ok hn hl hz
    have hn1 := x1.get hn
    unfold dayOnly
    cases hd : isodate l with
    | error er =>
      rw [hd] at e1
      obtain ⟨kx, rfl⟩ := e1
      with_reducible apply XP.exc (C := ⟨er, kx⟩) (m₁ := [.obj n, .bytes (by8 l), .undef, .undef]) (st₁ := st1)
      · intro fr F'
        refine Ex1.asgTupE ?_ rfl
        walk_at "ev"
      · exact ⟨_, rfl, x1, _, rfl⟩
    | ok x =>
      have hp0 := isodate_pos hd
      obtain ⟨y, mo, d, p⟩ := x
      rw [hd] at e1
      obtain ⟨t, k, rfl, ht, hk, hkl⟩ := e1
      dsimp only at hp0 ht hk ⊢
      with_reducible apply XP.step (m₁ := [.obj n, .bytes (by8 l), .obj k, .int p]) (st₁ := st1)
      · intro fr F'
        refine Ex1.asgTupA (n := t) (vs := [.obj k, .int p]) F' rfl ?_ ht rfl (.cons (.cons .nil)) (StN.cons (St1.locA F' (by walk_at "up")) (StN.cons (St1.locA F' (by walk_at "up")) StN.nil)) rfl rfl rfl rfl
        walk_at "ev"
      by_cases hlen : p < (l.length : Int)
      · rw [if_pos hlen]
        have hr := reprA l hl
        have hf : (reprText ⟨l.toArray⟩).length ≤ sizeLine := Nat.le_trans hr (by show _ ≤ 2 ^ 24; omega)
        have e3 : (reprText ⟨l.toArray⟩).cps.toList.length ≤ 10012 := by
          rw [Array.length_toList]
          exact Nat.le_trans hr (by omega)
        have e1 : (tx "components: ").length = 12 := rfl
        have e4 : (tx "String contains unknown ISO ").length = 28 := rfl
        walk_at "ite"
        · intro _
          with_reducible apply XP.exc
          · intro fr F'
            (with_reducible apply Ex1.raiseA ‹Wd.Ok _› ‹Sh _ _ _› F.excCall_ValueError F.excRaise_ValueError)
            · walk_at "in"
            · with_reducible apply EvL.cons
              · with_reducible apply Ev.bin
                · walk_at "ev"
                · with_reducible apply Ev.bin
                  · walk_at "ev"
                  · walk_at "ev"
                  · refine Bin2.pctS [.lit (tx "components: "), .r] rfl rfl ⟨hf, trivial⟩ ?_ ?_
                    · show l.toArray.size ≤ 1000000
                      rw [List.size_toArray]; omega
                    · simp only [fmt, List.length_append, List.length_nil]
                      omega
                · refine Bin2.cat ?_
                  show (tx "String contains unknown ISO ").toArray.size + (fmt _ _).toArray.size ≤ 2 ^ 24
                  simp only [fmt, List.size_toArray, List.length_append, List.length_nil]
                  omega
              · walk_at "evl"
              · rfl
            · exact Nat.le_of_ble_eq_true rfl
            · rfl
          · exact ⟨_, rfl, x1, _, rfl⟩
        · intro e; simp at e; omega
      · rw [if_neg hlen]
        walk_at "ite"
        · intro e; simp at e; omega
        intro _
        obtain ⟨r9, st9, c9, x9, e9⟩ := dateMake (q := q) ok true (y := y) (mo := mo) (d := d) (st := st1)
        by_cases hday : dayOk y mo d
        · rw [if_pos hday] at e9 ⊢
          obtain ⟨rfl, rfl⟩ := e9
          with_reducible apply XP.ret (v := .obj st1.length) (st₁ := st1 ++ [dO y mo d])
          · intro fr F'
            exact Ev.callStar ok (by walk_at "ev") rfl (by walk_at "ev") hk (Nat.le_of_ble_eq_true rfl) (CallT.of c9 (Fx.fit.id F'.fit (Nat.le_of_ble_eq_true rfl))) rfl
          · exact ⟨_, rfl, x1.trans Ext.add, _, rfl, get_last⟩
        · rw [if_neg hday] at e9 ⊢
          subst e9
          with_reducible apply XP.retE (C := ⟨"ValueError", true⟩) (st₁ := st9)
          · intro fr F'
            exact Ev.callStar ok (by walk_at "ev") rfl (by walk_at "ev") hk (Nat.le_of_ble_eq_true rfl) (CallT.of c9 (Fx.fit.id F'.fit (Nat.le_of_ble_eq_true rfl))) rfl
          · exact ⟨_, rfl, x1.trans x9, _, rfl⟩
def timeOnly (l : TX) : Option (Int × Int × Int × Int × TZ) :=
  match isotime l with
  | none => none
  | some (h, mi, s, us, t) => if clockOk (if h = 24 then 0 else h) mi s us then some (if h = 24 then 0 else h, mi, s, us, t) else none
def TimeAt (st' : Sto) (r : Out V) : Option (Int × Int × Int × Int × TZ) → Prop
  | none => r = .exc ⟨"ValueError", true⟩
  | some (h, mi, s, us, t) => ∃ j v, r = .ok (.obj j) ∧ st'[j]? = some (tmO h mi s us v) ∧ TzAt st' v t
theorem pIsotime_ (ok : (C1 q).Ok) {n : Nat} {sep : Option Nat} {l : TX} {v : V} {st : Sto} (hC : CodeHd (C1 q).base 610 (C1 q).out) (hn : st[n]? = some (rd (sepV sep))) (hv : TextOf l v) (hl : Asc l) (hz : l.length ≤ 1000) :
    ∃ r st', Calls (C1 q) true 7 (.glob (.ref 561)) [.obj n, v] [] st r st' ∧ (Ext st st' ∧ TimeAt st' r (timeOnly l)) := by
  have hvd : v.isDef = true := by rcases hv with rfl | rfl <;> rfl
  refine Calls.defX (c := C1 q) (f := 561) (binds := [.obj n, v]) 2 ["self", "timestr", "components"] [("_takes_ascii", .ref 518), ("time", .ref 167)] true 6 [.obj n, v, .undef] ok rfl rfl rfl rfl ?_ rfl (by decide) rfl ?_
  · walk_at "hb2"
  · have hta := takes_ (q := q) ok true hv hl hz (st := st)
    walk_at "asg"
    obtain ⟨r2, st2, c2, x2, e2⟩ := isotime_ (q := q) ok hC hn hl hz
    unfold timeOnly
    cases hi : isotime l with
    | none =>
      rw [hi] at e2
      obtain rfl : r2 = _ := e2
      walk_at "asgE"
      exact ⟨_, rfl, x2, rfl⟩
    | some x =>
      obtain ⟨h, mi, s, us, tz⟩ := x
      rw [hi] at e2
      obtain ⟨k2, w, rfl, hL, hw, hk2⟩ := e2
      obtain ⟨hwd, hwp⟩ := hw.def
      have hL' : st2[k2]? = some (.list [.int h, .int mi, .int s, .int us, w]) := hL
      walk_at "asg"
      dsimp only
      have X3 : Ext st (st2.set k2 (.list [.int (if h = 24 then 0 else h), .int mi, .int s, .int us, w])) := x2.set hk2 _
      have K3 : (st2.set k2 (.list [.int (if h = 24 then 0 else h), .int mi, .int s, .int us, w]))[k2]? = some (.list [.int (if h = 24 then 0 else h), .int mi, .int s, .int us, w]) := get_set hL'
      have W3 : TzAt (st2.set k2 (.list [.int (if h = 24 then 0 else h), .int mi, .int s, .int us, w])) w tz := hw.set hL'
      with_reducible apply XP.step (m₁ := [.obj n, .bytes (by8 l), .obj k2]) (st₁ := st2.set k2 (.list [.int (if h = 24 then 0 else h), .int mi, .int s, .int us, w]))
      · intro fr F'
        by_cases h24 : h = 24
        · rw [if_pos h24]
          refine Ex1.ite (t := true) (st₁ := st2) (Bt.conv (b := (h == 24)) (by walk_at "bt") (by rw [h24]; rfl)) (fun _ => Ex.cons ?_ Ex.nil) (fun e => nomatch e)
          exact Ex1.setAtL (l := [.int h, .int mi, .int s, .int us, w]) (n := k2) (j := 0) (v := .int 0) (by walk_at "ev") (by walk_at "ev") (by walk_at "ev") hL' (by decide) (by decide) rfl rfl rfl
        · rw [if_neg h24, set_same hL']
          exact Ex1.ite (t := false) (st₁ := st2) (Bt.conv (b := (h == 24)) (by walk_at "bt") (by simpa using h24)) (fun e => nomatch e) fun _ => Ex.nil
      generalize st2.set k2 (.list [.int (if h = 24 then 0 else h), .int mi, .int s, .int us, w]) = S3 at *
      generalize (if h = 24 then 0 else h) = h' at *
      obtain ⟨r9, st9, c9, x9, e9⟩ := tmMake (q := q) ok true (h := h') (mi := mi) (s := s) (us := us) (tz := w) (st := S3) hwd
      by_cases hck : clockOk h' mi s us
      · rw [if_pos hck] at e9 ⊢
        obtain ⟨rfl, rfl⟩ := e9
        with_reducible apply XP.ret (v := .obj S3.length) (st₁ := S3 ++ [tmO h' mi s us w])
        · intro fr F'
          exact Ev.callStar ok (by walk_at "ev") rfl (by walk_at "ev") K3 (Nat.le_of_ble_eq_true rfl) (CallT.of c9 (Fx.fit.id F'.fit (Nat.le_of_ble_eq_true rfl))) rfl
        · exact ⟨_, rfl, X3.trans Ext.add, _, w, rfl, get_last, W3.ext Ext.add⟩
      · rw [if_neg hck] at e9 ⊢
        subst e9
        with_reducible apply XP.retE (C := ⟨"ValueError", true⟩) (st₁ := st9)
        · intro fr F'
          exact Ev.callStar ok (by walk_at "ev") rfl (by walk_at "ev") K3 (Nat.le_of_ble_eq_true rfl) (CallT.of c9 (Fx.fit.id F'.fit (Nat.le_of_ble_eq_true rfl))) rfl
        · exact ⟨_, rfl, X3.trans x9, rfl⟩
end
section
set_option Elab.async false
set_option maxRecDepth 100000
set_option maxHeartbeats 4000000
set_option simprocs false
set_option linter.unusedVariables false
open PySem PySem.Spec PySem.Calls PyProof.Rows PySem.W
variable {q : Pk}
theorem pTzstr_ (ok : (C1 q).Ok) {n : Nat} {sep : Option Nat} {l : TX} {v : V} {st : Sto} (hn : st[n]? = some (rd (sepV sep))) (hv : TextOf l v) (hl : Asc l) (hz : l.length ≤ 1000) :
    ∃ r st', Calls (C1 q) true 6 (.glob (.ref 569)) [.obj n, v] [] st r st' ∧ (Ext st st' ∧ TzOr st' r (parseTz l)) := by
  have hvd : v.isDef = true := by rcases hv with rfl | rfl <;> rfl
  refine Calls.defX (c := C1 q) (f := 569) (binds := [.obj n, v, .bool true]) 3 ["self", "tzstr", "zero_as_utc"] [("_takes_ascii", .ref 518)] true 5 [.obj n, v, .bool true] ok rfl rfl rfl rfl ?_ rfl (by decide) rfl ?_
  · intro s ρ xs ks X rx rk
    (repeat (rcases rx with _ | ⟨r1, rx⟩)); (repeat (rcases rk with _ | ⟨k1, rk⟩))
    refine ⟨[_, _, _], kp_binds ‹Frag.In _ _› (fun S => rfl), ?_⟩
    walk_at "reps"
  · have hta := takes_ (q := q) ok true hv hl hz (st := st)
    walk_at "asg"
    obtain ⟨r1, st1, c1, x1, e1⟩ := tzstr_ (q := q) ok (n := n) (l := l) (st := st) (args := [.obj n, .bytes (by8 l)]) (kw := [("zero_as_utc", .bool true)]) hn hl hz (by
      rintro s ρ xs ks X rx rk fd ⟨oc, od, osl, h⟩
      cases h
      (repeat (rcases rx with _ | ⟨r1, rx⟩)); (repeat (rcases rk with _ | ⟨k1, rk⟩))
      refine ⟨[_, _, _], kp_binds ‹Frag.In _ _› (fun S => rfl), ?_⟩
      walk_at "reps")
    cases ht : parseTz l with
    | none =>
      rw [ht] at e1
      obtain rfl : r1 = _ := e1
      walk_at "retE"
      exact ⟨_, rfl, x1, rfl⟩
    | some t =>
      rw [ht] at e1
      obtain ⟨w, rfl, hw⟩ := e1
      walk_at "ret"
      exact ⟨_, rfl, x1, w, rfl, hw⟩
theorem lawNumber_ (ok : (C1 q).Ok) (z : Bool) (hz : z = true) {y mo d : Int} {st : Sto} : Calls (C1 q) z 1 (.glob (.ref 633)) [.int y, .int mo, .int d] [] st (.ok (.int (lawNum y mo d))) (st ++ [.tuple [.int (lawY y mo), .int (lawM mo)]]) := Calls.of <| by
  refine Calls.defX (c := C1 q) (f := 633) (binds := [.int y, .int mo, .int d]) 3 ["year", "month", "day"] [] z 0 [.int y, .int mo, .int d] ok rfl rfl rfl rfl ?_ rfl (by decide) rfl ?_
  · walk_at "hb3"
  · with_reducible apply XP.step (m₁ := [.int (lawY y mo), .int (lawM mo), .int d]) (st₁ := st ++ [.tuple [.int (lawY y mo), .int (lawM mo)]])
    · intro fr F'
      refine Ex1.asgTupA (n := st.length) (vs := [.int (lawY y mo), .int (lawM mo)]) F' hz ?_ get_last rfl (.cons (.cons .nil)) (StN.cons (St1.locA F' (by walk_at "up")) (StN.cons (St1.locA F' (by walk_at "up")) StN.nil)) rfl rfl rfl rfl
      unfold lawY lawM
      by_cases h : mo > 2
      · rw [if_pos h, if_pos h]
        exact Ev.ifexp (t := true) (st₁ := st) (Bt.conv (b := decide (mo > 2)) (by walk_at "bt") (decide_eq_true h)) (fun _ => by walk_at "ev") (fun e => nomatch e)
      · rw [if_neg h, if_neg h]
        exact Ev.ifexp (t := false) (st₁ := st) (Bt.conv (b := decide (mo > 2)) (by walk_at "bt") (decide_eq_false h)) (fun e => nomatch e) fun _ => by walk_at "ev"
    walk_at "ret"
    exact ⟨_, rfl, rfl, rfl⟩
theorem lawDay_ (ok : (C1 q).Ok) (z : Bool) (hz : z = true) {n : Int} {st : Sto} : Calls (C1 q) z 1 (.glob (.ref 640)) [.int n] [] st (.ok (.obj (st.length + 1))) (st ++ [.tuple [.int ((n - 1) / 146097), .int (ldR n)]] ++ [.tuple [.int (lawDayY n), .int (lawDayM n), .int (lawDayD n)]]) := Calls.of <| by
  refine Calls.defX (c := C1 q) (f := 640) (binds := [.int n]) 1 ["number", "ages", "rest", "year", "month", "day"] [("divmod", .builtin "divmod")] z 0 [.int n, .undef, .undef, .undef, .undef, .undef] ok rfl rfl rfl rfl ?_ rfl (by decide) rfl ?_
  · walk_at "hb1"
  · have hdm : ∀ fr, CallT (C1 q) fr (.builtin "divmod") [.int (n - 1), .int 146097] [] st (.ok (.obj st.length)) (st ++ [.tuple [.int ((n - 1) / 146097), .int ((n - 1) % 146097)]]) := fun fr => CallT.divmod (by decide) (by decide)
    with_reducible apply XP.step (m₁ := [.int n, .int ((n - 1) / 146097), .int (ldR n), .undef, .undef, .undef]) (st₁ := st ++ [.tuple [.int ((n - 1) / 146097), .int (ldR n)]])
    · intro fr F'
      refine Ex1.asgTupA (n := st.length) (vs := [.int ((n - 1) / 146097), .int (ldR n)]) F' hz ?_ get_last rfl (.cons (.cons .nil)) (StN.cons (St1.locA F' (by walk_at "up")) (StN.cons (St1.locA F' (by walk_at "up")) StN.nil)) rfl rfl rfl rfl
      unfold ldR
      walk_at "ev"
    have e1 : (ldR n - ldR n / 1460 + ldR n / 36524 - ldR n / 146096) / 365 = ldY n := rfl
    have e2 : ldR n - (365 * ldY n + ldY n / 4 - ldY n / 100) = ldS n := rfl
    have e3 : (5 * ldS n + 2) / 153 = ldM n := rfl
    have e4 : ldS n - (153 * ldM n + 2) / 5 + 1 = lawDayD n := rfl
    generalize ldR n = R at *
    walk_at "asg"
    rw [e1]
    walk_at "asg"
    rw [e2]
    walk_at "asg"
    rw [e3]
    walk_at "asg"
    rw [e4]
    walk_at "ret"
    refine ⟨_, rfl, ?_, rfl⟩
    simp
def offV : Option Int → V
  | none => .none
  | some i => .int i
theorem lawOffset_ (ok : (C1 q).Ok) (z : Bool) {v : V} {t : TZ} {st : Sto} (h : TzAt st v t) : ∃ r st', Calls (C1 q) z 4 (.glob (.ref 647)) [v] [] st r st' ∧ (Ext st st' ∧ r = .ok (offV (offI t))) := by
  obtain ⟨hd, hp⟩ := h.def
  refine Calls.defX (c := C1 q) (f := 647) (binds := [v]) 1 ["zone"] [] z 3 [v] ok rfl rfl rfl rfl ?_ rfl (by decide) rfl ?_
  · walk_at "hb1"
  · cases v <;> cases t <;> first | exact h.elim | skip
    · with_reducible apply XP.ret (v := .none) (st₁ := st)
      · intro fr F'
        exact Ev.ifexp (t := true) (st₁ := st) (Bt.cmpA (by walk_at "ev") (by walk_at "ev") Cmp2.isNN rfl) (fun _ => by walk_at "ev") (fun e => nomatch e)
      · exact ⟨_, rfl, Ext.refl, rfl⟩
    · rename_i n
      have hn : st[n]? = some (.inst 441 []) := h
      have h1 := utcOff (q := q) ok z (v := .none) hn
      have g1 : (st ++ [td 0 0 0])[st.length]? = some (td 0 0 0) := get_last
      have h2 := total_ (q := q) ok z g1
      with_reducible apply XP.ret (v := .int (0 * 86400 + 0)) (st₁ := st ++ [td 0 0 0])
      · intro fr F'
        exact Ev.ifexp (t := false) (st₁ := st) (Bt.cmpA (by walk_at "ev") (by walk_at "ev") (Cmp2.isN rfl) rfl) (fun e => nomatch e) fun _ => by walk_at "ev"
      · exact ⟨_, rfl, Ext.add, rfl⟩
    · rename_i n s
      obtain ⟨k, hn, hk⟩ := h
      have h1 := offOff (q := q) ok z (v := .none) hn
      have h2 := total_ (q := q) ok z hk
      with_reducible apply XP.ret (v := .int (s / 86400 * 86400 + s % 86400)) (st₁ := st)
      · intro fr F'
        exact Ev.ifexp (t := false) (st₁ := st) (Bt.cmpA (by walk_at "ev") (by walk_at "ev") (Cmp2.isN rfl) rfl) (fun e => nomatch e) fun _ => by walk_at "ev"
      · refine ⟨_, rfl, Ext.refl, ?_⟩
        rw [show s / 86400 * 86400 + s % 86400 = s by omega]
        rfl
end
end
end Mine
section
set_option Elab.async false
set_option maxRecDepth 100000
set_option linter.unusedVariables false
namespace Mine
open PySem PySem.Spec PySem.Calls PyProof.Rows PySem.W
section
variable {c : Wd} {fr : Fx} {G : Shp} {b : List Stmt} {m m' m₁ m₂ m₃ : Loc} {st st₁ st₂ st₃ : Sto} {P : Out FV → Loc → Sto → Prop}
theorem XP.keep (hx : Ext st st₁) (h : ∀ st', Ext st st' → XP c G b m st' P) : XP c G b m st₁ P := h _ hx
/-- a, b = e1, e2 on two local names -/
theorem Ex1.asgP2 (F : Sh c G fr) (hz : G.z = true) {a b : Str} {pa pb tpos p2 pos : Pos} {k1 k2 : Nat} {e1 e2 : Expr} {v1 v2 : V}
    (h1 : Ev c fr e1 m st (.ok v1) st₁) (h2 : Ev c fr e2 m st₁ (.ok v2) st₂) (u2 : Up G.names m b v2 m₁) (u1 : Up G.names m₁ a v1 m') (ha : a ∈ G.names) (hb : b ∈ G.names)
    (hl : (pb.line == pa.line) = true) (hd : ([a, b] : List Str).eraseDups.length = 2) (hs : ([e1, e2].any starE) = false) (h3 : [e1, e2].all (foldedForSure 8) = false) (h4 : [e1, e2].all (constantsAlone 8) = false)
    (hs1 : starred e1 = false) (hs2 : starred e2 = false) :
    Ex1 c fr (.Assign [.Tuple [.Name a pa, .Name b pb] k1 tpos] (.Tuple [e1, e2] k2 p2) pos) m st (.ok .next) m' (st₂ ++ [.tuple [v1, v2]]) :=
  Ex1.asgSwap (xs := [a, b]) F.fri.own (F.fit.z hz) (Ev.tuple (.cons h1 (.cons h2 .nil hs2) hs1) (Nat.le_of_ble_eq_true rfl)) get_last rfl (StN.cons (St1.locA F u2) (StN.cons (St1.locA F u1) StN.nil)) rfl
    (swapped2 (blockKind_fn F.fri.own) (local_of F ha) (local_of F hb) hl hd hs h3 h4)
theorem Ex1.asgP3 (F : Sh c G fr) (hz : G.z = true) {a b d : Str} {pa pb pd tpos p2 pos : Pos} {k1 k2 : Nat} {e1 e2 e3 : Expr} {v1 v2 v3 : V}
    (h1 : Ev c fr e1 m st (.ok v1) st₁) (h2 : Ev c fr e2 m st₁ (.ok v2) st₂) (h3 : Ev c fr e3 m st₂ (.ok v3) st₃) (u3 : Up G.names m d v3 m₁) (u2 : Up G.names m₁ b v2 m₂) (u1 : Up G.names m₂ a v1 m') (ha : a ∈ G.names) (hb : b ∈ G.names) (hd' : d ∈ G.names)
    (hl : (pb.line == pa.line) = true) (hl' : (pd.line == pa.line) = true) (hd : ([a, b, d] : List Str).eraseDups.length = 3) (hs : ([e1, e2, e3].any starE) = false) (h5 : [e1, e2, e3].all (foldedForSure 8) = false) (h4 : [e1, e2, e3].all (constantsAlone 8) = false)
    (hs1 : starred e1 = false) (hs2 : starred e2 = false) (hs3 : starred e3 = false) :
    Ex1 c fr (.Assign [.Tuple [.Name a pa, .Name b pb, .Name d pd] k1 tpos] (.Tuple [e1, e2, e3] k2 p2) pos) m st (.ok .next) m' (st₃ ++ [.tuple [v1, v2, v3]]) :=
  Ex1.asgSwap (xs := [a, b, d]) F.fri.own (F.fit.z hz) (Ev.tuple (.cons h1 (.cons h2 (.cons h3 .nil hs3) hs2) hs1) (Nat.le_of_ble_eq_true rfl)) get_last rfl (StN.cons (St1.locA F u3) (StN.cons (St1.locA F u2) (StN.cons (St1.locA F u1) StN.nil))) rfl
    (swapped3 (blockKind_fn F.fri.own) (local_of F ha) (local_of F hb) (local_of F hd') hl hl' hd hs h5 h4)
/-- two constants -/
theorem Ex1.asgC2 (F : Sh c G fr) (hz : G.z = true) {a b : Str} {pa pb tpos p2 pos : Pos} {k1 k2 : Nat} {e1 e2 : Expr} {v1 v2 : V}
    (h1 : Ev c fr e1 m st (.ok v1) st₁) (h2 : Ev c fr e2 m st₁ (.ok v2) st₂) (u1 : Up G.names m a v1 m₁) (u2 : Up G.names m₁ b v2 m')
    (hs : ([e1, e2].any starE) = false) (h3 : [e1, e2].all (foldedForSure 8) = true) (hs1 : starred e1 = false) (hs2 : starred e2 = false) :
    Ex1 c fr (.Assign [.Tuple [.Name a pa, .Name b pb] k1 tpos] (.Tuple [e1, e2] k2 p2) pos) m st (.ok .next) m' (st₂ ++ [.tuple [v1, v2]]) :=
  Ex1.asgTupA F hz (Ev.tuple (.cons h1 (.cons h2 .nil hs2) hs1) (Nat.le_of_ble_eq_true rfl)) get_last rfl (.cons (.cons .nil)) (StN.cons (St1.locA F u1) (StN.cons (St1.locA F u2) StN.nil)) rfl
    (swapConst2 (blockKind_fn F.fri.own) hs h3) rfl rfl
/-- the first name is a cell's -/
theorem Ex1.asgX2 (F : Sh c G fr) (ht : G.top = true) (hz : G.z = true) {a b : Str} {pa pb tpos p2 pos : Pos} {k1 k2 : Nat} {e1 e2 : Expr} {v1 v2 : V} {n : Nat} {o : Option V}
    (h1 : Ev c fr e1 m st (.ok v1) st₁) (h2 : Ev c fr e2 m st₁ (.ok v2) st₂) (hx : (a, n) ∈ G.cells) (ho : st₂[n]? = some (.cell o)) (u2 : Up G.names m b v2 m')
    (hs : ([e1, e2].any starE) = false) (hs1 : starred e1 = false) (hs2 : starred e2 = false) :
    Ex1 c fr (.Assign [.Tuple [.Name a pa, .Name b pb] k1 tpos] (.Tuple [e1, e2] k2 p2) pos) m st (.ok .next) m' ((st₂ ++ [MObj.tuple [v1, v2]]).set n (MObj.cell (some v1))) :=
  Ex1.asgTupA F hz (Ev.tuple (.cons h1 (.cons h2 .nil hs2) hs1) (Nat.le_of_ble_eq_true rfl)) get_last rfl (.cons (.cons .nil)) (StN.cons (St1.cellA F ht hx (Ext.get Ext.add ho)) (StN.cons (St1.locA F u2) StN.nil)) rfl
    (swapCell2 (blockKind_fn F.fri.own) (F.celk ht _ _ hx) hs) rfl rfl
/-- the second part may make objects: the first is known -/
theorem Ev.andT {e f : Expr} {pos : Pos} {r : Out V} (h1 : Ev c fr e m st (.ok (.bool true)) st₁) (h2 : Ev c fr f m st₁ r st₂) : Ev c fr (.BoolOp .And [e, f] pos) m st r st₂ := fun ρ => by
  show TriAt c fr Rep ρ (do
    let v ← eval e fr.env
    standAt pos
    let t ← holding [v] (truthy v)
    match BoolOp.And, t with
    | .And, false | .Or, true => pure v
    | _, _ => boolOp pos .And [eval f fr.env]) _ _ _ _ _
  refine (h1 ρ).bind fun ρ₁ x p rx => TriAt.standThen ((TriAt.holding (Truth.bool m ρ₁ x rx)).bind fun ρ₂ y p₂ ry => ?_)
  rw [show y = true from ry]
  exact h2 ρ₂
theorem Bt.andT {e f : Expr} {pos : Pos} {d : Bool} (h1 : Bt c fr e m st (.ok true) st₁) (h2 : Bt c fr f m st₁ (.ok d) st₂) : Bt c fr (.BoolOp .And [e, f] pos) m st (.ok d) st₂ := fun ρ => by
  show TriAt c fr RepB ρ (do
    match BoolOp.And, ← isTrue e fr.env (eval e fr.env) with
    | .And, false => pure false
    | .Or, true => pure true
    | _, _ => allTrue .And [f] fr.env) _ _ _ _ _
  refine (h1 ρ).bind fun ρ₁ x p rx => ?_
  rw [show x = true from rx]
  show TriAt c fr RepB ρ₁ (do
    match BoolOp.And, ← isTrue f fr.env (eval f fr.env) with
    | .And, false => pure false
    | .Or, true => pure true
    | _, _ => allTrue .And [] fr.env) _ _ _ _ _
  refine (h2 ρ₁).bind fun ρ₂ y p₂ ry => ?_
  rw [show y = d from ry]
  cases d <;> exact .pure rfl
theorem Bt.andF {e f : Expr} {pos : Pos} (h1 : Bt c fr e m st (.ok false) st₁) : Bt c fr (.BoolOp .And [e, f] pos) m st (.ok false) st₁ := fun ρ => by
  show TriAt c fr RepB ρ (do
    match BoolOp.And, ← isTrue e fr.env (eval e fr.env) with
    | .And, false => pure false
    | .Or, true => pure true
    | _, _ => allTrue .And [f] fr.env) _ _ _ _ _
  refine (h1 ρ).bind fun ρ₁ x p rx => ?_
  rw [show x = false from rx]
  exact .pure rfl
theorem Bt.orF {e f : Expr} {pos : Pos} {d : Bool} (h1 : Bt c fr e m st (.ok false) st₁) (h2 : Bt c fr f m st₁ (.ok d) st₂) : Bt c fr (.BoolOp .Or [e, f] pos) m st (.ok d) st₂ := fun ρ => by
  show TriAt c fr RepB ρ (do
    match BoolOp.Or, ← isTrue e fr.env (eval e fr.env) with
    | .And, false => pure false
    | .Or, true => pure true
    | _, _ => allTrue .Or [f] fr.env) _ _ _ _ _
  refine (h1 ρ).bind fun ρ₁ x p rx => ?_
  rw [show x = false from rx]
  show TriAt c fr RepB ρ₁ (do
    match BoolOp.Or, ← isTrue f fr.env (eval f fr.env) with
    | .And, false => pure false
    | .Or, true => pure true
    | _, _ => allTrue .Or [] fr.env) _ _ _ _ _
  refine (h2 ρ₁).bind fun ρ₂ y p₂ ry => ?_
  rw [show y = d from ry]
  cases d <;> exact .pure rfl
theorem Ev.notB {e : Expr} {pos : Pos} {b : Bool} (h : Ev c fr e m st (.ok (.bool b)) st₁) : Ev c fr (.UnaryOp .Not e pos) m st (.ok (.bool (!b))) st₁ := Ev.not h fun ρ x r => Truth.bool m ρ x r
end
/-- the sign as the law has it -/
def sgS (b : Bool) : Str := ⟨(sgn b).toArray⟩
theorem pick2 {a b : V} {i : Int} (h0 : 0 ≤ i) (h1 : i < 2) : ([a, b] : List V)[i.toNat]? = some (if i = 1 then b else a) := by
  have : i = 0 ∨ i = 1 := by omega
  rcases this with rfl | rfl <;> rfl
/-- the day alone -/
theorem dayOnly_of {t : TX} {whole refused : Bool} {y mo d : Int} (h : DTx t whole refused y mo d) : (refused = false ∧ dayOnly t = .ok (y, mo, d)) ∨ (refused = true ∧ dayOnly t = .error VE) := by
  have := h.fit [] (fun _ => .inl rfl) (fun _ => rfl)
  unfold DayT at this
  rw [List.append_nil] at this
  rcases this with ⟨h1, h2, h3⟩ | ⟨h1, h2 | ⟨y', mo', d', h2, h3⟩⟩
  · refine .inl ⟨h1, ?_⟩
    unfold dayOnly
    rw [h2]
    dsimp only
    rw [if_neg (by omega), if_pos h3]
  · refine .inr ⟨h1, ?_⟩
    unfold dayOnly
    rw [h2]
  · refine .inr ⟨h1, ?_⟩
    unfold dayOnly
    rw [h2]
    dsimp only
    rw [if_neg (by omega), if_neg h3]
end Mine
end
section
set_option Elab.async false
set_option maxRecDepth 100000
set_option linter.unusedVariables false
namespace Mine
open PySem PySem.Spec PySem.Calls PyProof.Rows PySem.W
section
variable {c : Wd} {fr : Fx} {m m' m₁ m₂ : Loc} {st st₁ st₂ st₃ : Sto} {b : Bool} {y mo d w o : Int} {r : Expr} {pos pp : Pos} {n kk : Nat}
theorem Ev.fY (h2 : Ev c fr r m st (.ok (.int y)) st₂) (a1 : 0 ≤ y) (a2 : y < 10000) :
    Ev c fr (.BinOp (.Constant (.str "%04d") kk pp) .Mod r pos) m st (.ok (.str ⟨(tY y).toArray⟩)) st₂ :=
  Ev.bin Ev.str h2 (Bin2.pctI [.d0 4] rfl rfl ⟨by omega, trivial⟩ (by omega) (by
    show (tY y).length ≤ 1000000
    rw [tY_eq a1 a2, dgs_len]; decide))
theorem Ev.fYM (h2 : Ev c fr r m st (.ok (.obj n)) st₂) (hn : st₂[n]? = some (.tuple [.int y, .int mo])) (a1 : 0 ≤ y) (a2 : y < 10000) (a3 : 0 ≤ mo) (a4 : mo < 100) :
    Ev c fr (.BinOp (.Constant (.str "%04d-%02d") kk pp) .Mod r pos) m st (.ok (.str ⟨(tYM y mo).toArray⟩)) st₂ :=
  Ev.pct [.d0 4, .lit [45], .d0 2] Ev.str h2 hn rfl rfl ⟨by omega, by omega, trivial⟩ (by
    show (tYM y mo).length ≤ 1000000
    rw [tYM_eq a1 a2 a3 a4]; simp [dgs_len])
theorem Ev.fYMD (h2 : Ev c fr r m st (.ok (.obj n)) st₂) (hn : st₂[n]? = some (.tuple [.int y, .str (sgS b), .int mo, .str (sgS b), .int d])) (a1 : 0 ≤ y) (a2 : y < 10000) (a3 : 0 ≤ mo) (a4 : mo < 100) (a5 : 0 ≤ d) (a6 : d < 100) :
    Ev c fr (.BinOp (.Constant (.str "%04d%s%02d%s%02d") kk pp) .Mod r pos) m st (.ok (.str ⟨(tYMD b y mo d).toArray⟩)) st₂ :=
  Ev.pct [.d0 4, .s, .d0 2, .s, .d0 2] Ev.str h2 hn rfl rfl ⟨by omega, by omega, by omega, trivial⟩ (by
    show (tYMD b y mo d).length ≤ 1000000
    rw [tYMD_eq a1 a2 a3 a4 a5 a6]; have := tYMD_len (b := b) (y := y.toNat) (mo := mo.toNat) (d := d.toNat); omega)
theorem Ev.fWD (h2 : Ev c fr r m st (.ok (.obj n)) st₂) (hn : st₂[n]? = some (.tuple [.int y, .str (sgS b), .int w, .str (sgS b), .int d])) (a1 : 0 ≤ y) (a2 : y < 10000) (a3 : 0 ≤ w) (a4 : w < 100) (a5 : 0 ≤ d) (a6 : d < 10) :
    Ev c fr (.BinOp (.Constant (.str "%04d%sW%02d%s%d") kk pp) .Mod r pos) m st (.ok (.str ⟨(tWD b y w d).toArray⟩)) st₂ :=
  Ev.pct [.d0 4, .s, .lit [87], .d0 2, .s, .d] Ev.str h2 hn rfl rfl ⟨by omega, by omega, by omega, trivial⟩ (by
    show (tWD b y w d).length ≤ 1000000
    rw [tWD_eq a1 a2 a3 a4 a5 a6]; have := tWD_len (b := b) (y := y.toNat) (w := w.toNat) (d := d.toNat); omega)
theorem Ev.fW (h2 : Ev c fr r m st (.ok (.obj n)) st₂) (hn : st₂[n]? = some (.tuple [.int y, .str (sgS b), .int w])) (a1 : 0 ≤ y) (a2 : y < 10000) (a3 : 0 ≤ w) (a4 : w < 100) :
    Ev c fr (.BinOp (.Constant (.str "%04d%sW%02d") kk pp) .Mod r pos) m st (.ok (.str ⟨(tW b y w).toArray⟩)) st₂ :=
  Ev.pct [.d0 4, .s, .lit [87], .d0 2] Ev.str h2 hn rfl rfl ⟨by omega, by omega, trivial⟩ (by
    show (tW b y w).length ≤ 1000000
    rw [tW_eq a1 a2 a3 a4]; have := sgn_len b; simp only [List.length_append, dgs_len, List.length_cons, List.length_nil]; omega)
theorem Ev.fYD (h2 : Ev c fr r m st (.ok (.obj n)) st₂) (hn : st₂[n]? = some (.tuple [.int y, .str (sgS b), .int o])) (a1 : 0 ≤ y) (a2 : y < 10000) (a3 : 0 ≤ o) (a4 : o < 1000) :
    Ev c fr (.BinOp (.Constant (.str "%04d%s%03d") kk pp) .Mod r pos) m st (.ok (.str ⟨(tYD b y o).toArray⟩)) st₂ :=
  Ev.pct [.d0 4, .s, .d0 3] Ev.str h2 hn rfl rfl ⟨by omega, by omega, trivial⟩ (by
    show (tYD b y o).length ≤ 1000000
    rw [tYD_eq a1 a2 a3 a4]; have := tYD_len (b := b) (y := y.toNat) (w := o.toNat); omega)
/-- o[i], x = e1, e2 -/
theorem Ex1.asgSB {G : Shp} (F : Sh c G fr) (hz : G.z = true) {o i e1 e2 : Expr} {spos npos tpos p2 pos : Pos} {x : Str} {k1 k2 j : Nat} {q : Int} {l : List V} {v1 v2 : V} (h1 : Ev c fr e1 m st (.ok v1) st₁) (h2 : Ev c fr e2 m st₁ (.ok v2) st₂) (h3 : Ev c fr o m (st₂ ++ [.tuple [v1, v2]]) (.ok (.obj j)) (st₂ ++ [.tuple [v1, v2]])) (h4 : Ev c fr i m (st₂ ++ [.tuple [v1, v2]]) (.ok (.int q)) (st₂ ++ [.tuple [v1, v2]]))
    (ho : st₂[j]? = some (.list l)) (h0 : 0 ≤ q) (hq : q < 1000) (hl : decide (q < (l.length : Int)) = true) (hu : Up G.names m x v2 m') (hs : ([e1, e2].any starE) = false) (hs1 : starred e1 = false) (hs2 : starred e2 = false) :
    Ex1 c fr (.Assign [.Tuple [.Subscript o i spos, .Name x npos] k1 tpos] (.Tuple [e1, e2] k2 p2) pos) m st (.ok .next) m' ((st₂ ++ [MObj.tuple [v1, v2]]).set j (MObj.list (l.set q.toNat v1))) :=
  Ex1.asgSubName F hz (Ev.tuple (.cons h1 (.cons h2 .nil hs2) hs1) (Nat.le_of_ble_eq_true rfl)) get_last h3 h4 (Ext.get Ext.add ho) h0 hq (of_decide_eq_true hl) hu rfl (swapSub2 (blockKind_fn F.fri.own) hs)
end
end Mine
end
section
set_option Elab.async false
set_option maxRecDepth 100000
set_option linter.unusedVariables false
namespace Mine
open PySem PySem.Spec PySem.Calls PyProof.Rows PySem.W PySem.Builtin PySem.Builtin.Str
theorem range_take (l : TX) : ∀ k, (List.range k).filterMap (l.toArray[·]?) = l.take k
  | 0 => by simp
  | k + 1 => by
    rw [List.range_succ, List.filterMap_append, range_take l k, List.take_add_one]
    congr 1
    cases h : l[k]? <;> simp [h]
theorem idx_hi (n : Nat) (j : Int) : strSliceIndices none (some j) 1 n = List.range (max 0 (min (if j < 0 then j + n else j) n)).toNat := by
  unfold strSliceIndices sliceRange
  simp only [show (1 : Int) > 0 by decide, if_true]
  generalize max 0 (min (if j < 0 then j + (n : Int) else j) (n : Int)) = t
  have hc : (if (0 : Int) < t then (t - 0 + 1 - 1) / 1 else 0).toNat = t.toNat := by
    split
    · rw [Int.ediv_one]; omega
    · omega
  rw [hc]
  have : (fun (k : Nat) => ((0 : Int) + 1 * (k : Int)).toNat) = _root_.id := by
    funext k
    show _ = k
    omega
  rw [this, List.map_id]
theorem slice_hi (l : TX) (j : Int) : Txt.slice ⟨l.toArray⟩ none (some j) = ⟨(l.take (max 0 (min (if j < 0 then j + l.length else j) l.length)).toNat).toArray⟩ := by
  unfold Txt.slice
  have hl : (⟨l.toArray⟩ : Str).length = l.length := by show l.toArray.size = _; simp
  rw [hl, idx_hi]
  generalize ht : (max 0 (min (if j < 0 then j + (l.length : Int) else j) (l.length : Int))).toNat = t
  rw [List.length_range]
  by_cases h : t = l.length
  · rw [if_pos (by rw [h]; simp), h, List.take_length]
  · rw [if_neg (by simpa using h), range_take]
theorem slice_upto (l : TX) {j : Int} (h : 0 ≤ j) : Txt.slice ⟨l.toArray⟩ none (some j) = ⟨(l.take j.toNat).toArray⟩ := by
  rw [slice_hi, if_neg (by omega)]
  have : (max 0 (min j (l.length : Int))).toNat = min j.toNat l.length := by omega
  rw [this]
  by_cases h' : j.toNat ≤ l.length
  · rw [Nat.min_eq_left h']
  · rw [Nat.min_eq_right (by omega), List.take_length, List.take_of_length_le (by omega)]
theorem slice_last (l : TX) : Txt.slice ⟨l.toArray⟩ none (some (-1)) = ⟨l.dropLast.toArray⟩ := by
  rw [slice_hi, if_pos (by decide)]
  have : (max 0 (min (-1 + (l.length : Int)) (l.length : Int))).toNat = l.length - 1 := by omega
  rw [this, List.dropLast_eq_take]
theorem cat_eq (l k : TX) : (⟨l.toArray⟩ : Str) ++ (⟨k.toArray⟩ : Str) = ⟨(l ++ k).toArray⟩ := by
  have e : ((⟨l.toArray⟩ : Str) ++ (⟨k.toArray⟩ : Str)).cps = (l ++ k).toArray := by simp [Str.cps_append]
  exact congrArg Str.mk e
section
variable {c : Wd} {fr : Fx} {m m' m₁ m₂ : Loc} {st st₁ st₂ st₃ : Sto} {b : Bool} {y mo d w o : Int} {r : Expr} {pos pp : Pos} {n kk : Nat} {l k : TX}
theorem Bin2.cat8 (hs : l.length + k.length ≤ 100000) : Bin2 c fr .Add (.str ⟨l.toArray⟩) (.str ⟨k.toArray⟩) (.str ⟨(l ++ k).toArray⟩) := by
  rw [← cat_eq]
  refine Bin2.cat ?_
  show l.toArray.size + k.toArray.size ≤ 2 ^ 24
  rw [List.size_toArray, List.size_toArray]
  omega
theorem CallT.intT (h : l.all isDig = true) (h0 : l ≠ []) (hl : l.length ≤ 640) : CallT c fr (.type "int") [.str ⟨l.toArray⟩] [] st (.ok (.int (num l : Int))) st := by
  refine CallT.intS ?_ (by show l.toArray.size ≤ 640; simpa using hl)
  have := int_by8 h h0 hl
  rwa [strOfB_by8 (digs_asc h)] at this
theorem Cut.hiS {j : Int} (hz : l.length ≤ 1000) (h : 0 ≤ j) : Cut c fr st (.str ⟨l.toArray⟩) .none (.int j) (.ok (.str ⟨(l.take j.toNat).toArray⟩)) st := by
  rw [← slice_upto l h]
  exact Cut.str (i := none) (j := some j) trivial rfl (by show l.toArray.size ≤ 100000; rw [List.size_toArray]; omega)
theorem Cut.lastS (hz : l.length ≤ 1000) : Cut c fr st (.str ⟨l.toArray⟩) .none (.int (-1)) (.ok (.str ⟨l.dropLast.toArray⟩)) st := by
  rw [← slice_last l]
  exact Cut.str (i := none) (j := some (-1)) trivial rfl (by show l.toArray.size ≤ 100000; rw [List.size_toArray]; omega)
theorem Ev.f2 (h2 : Ev c fr r m st (.ok (.int y)) st₂) (a1 : 0 ≤ y) (a2 : y < 100) :
    Ev c fr (.BinOp (.Constant (.str "%02d") kk pp) .Mod r pos) m st (.ok (.str ⟨(dgs 2 y.toNat).toArray⟩)) st₂ := by
  have e : fmt [.d0 2] [.int y] = dgs 2 y.toNat := by
    show dz true (some 2) y ++ [] = _
    rw [dz2 a1 a2, List.append_nil]
  have := Bin2.pctI (c := c) (fr := fr) [.d0 2] (X := "%02d") (i := y) rfl rfl ⟨by omega, trivial⟩ (by omega) (by rw [e, dgs_len]; decide)
  rw [e] at this
  exact Ev.bin Ev.str h2 this
theorem Ev.f9 (h2 : Ev c fr r m st (.ok (.int y)) st₂) (a1 : 0 ≤ y) (a2 : y < 1000000000) :
    Ev c fr (.BinOp (.Constant (.str "%09d") kk pp) .Mod r pos) m st (.ok (.str ⟨(dgs 9 y.toNat).toArray⟩)) st₂ := by
  have e : fmt [.d0 9] [.int y] = dgs 9 y.toNat := by
    show dz true (some 9) y ++ [] = _
    rw [dz9 a1 a2, List.append_nil]
  have := Bin2.pctI (c := c) (fr := fr) [.d0 9] (X := "%09d") (i := y) rfl rfl ⟨by omega, trivial⟩ (by omega) (by rw [e, dgs_len]; decide)
  rw [e] at this
  exact Ev.bin Ev.str h2 this
theorem Ev.fHM (h2 : Ev c fr r m st (.ok (.obj n)) st₂) (hn : st₂[n]? = some (.tuple [.int y, .str ⟨(col b).toArray⟩, .int d])) (a1 : 0 ≤ y) (a2 : y < 100) (a3 : 0 ≤ d) (a4 : d < 100) :
    Ev c fr (.BinOp (.Constant (.str "%02d%s%02d") kk pp) .Mod r pos) m st (.ok (.str ⟨(dgs 2 y.toNat ++ (col b ++ dgs 2 d.toNat)).toArray⟩)) st₂ := by
  have e : fmt [.d0 2, .s, .d0 2] [.int y, .str ⟨(col b).toArray⟩, .int d] = dgs 2 y.toNat ++ (col b ++ dgs 2 d.toNat) := by
    show dz true (some 2) y ++ (col b ++ (dz true (some 2) d ++ [])) = _
    rw [dz2 a1 a2, dz2 a3 a4, List.append_nil]
  have := Ev.pct (pos := pos) [.d0 2, .s, .d0 2] (Ev.str (k := kk) (pos := pp) (x := "%02d%s%02d")) h2 hn rfl rfl ⟨by omega, by omega, trivial⟩ (by rw [e]; have := col_len b; simp only [List.length_append, dgs_len]; rw [this]; split <;> decide)
  rw [e] at this
  exact this
end
theorem Ev.sgn {c : Wd} {fr : Fx} {m : Loc} {st : Sto} {e : Expr} {b : Bool} {k1 k2 : Nat} {p1 p2 pos : Pos} (h : Bt c fr e m st (.ok b) st) : Ev c fr (.IfExp e (.Constant (.str "-") k1 p1) (.Constant (.str "+") k2 p2) pos) m st (.ok (.str ⟨(pm b).toArray⟩)) st := by
  cases b
  · exact Ev.ifexp h (fun e => nomatch e) (fun _ => Ev.conv Ev.str rfl)
  · exact Ev.ifexp h (fun _ => Ev.conv Ev.str rfl) (fun e => nomatch e)
end Mine
end
namespace Mine
section
set_option maxRecDepth 100000
open PySem PySem.Spec PySem.Calls PyProof.Rows PySem.W
-- the walk's own line
local macro_rules | `(tactic| walk_at "lk") => `(tactic| (first | with_reducible exact Lk.here | (with_reducible apply Lk.there; first | with_reducible exact Lk.here | (with_reducible apply Lk.there; first | with_reducible exact Lk.here | (with_reducible apply Lk.there; first | with_reducible exact Lk.here | (with_reducible apply Lk.there; first | with_reducible exact Lk.here | (with_reducible apply Lk.there; first | with_reducible exact Lk.here | (with_reducible apply Lk.there; first | with_reducible exact Lk.here | (with_reducible apply Lk.there; first | with_reducible exact Lk.here | (with_reducible apply Lk.there; first | with_reducible exact Lk.here | (with_reducible apply Lk.there; first | with_reducible exact Lk.here | (with_reducible apply Lk.there; first | with_reducible exact Lk.here | (with_reducible apply Lk.there; first | with_reducible exact Lk.here | (with_reducible apply Lk.there; first | with_reducible exact Lk.here | (with_reducible apply Lk.there; first | with_reducible exact Lk.here | (with_reducible apply Lk.there; first | with_reducible exact Lk.here | (with_reducible apply Lk.there; first | with_reducible exact Lk.here | (with_reducible apply Lk.there; first | with_reducible exact Lk.here | (with_reducible apply Lk.there; first | with_reducible exact Lk.here | (with_reducible apply Lk.there; first | with_reducible exact Lk.here | (with_reducible apply Lk.there; first | with_reducible exact Lk.here | (with_reducible apply Lk.there; first | with_reducible exact Lk.here | (with_reducible apply Lk.there; first | with_reducible exact Lk.here | (with_reducible apply Lk.there; first | with_reducible exact Lk.here | (with_reducible apply Lk.there; first | with_reducible exact Lk.here | (with_reducible apply Lk.there; first | with_reducible exact Lk.here | (with_reducible apply Lk.there; first | with_reducible exact Lk.here | (with_reducible apply Lk.there; first | with_reducible exact Lk.here | (with_reducible apply Lk.there; first | with_reducible exact Lk.here | (with_reducible apply Lk.there; first | with_reducible exact Lk.here | (with_reducible apply Lk.there; first | with_reducible exact Lk.here | (with_reducible apply Lk.there; first | with_reducible exact Lk.here | (with_reducible apply Lk.there; first | with_reducible exact Lk.here | (with_reducible apply Lk.there; first | with_reducible exact Lk.here | (with_reducible apply Lk.there; first | with_reducible exact Lk.here | (with_reducible apply Lk.there; fail))))))))))))))))))))))))))))))))))))
local macro_rules | `(tactic| walk_at "up") => `(tactic| (first | with_reducible exact Up.here | (with_reducible apply Up.there; first | with_reducible exact Up.here | (with_reducible apply Up.there; first | with_reducible exact Up.here | (with_reducible apply Up.there; first | with_reducible exact Up.here | (with_reducible apply Up.there; first | with_reducible exact Up.here | (with_reducible apply Up.there; first | with_reducible exact Up.here | (with_reducible apply Up.there; first | with_reducible exact Up.here | (with_reducible apply Up.there; first | with_reducible exact Up.here | (with_reducible apply Up.there; first | with_reducible exact Up.here | (with_reducible apply Up.there; first | with_reducible exact Up.here | (with_reducible apply Up.there; first | with_reducible exact Up.here | (with_reducible apply Up.there; first | with_reducible exact Up.here | (with_reducible apply Up.there; first | with_reducible exact Up.here | (with_reducible apply Up.there; first | with_reducible exact Up.here | (with_reducible apply Up.there; first | with_reducible exact Up.here | (with_reducible apply Up.there; first | with_reducible exact Up.here | (with_reducible apply Up.there; first | with_reducible exact Up.here | (with_reducible apply Up.there; first | with_reducible exact Up.here | (with_reducible apply Up.there; first | with_reducible exact Up.here | (with_reducible apply Up.there; first | with_reducible exact Up.here | (with_reducible apply Up.there; first | with_reducible exact Up.here | (with_reducible apply Up.there; first | with_reducible exact Up.here | (with_reducible apply Up.there; first | with_reducible exact Up.here | (with_reducible apply Up.there; first | with_reducible exact Up.here | (with_reducible apply Up.there; first | with_reducible exact Up.here | (with_reducible apply Up.there; first | with_reducible exact Up.here | (with_reducible apply Up.there; first | with_reducible exact Up.here | (with_reducible apply Up.there; first | with_reducible exact Up.here | (with_reducible apply Up.there; first | with_reducible exact Up.here | (with_reducible apply Up.there; first | with_reducible exact Up.here | (with_reducible apply Up.there; first | with_reducible exact Up.here | (with_reducible apply Up.there; first | with_reducible exact Up.here | (with_reducible apply Up.there; first | with_reducible exact Up.here | (with_reducible apply Up.there; first | with_reducible exact Up.here | (with_reducible apply Up.there; fail))))))))))))))))))))))))))))))))))))
local macro_rules | `(tactic| walk_at "in") => `(tactic| (first | with_reducible exact List.mem_cons_self | (with_reducible apply List.mem_cons_of_mem; first | with_reducible exact List.mem_cons_self | (with_reducible apply List.mem_cons_of_mem; first | with_reducible exact List.mem_cons_self | (with_reducible apply List.mem_cons_of_mem; first | with_reducible exact List.mem_cons_self | (with_reducible apply List.mem_cons_of_mem; first | with_reducible exact List.mem_cons_self | (with_reducible apply List.mem_cons_of_mem; first | with_reducible exact List.mem_cons_self | (with_reducible apply List.mem_cons_of_mem; first | with_reducible exact List.mem_cons_self | (with_reducible apply List.mem_cons_of_mem; first | with_reducible exact List.mem_cons_self | (with_reducible apply List.mem_cons_of_mem; first | with_reducible exact List.mem_cons_self | (with_reducible apply List.mem_cons_of_mem; first | with_reducible exact List.mem_cons_self | (with_reducible apply List.mem_cons_of_mem; first | with_reducible exact List.mem_cons_self | (with_reducible apply List.mem_cons_of_mem; first | with_reducible exact List.mem_cons_self | (with_reducible apply List.mem_cons_of_mem; first | with_reducible exact List.mem_cons_self | (with_reducible apply List.mem_cons_of_mem; first | with_reducible exact List.mem_cons_self | (with_reducible apply List.mem_cons_of_mem; first | with_reducible exact List.mem_cons_self | (with_reducible apply List.mem_cons_of_mem; first | with_reducible exact List.mem_cons_self | (with_reducible apply List.mem_cons_of_mem; first | with_reducible exact List.mem_cons_self | (with_reducible apply List.mem_cons_of_mem; first | with_reducible exact List.mem_cons_self | (with_reducible apply List.mem_cons_of_mem; first | with_reducible exact List.mem_cons_self | (with_reducible apply List.mem_cons_of_mem; first | with_reducible exact List.mem_cons_self | (with_reducible apply List.mem_cons_of_mem; first | with_reducible exact List.mem_cons_self | (with_reducible apply List.mem_cons_of_mem; first | with_reducible exact List.mem_cons_self | (with_reducible apply List.mem_cons_of_mem; first | with_reducible exact List.mem_cons_self | (with_reducible apply List.mem_cons_of_mem; first | with_reducible exact List.mem_cons_self | (with_reducible apply List.mem_cons_of_mem; first | with_reducible exact List.mem_cons_self | (with_reducible apply List.mem_cons_of_mem; first | with_reducible exact List.mem_cons_self | (with_reducible apply List.mem_cons_of_mem; first | with_reducible exact List.mem_cons_self | (with_reducible apply List.mem_cons_of_mem; first | with_reducible exact List.mem_cons_self | (with_reducible apply List.mem_cons_of_mem; first | with_reducible exact List.mem_cons_self | (with_reducible apply List.mem_cons_of_mem; first | with_reducible exact List.mem_cons_self | (with_reducible apply List.mem_cons_of_mem; first | with_reducible exact List.mem_cons_self | (with_reducible apply List.mem_cons_of_mem; first | with_reducible exact List.mem_cons_self | (with_reducible apply List.mem_cons_of_mem; first | with_reducible exact List.mem_cons_self | (with_reducible apply List.mem_cons_of_mem; first | with_reducible exact List.mem_cons_self | (with_reducible apply List.mem_cons_of_mem; fail))))))))))))))))))))))))))))))))))))
local macro_rules | `(tactic| walk_at "bin2") => `(tactic| first
  | with_reducible exact Bin2.add | with_reducible exact Bin2.sub | with_reducible exact Bin2.addB | with_reducible exact Bin2.mulR (by decide) | with_reducible exact Bin2.mulL (by decide) | with_reducible exact Bin2.mulL (by assumption) | with_reducible exact Bin2.fdivP (by decide) (by decide) | with_reducible exact Bin2.modP (by decide) | with_reducible exact Bin2.cat (by assumption))
local macro_rules | `(tactic| walk_at "cmp2") => `(tactic| first
  | with_reducible exact Cmp2.eqI | with_reducible exact Cmp2.neI | with_reducible exact Cmp2.ltI | with_reducible exact Cmp2.leI | with_reducible exact Cmp2.gtI | with_reducible exact Cmp2.geI | with_reducible exact Cmp2.neBB | ((with_reducible apply Cmp2.eq8); (· walk_at "asc"); (· walk_at "asc")) | ((with_reducible apply Cmp2.ne8); (· walk_at "asc"); (· walk_at "asc")) | with_reducible exact Cmp2.eqBy | with_reducible exact Cmp2.neBy | with_reducible exact Cmp2.eqS | with_reducible exact Cmp2.isNN | with_reducible exact Cmp2.isNotNN | with_reducible exact Cmp2.isN rfl | with_reducible exact Cmp2.isNotN rfl)
local macro_rules | `(tactic| walk_at "truth") => `(tactic| first
  | with_reducible exact Truth.bool | with_reducible exact Truth.none | with_reducible exact Truth.int | ((with_reducible apply Truth.by8); omega) | with_reducible exact Truth.str (by assumption) | with_reducible exact Truth.bytes (by assumption))
local macro_rules | `(tactic| walk_at "item") => `(tactic| first | assumption | apply_assumption -exfalso -symm | (exact Item.list (by assumption) (by omega) (by omega) rfl))
local macro_rules | `(tactic| walk_at "keep") => `(tactic| first | with_reducible exact KeepOk.builtin | with_reducible exact kp576 | with_reducible exact kp583 | with_reducible exact kp590 | with_reducible exact kp597 | with_reducible exact kp604 | with_reducible exact kp611 | with_reducible exact kp619 | with_reducible exact kp29 | with_reducible exact kp36 | with_reducible exact kp525 | with_reducible exact kp518 | with_reducible exact KeepOk.type | exact KeepOk.own rfl)
local macro_rules | `(tactic| walk_at "call") => `(tactic| first
  | ((with_reducible apply CallT.len8); omega) | ((with_reducible apply CallT.isdigit8); walk_at "asc") | ((with_reducible apply CallT.decode8); (· walk_at "asc"); (· omega))
  | ((with_reducible apply CallT.lenB); assumption) | ((with_reducible apply CallT.lenS); assumption) | with_reducible exact CallT.isStrS | with_reducible exact CallT.isdigit
  | ((with_reducible apply CallT.of); (· first | assumption | apply_assumption -exfalso -symm); (· exact Fx.fit.id (Sh.fit ‹Sh _ _ _›) (Nat.le_of_ble_eq_true rfl)))
  | assumption
  | apply_assumption -exfalso -symm)
local macro_rules | `(tactic| walk_at "evl") => `(tactic| first | with_reducible exact EvL.nil | ((with_reducible apply EvL.cons); (· walk_at "ev"); (· walk_at "evl"); (· rfl)))
local macro_rules | `(tactic| walk_at "evk") => `(tactic| first | with_reducible exact EvK.nil | ((with_reducible apply EvK.cons); (· walk_at "ev"); (· walk_at "evk")))
local macro_rules | `(tactic| walk_at "evo") => `(tactic| first | exact EvO.none | ((apply EvO.some); walk_at "ev"))
local macro_rules | `(tactic| walk_at "asc") => `(tactic| first | assumption | exact sl_asc ‹_› _ _ | exact Asc.drop ‹_› _ | exact Asc.take ‹_› _ | (unfold Mine.Asc; decide))
local macro_rules | `(tactic| walk_at "cut") => `(tactic| first
  | ((with_reducible apply Cut.sl8); (· omega); (· omega); (· omega)) | ((with_reducible apply Cut.from8); (· omega); (· omega)) | ((with_reducible apply Cut.upto8); (· omega); (· omega)))
local macro_rules | `(tactic| walk_at "dz") => `(tactic| first | exact log2_small (by omega))
local macro_rules | `(tactic| walk_at "pct") => `(tactic| first
  | exact Pct.nil
  | ((refine Pct.lit rfl rfl (by decide) (by decide) ?_); walk_at "pct")
  | ((refine Pct.dec0 ?_ ?_); (· walk_at "dz"); (· walk_at "pct"))
  | ((refine Pct.dec (by decide) ?_ ?_); (· walk_at "dz"); (· walk_at "pct"))
  | ((refine Pct.rep ?_ ?_); (· first | assumption | (apply_assumption)); (· walk_at "pct"))
  | ((refine Pct.str ?_); walk_at "pct"))
local macro_rules | `(tactic| walk_at "meth") => `(tactic| first
  | ((with_reducible apply meth_digits ‹Wd.Ok _›); walk_at "get")
  | ((with_reducible apply meth_isodate ‹Wd.Ok _›); walk_at "get")
  | ((with_reducible apply meth_common ‹Wd.Ok _›); walk_at "get")
  | ((with_reducible apply meth_uncommon ‹Wd.Ok _›); walk_at "get")
  | ((with_reducible apply meth_weekdate ‹Wd.Ok _›); walk_at "get")
  | ((with_reducible apply meth_isotime ‹Wd.Ok _›); walk_at "get")
  | ((with_reducible apply meth_tzstr ‹Wd.Ok _›); walk_at "get")
  | with_reducible exact Meth.bytesIsdigit | with_reducible exact Meth.decode | with_reducible exact Meth.encode
  | ((with_reducible apply Meth.inst ‹Wd.Ok _›); (· walk_at "get"); (· rfl); (· rfl); (· rfl); (· rfl)))
local macro_rules | `(tactic| walk_at "get") => `(tactic| first | assumption | exact get_last | ((refine get_set (o := ?_) ?_); rotate_left; walk_at "get") | ((refine Ext.get Ext.add ?_); walk_at "get"))
local macro_rules | `(tactic| walk_at "gattr") => `(tactic| first
  | ((with_reducible apply get_dsep ‹Wd.Ok _›); walk_at "get") | ((with_reducible apply get_tsep ‹Wd.Ok _›); walk_at "get")
  | ((with_reducible apply Get.ownA ‹Wd.Ok _›); (· walk_at "get"); (· rfl); (· rfl); (· rfl); (· rfl); (· rfl); (· first | rfl | assumption))
  | ((with_reducible apply Get.cls ‹Wd.Ok _›); (· walk_at "get"); (· rfl); (· rfl); (· rfl); (· rfl); (· rfl); (· rfl); (· rfl); (· exact fun ρ => ⟨_, rfl⟩)))
local macro_rules | `(tactic| walk_at "ev") => `(tactic| first
  | ((with_reducible show Ev _ _ (Expr.Name _ _) _ _ _ _); first | ((with_reducible apply Ev.lcA); (· assumption); (· walk_at "lk"); (· first | rfl | assumption)) | ((with_reducible apply Ev.glI); (· assumption); (· assumption); (· walk_at "in")) | ((with_reducible apply Ev.glA); (· assumption); (· assumption); (· walk_at "in")) | fail)
  | ((with_reducible show Ev _ _ (Expr.Constant _ _ _) _ _ _ _); first | with_reducible exact Ev.int | with_reducible exact Ev.str | ((with_reducible apply Ev.by8A); (first | exact (rfl : _ = Mine.by8 [45]) | exact (rfl : _ = Mine.by8 [58]) | exact (rfl : _ = Mine.by8 [87]) | exact (rfl : _ = Mine.by8 [45, 43, 90, 122]) | exact (rfl : _ = Mine.by8 []) | exact (rfl : _ = Mine.by8 [46]) | exact (rfl : _ = Mine.by8 [44]) | exact (rfl : _ = Mine.by8 [90]) | exact (rfl : _ = Mine.by8 [122]) | exact (rfl : _ = Mine.by8 [43]))) | with_reducible exact Ev.bytes | with_reducible exact Ev.nil | with_reducible exact Ev.bool | fail)
  | ((with_reducible show Ev _ _ (Expr.Attribute _ _ _) _ _ _ _); (with_reducible apply Ev.attr); (· walk_at "ev"); (· walk_at "gattr"); (· rfl))
  | ((with_reducible show Ev _ _ (Expr.BinOp _ _ _ _) _ _ _ _); (with_reducible apply Ev.bin); (· walk_at "ev"); (· walk_at "ev"); (· walk_at "bin2"))
  | ((with_reducible show Ev _ _ (Expr.Compare _ _ _ _) _ _ _ _); (with_reducible apply Ev.cmp); (· walk_at "ev"); (· walk_at "ev"); (· walk_at "cmp2"); (· rfl))
  | ((with_reducible show Ev _ _ (Expr.UnaryOp _ _ _) _ _ _ _); (with_reducible apply Ev.neg); (· walk_at "ev"))
  | ((with_reducible show Ev _ _ (Expr.BoolOp _ _ _) _ _ _ _); first
    | ((with_reducible apply Ev.andB); (· walk_at "ev"); (· (intro _; walk_at "ev")))
    | ((with_reducible apply Ev.orB); (· walk_at "ev"); (· (intro _; walk_at "ev")))
    | ((with_reducible apply Ev.and2); (· walk_at "ev"); (· walk_at "truth"); (· (intro _; walk_at "ev")))
    | ((with_reducible apply Ev.or2); (· walk_at "ev"); (· walk_at "truth"); (· (intro _; walk_at "ev"))) | fail)
  | ((with_reducible show Ev _ _ (Expr.Call _ _ _ _) _ _ _ _); first
    | ((with_reducible apply Ev.methA); (· assumption); (· walk_at "ev"); (· walk_at "meth"); (· walk_at "keep"); (· walk_at "evl"); (· walk_at "evk"); (· exact List.singleton_append); (· walk_at "call"); (· rfl); (· exact ⟨_, rfl⟩))
    | ((with_reducible apply Ev.callT); (· assumption); (· walk_at "ev"); (· walk_at "keep"); (· walk_at "evl"); (· walk_at "evk"); (· walk_at "call"); (· rfl); (· rfl)) | fail)
  | ((with_reducible show Ev _ _ (Expr.Subscript _ _ _) _ _ _ _); first
    | ((with_reducible apply Ev.cut); (· walk_at "ev"); (· walk_at "evo"); (· walk_at "evo"); (· walk_at "cut"))
    | ((with_reducible apply Ev.sub); (· walk_at "ev"); (· walk_at "ev"); (· walk_at "item"); (· rfl)) | fail)
  | ((with_reducible show Ev _ _ (Expr.Tuple _ _ _) _ _ _ _); (with_reducible apply Ev.tuple); (· walk_at "evl"); (· exact Nat.le_of_ble_eq_true rfl))
  | ((with_reducible show Ev _ _ (Expr.List _ _) _ _ _ _); (with_reducible apply Ev.list); (· walk_at "evl"); (· exact Nat.le_of_ble_eq_true rfl))
  | fail)
local macro_rules | `(tactic| walk_at "bt") => `(tactic| first
  | ((with_reducible show Bt _ _ (Expr.Compare _ _ _ _) _ _ _ _); first
    | ((with_reducible apply Bt.cmpA); (· walk_at "ev"); (· walk_at "ev"); (· walk_at "cmp2"); (· rfl))
    | ((with_reducible apply Bt.chain); (· walk_at "ev"); (· walk_at "ev"); (· walk_at "cmp2"); (· (intro _; walk_at "ev")); (· (intro _; walk_at "cmp2")); (· rfl)) | fail)
  | ((with_reducible show Bt _ _ (Expr.UnaryOp _ _ _) _ _ _ _); (with_reducible apply Bt.not); (· walk_at "bt"))
  | ((with_reducible show Bt _ _ (Expr.BoolOp _ _ _) _ _ _ _); first
    | ((with_reducible apply Bt.and2); (· walk_at "bt"); (· (intro _; walk_at "bt")))
    | ((with_reducible apply Bt.or2); (· walk_at "bt"); (· (intro _; walk_at "bt")))
    | ((with_reducible apply Bt.andN); (· walk_at "bt"); (· (intro _; walk_at "bt")))
    | ((with_reducible apply Bt.orN); (· walk_at "bt"); (· (intro _; walk_at "bt"))) | fail)
  | ((with_reducible apply Bt.plain); (· walk_at "ev"); (· walk_at "truth"); (· (intro _; rfl)))
  | fail)
local macro_rules | `(tactic| walk_at "inv") => `(tactic| (intro s ρ xs ks X rx rk; (repeat (rcases rx with _ | ⟨r1, rx⟩)); (repeat (rcases rk with _ | ⟨k1, rk⟩))))
local macro_rules | `(tactic| walk_at "reps") => `(tactic| (repeat (first | exact RepL.nil | (refine RepL.cons ?_ ?_; (· first | assumption | exact ⟨_, rfl⟩ | exact rfl)))))
local macro_rules | `(tactic| walk_at "hb1") => `(tactic| (walk_at "inv"; refine ⟨[_], kp_binds ‹Frag.In _ _› (fun S => rfl), ?_⟩; walk_at "reps"))
local macro_rules | `(tactic| walk_at "hb2") => `(tactic| (walk_at "inv"; refine ⟨[_, _], kp_binds ‹Frag.In _ _› (fun S => rfl), ?_⟩; walk_at "reps"))
local macro_rules | `(tactic| walk_at "hb3") => `(tactic| (walk_at "inv"; refine ⟨[_, _, _], kp_binds ‹Frag.In _ _› (fun S => rfl), ?_⟩; walk_at "reps"))
local macro_rules | `(tactic| walk_at "hb4") => `(tactic| (walk_at "inv"; refine ⟨[_, _, _, _], kp_binds ‹Frag.In _ _› (fun S => rfl), ?_⟩; walk_at "reps"))
local macro_rules | `(tactic| walk_at "hb5") => `(tactic| (walk_at "inv"; refine ⟨[_, _, _, _, _], kp_binds ‹Frag.In _ _› (fun S => rfl), ?_⟩; walk_at "reps"))
local macro_rules | `(tactic| walk_at "hb6") => `(tactic| (walk_at "inv"; refine ⟨[_, _, _, _, _, _], kp_binds ‹Frag.In _ _› (fun S => rfl), ?_⟩; walk_at "reps"))
local macro_rules | `(tactic| walk_at "asg") => `(tactic| ((with_reducible apply XP.step); (· (intro _ _; (with_reducible apply Ex1.asgA ‹Sh _ _ _›); (· walk_at "ev"); (· walk_at "up"); (· rfl)))))
local macro_rules | `(tactic| walk_at "ret") => `(tactic| ((with_reducible apply XP.ret); (· (intro _ _; walk_at "ev"))))
local macro_rules | `(tactic| walk_at "ite") => `(tactic| ((with_reducible apply XP.ite); (· (intro _ _; walk_at "bt")); (all_goals (try simp only [List.cons_append, List.nil_append]))))

local macro_rules | `(tactic| walk_at "raiseV") => `(tactic| ((with_reducible apply XP.exc); (· (intro _ _; (with_reducible apply Ex1.raiseA ‹Wd.Ok _› ‹Sh _ _ _› F.excCall_ValueError F.excRaise_ValueError); (· walk_at "in"); (· walk_at "evl"); (· exact Nat.le_of_ble_eq_true rfl); (· rfl)))))
local macro_rules | `(tactic| walk_at "raiseO") => `(tactic| ((with_reducible apply XP.exc); (· (intro _ _; (with_reducible apply Ex1.raiseA ‹Wd.Ok _› ‹Sh _ _ _› F.excCall_OverflowError F.excRaise_OverflowError); (· walk_at "in"); (· walk_at "evl"); (· exact Nat.le_of_ble_eq_true rfl); (· rfl)))))
local macro_rules | `(tactic| walk_at "set") => `(tactic| ((with_reducible apply XP.step); (· (intro _ _; (with_reducible apply Ex1.setA ‹Wd.Ok _›); (· walk_at "ev"); (· walk_at "ev"); (· walk_at "get"); (· rfl); (· exact Nat.le_of_ble_eq_true rfl); (· rfl); (· rfl); (· rfl)))))
local macro_rules | `(tactic| walk_at "setAt") => `(tactic| ((with_reducible apply XP.step); (· (intro _ _; (with_reducible apply Ex1.setAtL); (· walk_at "ev"); (· walk_at "ev"); (· walk_at "ev"); (· walk_at "get"); (· decide); (· decide); (· rfl); (· rfl); (· rfl)))))
local macro_rules | `(tactic| walk_at "setAtE") => `(tactic| ((with_reducible apply XP.exc); (· (intro _ _; (with_reducible apply Ex1.setAtE); (· walk_at "ev"); (· rfl)))))
local macro_rules | `(tactic| walk_at "asgE") => `(tactic| ((with_reducible apply XP.exc); (· (intro _ _; (with_reducible apply Ex1.asgEA); (· walk_at "ev"); (· rfl)))))
local macro_rules | `(tactic| walk_at "retE") => `(tactic| ((with_reducible apply XP.retE); (· (intro _ _; walk_at "ev"))))
local macro_rules | `(tactic| walk_at "aug2") => `(tactic| first | with_reducible exact Aug2.addI | with_reducible exact Aug2.addB)
local macro_rules | `(tactic| walk_at "aug") => `(tactic| ((with_reducible apply XP.step); (· (intro _ _; (with_reducible apply Ex1.augA ‹Sh _ _ _›); (· walk_at "lk"); (· rfl); (· walk_at "ev"); (· walk_at "aug2"); (· walk_at "up")))))
local macro_rules | `(tactic| walk_at "expr") => `(tactic| ((with_reducible apply XP.step); (· (intro _ _; (with_reducible apply Ex1.expr ‹Sh _ _ _›); (· walk_at "ev"); (· rfl)))))
local macro_rules | `(tactic| walk_at "exprE") => `(tactic| ((with_reducible apply XP.exc); (· (intro _ _; (with_reducible apply Ex1.exprE ‹Sh _ _ _›); (· walk_at "ev"); (· rfl)))))
local macro_rules | `(tactic| walk_at "ev") => `(tactic| first | ((with_reducible apply Ev.cellA ‹Sh _ _ _›); (· walk_at "in"); (· walk_at "get"); (· rfl); (· rfl)) | fail)
local macro_rules | `(tactic| walk_at "ext") => `(tactic| first | exact Ext.refl | exact Ext.add | (refine Ext.trans ?_ Ext.add; walk_at "ext"))
section
set_option Elab.async false
set_option maxRecDepth 100000
set_option maxHeartbeats 4000000
set_option simprocs false
set_option linter.unusedVariables false
open PySem PySem.Spec PySem.Calls PyProof.Rows PySem.W
variable {q : Pk}
/-- the law's frame -/
abbrev lawN : List Str := ["numbers", "year", "opens", "number", "month", "day", "form", "sign", "wrong", "week", "own", "count", "refused", "parts", "text", "whole", "reader", "told", "colon", "late", "words", "size", "value", "digits", "zone", "hours", "minutes", "minus", "last", "offset", "mark", "part"]
abbrev lawG : Shp := ⟨lawN, [("range", .type "range"), ("_law_number", .ref 633), ("_law_day", .ref 640), ("isoparser", .ref 622), ("ValueError", .type "ValueError"), ("min", .builtin "min"), ("int", .type "int"), ("_law_offset", .ref 647)], true, 20, true, [("script", 0), ("clock", 1), ("many", 2)]⟩
theorem ev_grange {fr : Fx} {m : Loc} {st : Sto} {pos : Pos} (ok : (C1 q).Ok) (F : Sh (C1 q) lawG fr) : Ev (C1 q) fr (.Name "range" pos) m st (.ok (.glob (.type "range"))) st := Ev.glA ok F (by walk_at "in")
theorem ev_g_law_number {fr : Fx} {m : Loc} {st : Sto} {pos : Pos} (ok : (C1 q).Ok) (F : Sh (C1 q) lawG fr) : Ev (C1 q) fr (.Name "_law_number" pos) m st (.ok (.glob (.ref 633))) st := Ev.glA ok F (by walk_at "in")
theorem ev_g_law_day {fr : Fx} {m : Loc} {st : Sto} {pos : Pos} (ok : (C1 q).Ok) (F : Sh (C1 q) lawG fr) : Ev (C1 q) fr (.Name "_law_day" pos) m st (.ok (.glob (.ref 640))) st := Ev.glA ok F (by walk_at "in")
theorem ev_gisoparser {fr : Fx} {m : Loc} {st : Sto} {pos : Pos} (ok : (C1 q).Ok) (F : Sh (C1 q) lawG fr) : Ev (C1 q) fr (.Name "isoparser" pos) m st (.ok (.glob (.ref 622))) st := Ev.glA ok F (by walk_at "in")
theorem ev_gValueError {fr : Fx} {m : Loc} {st : Sto} {pos : Pos} (ok : (C1 q).Ok) (F : Sh (C1 q) lawG fr) : Ev (C1 q) fr (.Name "ValueError" pos) m st (.ok (.glob (.type "ValueError"))) st := Ev.glA ok F (by walk_at "in")
theorem ev_gmin {fr : Fx} {m : Loc} {st : Sto} {pos : Pos} (ok : (C1 q).Ok) (F : Sh (C1 q) lawG fr) : Ev (C1 q) fr (.Name "min" pos) m st (.ok (.glob (.builtin "min"))) st := Ev.glA ok F (by walk_at "in")
theorem ev_gint {fr : Fx} {m : Loc} {st : Sto} {pos : Pos} (ok : (C1 q).Ok) (F : Sh (C1 q) lawG fr) : Ev (C1 q) fr (.Name "int" pos) m st (.ok (.glob (.type "int"))) st := Ev.glA ok F (by walk_at "in")
theorem ev_g_law_offset {fr : Fx} {m : Loc} {st : Sto} {pos : Pos} (ok : (C1 q).Ok) (F : Sh (C1 q) lawG fr) : Ev (C1 q) fr (.Name "_law_offset" pos) m st (.ok (.glob (.ref 647))) st := Ev.glA ok F (by walk_at "in")
theorem ev_cscript {G : Shp} {fr : Fx} {m : Loc} {st : Sto} {pos : Pos} {v : V} (F : Sh (C1 q) G fr) (hx : (("script" : Str), (0 : Nat)) ∈ G.cells) (hn : st[0]? = some (.cell (some v))) : Ev (C1 q) fr (.Name "script" pos) m st (.ok v) st := Ev.cellA F hx hn rfl rfl
theorem ev_cclock {G : Shp} {fr : Fx} {m : Loc} {st : Sto} {pos : Pos} {v : V} (F : Sh (C1 q) G fr) (hx : (("clock" : Str), (1 : Nat)) ∈ G.cells) (hn : st[1]? = some (.cell (some v))) : Ev (C1 q) fr (.Name "clock" pos) m st (.ok v) st := Ev.cellA F hx hn rfl rfl
theorem ev_cmany {G : Shp} {fr : Fx} {m : Loc} {st : Sto} {pos : Pos} {v : V} (F : Sh (C1 q) G fr) (hx : (("many" : Str), (2 : Nat)) ∈ G.cells) (hn : st[2]? = some (.cell (some v))) : Ev (C1 q) fr (.Name "many" pos) m st (.ok v) st := Ev.cellA F hx hn rfl rfl
theorem kp633 : KeepOk (C1 q) (.ref 633) := KeepOk.own rfl
theorem kp640 : KeepOk (C1 q) (.ref 640) := KeepOk.own rfl
theorem kp622 : KeepOk (C1 q) (.ref 622) := KeepOk.own rfl
theorem kp647 : KeepOk (C1 q) (.ref 647) := KeepOk.own rfl
def LawB (q : Pk) (body : List Stmt) : Prop := ∃ oc od osl fd, (C1 q).K.lookup 652 = some ⟨oc, od, .func fd, osl⟩ ∧ fd.body = .stmts body
def nb (s : List Int) (k : Nat) : Int := s.getD k 0
/-- the script as it lies -/
structure ScriptAt (q : Pk) (a : Addr) (items : Array Value) (s : List Int) : Prop where
  lay : (C1 q).base.IsList a items
  size : items.size = s.length
  get : ∀ k : Nat, k < s.length → ∃ t, items[k]? = some (.int (s.getD k 0) t)
  few : s.length ≤ 63
theorem swaps_comp {c : Wd} {G : Shp} {fr : Fx} (F : Sh c G fr) {y x : Str} {py px : Pos} {ifs : List Expr} {elt iter : Expr} {scope : Scope} {pos : Pos} {line : Nat} (hy : y ∈ G.names) (hl : (py.line == pos.line) = true) (hn : (scope.names.any fun (n, k) => n == y && (k == .local || k == .cell)) = false) :
    swapsWith (.ListComp elt [⟨.Name x px, iter, ifs, 0⟩] scope pos) (some (.Name y py)) line fr.env = pure true := by
  show (pure (fr.env.blockKind == .function && fr.env.kindOf y == some .local && py.line == pos.line && !(scope.names.any fun (n, k) => n == y && (k == .local || k == .cell))) : Sem Bool) = pure true
  rw [blockKind_fn F.fri.own, local_of F hy, hl, hn]
  rfl
def numV (s : List Int) : V → V
  | .int k => .int (nb s k.toNat)
  | _ => .none
theorem law1 (ok : (C1 q).Ok) {body : List Stmt} (hb : LawB q body) {a : Addr} {items : Array Value} {s : List Int} (hs : ScriptAt q a items s) {st : Sto} (h0 : st[0]? = some (.cell (some (.glob (.ref a))))) :
    XP (C1 q) lawG (body.take 1) (List.replicate 32 .undef) st fun o m' st' => o = .ok .next ∧ m' = .obj st.length :: List.replicate 31 .undef ∧ st' = st ++ [.list [.int (nb s 0), .int (nb s 1), .int (nb s 2), .int (nb s 3), .int (nb s 4), .int (nb s 5), .int (nb s 6), .int (nb s 7), .int (nb s 8)]] := by
  obtain ⟨oc, od, osl, fd, h1, h2⟩ := hb
  cases h1
  cases h2
  simp only [List.take_succ_cons, List.take_zero]
  show XP _ _ _ (.undef :: List.replicate 31 .undef) _ _
  with_reducible apply XP.step
  · intro fr F'
    refine Ex1.asgComp [("len", .builtin "len")] [("script", 0)] (vs := rng 9) (fun _ => true) (numV s) F' rfl rfl (fun y hy => by simp at hy; subst hy; exact List.mem_cons_self) (SrcEv.range (n := 9) ok (by walk_at "ev") (Ev.conv (v := .int 9) (by walk_at "ev") rfl) (by decide) rfl rfl) (fun _ => trivial) (by decide) (fun _ => rfl) ?_ (by walk_at "up") (swaps_comp F' (by walk_at "in") rfl rfl)
    intro fr' F'' acc v hv
    refine ⟨Tst.nil, fun _ => ?_⟩
    obtain ⟨k, hk, rfl⟩ : ∃ k : Nat, k < 9 ∧ v = .int k := by
      obtain ⟨k, hk, e⟩ := List.mem_map.mp hv
      exact ⟨k, List.mem_range.mp hk, e.symm⟩
    have hlen : ∀ st, CallT (C1 q) fr' (.builtin "len") [.glob (.ref a)] [] st (.ok (.int items.size)) st := fun st => CallT.lenG hs.lay (by have := hs.size; have := hs.few; omega)
    have hif : (items.size : Int) = s.length := by have := hs.size; omega
    by_cases h : k < s.length
    · obtain ⟨t, ht⟩ := hs.get k h
      have hit : ∀ st, Item (C1 q) fr' st (.glob (.ref a)) (.int (k : Int)) (.ok (numV s (.int (k : Int)))) st := fun st => Item.listG hs.lay (by omega) (by omega) ht (fun _ => ⟨_, rfl⟩)
      refine Ev.ifexp (t := true) (Bt.conv (b := decide ((k : Int) < (items.size : Int))) (by walk_at "bt") (by simp; omega)) (fun _ => by walk_at "ev") (fun e => nomatch e)
    · have hz : numV s (.int (k : Int)) = .int 0 := by
        show V.int (nb s k) = _
        unfold nb
        rw [List.getD_eq_getElem?_getD, List.getElem?_eq_none (by omega)]; rfl
      rw [hz]
      refine Ev.ifexp (t := false) (Bt.conv (b := decide ((k : Int) < (items.size : Int))) (by walk_at "bt") (by simp; omega)) (fun e => nomatch e) (fun _ => by walk_at "ev")
  · with_reducible apply XP.nil
    exact ⟨rfl, rfl, rfl⟩
end
end
end Mine
namespace Mine
section
set_option maxRecDepth 100000
open PySem PySem.Spec PySem.Calls PyProof.Rows PySem.W
-- the walk's own line
local macro_rules | `(tactic| walk_at "lk") => `(tactic| (first | with_reducible exact Lk.here | (with_reducible apply Lk.there; first | with_reducible exact Lk.here | (with_reducible apply Lk.there; first | with_reducible exact Lk.here | (with_reducible apply Lk.there; first | with_reducible exact Lk.here | (with_reducible apply Lk.there; first | with_reducible exact Lk.here | (with_reducible apply Lk.there; first | with_reducible exact Lk.here | (with_reducible apply Lk.there; first | with_reducible exact Lk.here | (with_reducible apply Lk.there; first | with_reducible exact Lk.here | (with_reducible apply Lk.there; first | with_reducible exact Lk.here | (with_reducible apply Lk.there; first | with_reducible exact Lk.here | (with_reducible apply Lk.there; first | with_reducible exact Lk.here | (with_reducible apply Lk.there; first | with_reducible exact Lk.here | (with_reducible apply Lk.there; first | with_reducible exact Lk.here | (with_reducible apply Lk.there; first | with_reducible exact Lk.here | (with_reducible apply Lk.there; first | with_reducible exact Lk.here | (with_reducible apply Lk.there; first | with_reducible exact Lk.here | (with_reducible apply Lk.there; first | with_reducible exact Lk.here | (with_reducible apply Lk.there; first | with_reducible exact Lk.here | (with_reducible apply Lk.there; first | with_reducible exact Lk.here | (with_reducible apply Lk.there; first | with_reducible exact Lk.here | (with_reducible apply Lk.there; first | with_reducible exact Lk.here | (with_reducible apply Lk.there; first | with_reducible exact Lk.here | (with_reducible apply Lk.there; first | with_reducible exact Lk.here | (with_reducible apply Lk.there; first | with_reducible exact Lk.here | (with_reducible apply Lk.there; first | with_reducible exact Lk.here | (with_reducible apply Lk.there; first | with_reducible exact Lk.here | (with_reducible apply Lk.there; first | with_reducible exact Lk.here | (with_reducible apply Lk.there; first | with_reducible exact Lk.here | (with_reducible apply Lk.there; first | with_reducible exact Lk.here | (with_reducible apply Lk.there; first | with_reducible exact Lk.here | (with_reducible apply Lk.there; first | with_reducible exact Lk.here | (with_reducible apply Lk.there; first | with_reducible exact Lk.here | (with_reducible apply Lk.there; first | with_reducible exact Lk.here | (with_reducible apply Lk.there; first | with_reducible exact Lk.here | (with_reducible apply Lk.there; fail))))))))))))))))))))))))))))))))))))
local macro_rules | `(tactic| walk_at "up") => `(tactic| (first | with_reducible exact Up.here | (with_reducible apply Up.there; first | with_reducible exact Up.here | (with_reducible apply Up.there; first | with_reducible exact Up.here | (with_reducible apply Up.there; first | with_reducible exact Up.here | (with_reducible apply Up.there; first | with_reducible exact Up.here | (with_reducible apply Up.there; first | with_reducible exact Up.here | (with_reducible apply Up.there; first | with_reducible exact Up.here | (with_reducible apply Up.there; first | with_reducible exact Up.here | (with_reducible apply Up.there; first | with_reducible exact Up.here | (with_reducible apply Up.there; first | with_reducible exact Up.here | (with_reducible apply Up.there; first | with_reducible exact Up.here | (with_reducible apply Up.there; first | with_reducible exact Up.here | (with_reducible apply Up.there; first | with_reducible exact Up.here | (with_reducible apply Up.there; first | with_reducible exact Up.here | (with_reducible apply Up.there; first | with_reducible exact Up.here | (with_reducible apply Up.there; first | with_reducible exact Up.here | (with_reducible apply Up.there; first | with_reducible exact Up.here | (with_reducible apply Up.there; first | with_reducible exact Up.here | (with_reducible apply Up.there; first | with_reducible exact Up.here | (with_reducible apply Up.there; first | with_reducible exact Up.here | (with_reducible apply Up.there; first | with_reducible exact Up.here | (with_reducible apply Up.there; first | with_reducible exact Up.here | (with_reducible apply Up.there; first | with_reducible exact Up.here | (with_reducible apply Up.there; first | with_reducible exact Up.here | (with_reducible apply Up.there; first | with_reducible exact Up.here | (with_reducible apply Up.there; first | with_reducible exact Up.here | (with_reducible apply Up.there; first | with_reducible exact Up.here | (with_reducible apply Up.there; first | with_reducible exact Up.here | (with_reducible apply Up.there; first | with_reducible exact Up.here | (with_reducible apply Up.there; first | with_reducible exact Up.here | (with_reducible apply Up.there; first | with_reducible exact Up.here | (with_reducible apply Up.there; first | with_reducible exact Up.here | (with_reducible apply Up.there; first | with_reducible exact Up.here | (with_reducible apply Up.there; first | with_reducible exact Up.here | (with_reducible apply Up.there; fail))))))))))))))))))))))))))))))))))))
local macro_rules | `(tactic| walk_at "in") => `(tactic| (first | with_reducible exact List.mem_cons_self | (with_reducible apply List.mem_cons_of_mem; first | with_reducible exact List.mem_cons_self | (with_reducible apply List.mem_cons_of_mem; first | with_reducible exact List.mem_cons_self | (with_reducible apply List.mem_cons_of_mem; first | with_reducible exact List.mem_cons_self | (with_reducible apply List.mem_cons_of_mem; first | with_reducible exact List.mem_cons_self | (with_reducible apply List.mem_cons_of_mem; first | with_reducible exact List.mem_cons_self | (with_reducible apply List.mem_cons_of_mem; first | with_reducible exact List.mem_cons_self | (with_reducible apply List.mem_cons_of_mem; first | with_reducible exact List.mem_cons_self | (with_reducible apply List.mem_cons_of_mem; first | with_reducible exact List.mem_cons_self | (with_reducible apply List.mem_cons_of_mem; first | with_reducible exact List.mem_cons_self | (with_reducible apply List.mem_cons_of_mem; first | with_reducible exact List.mem_cons_self | (with_reducible apply List.mem_cons_of_mem; first | with_reducible exact List.mem_cons_self | (with_reducible apply List.mem_cons_of_mem; first | with_reducible exact List.mem_cons_self | (with_reducible apply List.mem_cons_of_mem; first | with_reducible exact List.mem_cons_self | (with_reducible apply List.mem_cons_of_mem; first | with_reducible exact List.mem_cons_self | (with_reducible apply List.mem_cons_of_mem; first | with_reducible exact List.mem_cons_self | (with_reducible apply List.mem_cons_of_mem; first | with_reducible exact List.mem_cons_self | (with_reducible apply List.mem_cons_of_mem; first | with_reducible exact List.mem_cons_self | (with_reducible apply List.mem_cons_of_mem; first | with_reducible exact List.mem_cons_self | (with_reducible apply List.mem_cons_of_mem; first | with_reducible exact List.mem_cons_self | (with_reducible apply List.mem_cons_of_mem; first | with_reducible exact List.mem_cons_self | (with_reducible apply List.mem_cons_of_mem; first | with_reducible exact List.mem_cons_self | (with_reducible apply List.mem_cons_of_mem; first | with_reducible exact List.mem_cons_self | (with_reducible apply List.mem_cons_of_mem; first | with_reducible exact List.mem_cons_self | (with_reducible apply List.mem_cons_of_mem; first | with_reducible exact List.mem_cons_self | (with_reducible apply List.mem_cons_of_mem; first | with_reducible exact List.mem_cons_self | (with_reducible apply List.mem_cons_of_mem; first | with_reducible exact List.mem_cons_self | (with_reducible apply List.mem_cons_of_mem; first | with_reducible exact List.mem_cons_self | (with_reducible apply List.mem_cons_of_mem; first | with_reducible exact List.mem_cons_self | (with_reducible apply List.mem_cons_of_mem; first | with_reducible exact List.mem_cons_self | (with_reducible apply List.mem_cons_of_mem; first | with_reducible exact List.mem_cons_self | (with_reducible apply List.mem_cons_of_mem; first | with_reducible exact List.mem_cons_self | (with_reducible apply List.mem_cons_of_mem; first | with_reducible exact List.mem_cons_self | (with_reducible apply List.mem_cons_of_mem; first | with_reducible exact List.mem_cons_self | (with_reducible apply List.mem_cons_of_mem; fail))))))))))))))))))))))))))))))))))))
local macro_rules | `(tactic| walk_at "bin2") => `(tactic| first
  | with_reducible exact Bin2.add | with_reducible exact Bin2.sub | with_reducible exact Bin2.addB | with_reducible exact Bin2.mulR (by decide) | with_reducible exact Bin2.mulL (by decide) | with_reducible exact Bin2.mulL (by assumption) | with_reducible exact Bin2.fdivP (by decide) (by decide) | with_reducible exact Bin2.modP (by decide) | with_reducible exact Bin2.cat (by assumption))
local macro_rules | `(tactic| walk_at "cmp2") => `(tactic| first
  | with_reducible exact Cmp2.eqI | with_reducible exact Cmp2.neI | with_reducible exact Cmp2.ltI | with_reducible exact Cmp2.leI | with_reducible exact Cmp2.gtI | with_reducible exact Cmp2.geI | with_reducible exact Cmp2.neBB | ((with_reducible apply Cmp2.eq8); (· walk_at "asc"); (· walk_at "asc")) | ((with_reducible apply Cmp2.ne8); (· walk_at "asc"); (· walk_at "asc")) | with_reducible exact Cmp2.eqBy | with_reducible exact Cmp2.neBy | with_reducible exact Cmp2.eqS | with_reducible exact Cmp2.isNN | with_reducible exact Cmp2.isNotNN | with_reducible exact Cmp2.isN rfl | with_reducible exact Cmp2.isNotN rfl)
local macro_rules | `(tactic| walk_at "truth") => `(tactic| first
  | with_reducible exact Truth.bool | with_reducible exact Truth.none | with_reducible exact Truth.int | ((with_reducible apply Truth.by8); omega) | with_reducible exact Truth.str (by assumption) | with_reducible exact Truth.bytes (by assumption))
local macro_rules | `(tactic| walk_at "item") => `(tactic| first | assumption | apply_assumption -exfalso -symm | (exact Item.list (by assumption) (by omega) (by omega) rfl))
local macro_rules | `(tactic| walk_at "keep") => `(tactic| first | with_reducible exact KeepOk.builtin | with_reducible exact kp576 | with_reducible exact kp583 | with_reducible exact kp590 | with_reducible exact kp597 | with_reducible exact kp604 | with_reducible exact kp611 | with_reducible exact kp619 | with_reducible exact kp29 | with_reducible exact kp36 | with_reducible exact kp525 | with_reducible exact kp518 | with_reducible exact KeepOk.type | exact KeepOk.own rfl)
local macro_rules | `(tactic| walk_at "call") => `(tactic| first
  | ((with_reducible apply CallT.len8); omega) | ((with_reducible apply CallT.isdigit8); walk_at "asc") | ((with_reducible apply CallT.decode8); (· walk_at "asc"); (· omega))
  | ((with_reducible apply CallT.lenB); assumption) | ((with_reducible apply CallT.lenS); assumption) | with_reducible exact CallT.isStrS | with_reducible exact CallT.isdigit
  | ((with_reducible apply CallT.of); (· first | assumption | apply_assumption -exfalso -symm); (· exact Fx.fit.id (Sh.fit ‹Sh _ _ _›) (Nat.le_of_ble_eq_true rfl)))
  | assumption
  | apply_assumption -exfalso -symm)
local macro_rules | `(tactic| walk_at "evl") => `(tactic| first | with_reducible exact EvL.nil | ((with_reducible apply EvL.cons); (· walk_at "ev"); (· walk_at "evl"); (· rfl)))
local macro_rules | `(tactic| walk_at "evk") => `(tactic| first | with_reducible exact EvK.nil | ((with_reducible apply EvK.cons); (· walk_at "ev"); (· walk_at "evk")))
local macro_rules | `(tactic| walk_at "evo") => `(tactic| first | exact EvO.none | ((apply EvO.some); walk_at "ev"))
local macro_rules | `(tactic| walk_at "asc") => `(tactic| first | assumption | exact sl_asc ‹_› _ _ | exact Asc.drop ‹_› _ | exact Asc.take ‹_› _ | (unfold Mine.Asc; decide))
local macro_rules | `(tactic| walk_at "cut") => `(tactic| first
  | ((with_reducible apply Cut.sl8); (· omega); (· omega); (· omega)) | ((with_reducible apply Cut.from8); (· omega); (· omega)) | ((with_reducible apply Cut.upto8); (· omega); (· omega)))
local macro_rules | `(tactic| walk_at "dz") => `(tactic| first | exact log2_small (by omega))
local macro_rules | `(tactic| walk_at "pct") => `(tactic| first
  | exact Pct.nil
  | ((refine Pct.lit rfl rfl (by decide) (by decide) ?_); walk_at "pct")
  | ((refine Pct.dec0 ?_ ?_); (· walk_at "dz"); (· walk_at "pct"))
  | ((refine Pct.dec (by decide) ?_ ?_); (· walk_at "dz"); (· walk_at "pct"))
  | ((refine Pct.rep ?_ ?_); (· first | assumption | (apply_assumption)); (· walk_at "pct"))
  | ((refine Pct.str ?_); walk_at "pct"))
local macro_rules | `(tactic| walk_at "meth") => `(tactic| first
  | ((with_reducible apply meth_digits ‹Wd.Ok _›); walk_at "get")
  | ((with_reducible apply meth_isodate ‹Wd.Ok _›); walk_at "get")
  | ((with_reducible apply meth_common ‹Wd.Ok _›); walk_at "get")
  | ((with_reducible apply meth_uncommon ‹Wd.Ok _›); walk_at "get")
  | ((with_reducible apply meth_weekdate ‹Wd.Ok _›); walk_at "get")
  | ((with_reducible apply meth_isotime ‹Wd.Ok _›); walk_at "get")
  | ((with_reducible apply meth_tzstr ‹Wd.Ok _›); walk_at "get")
  | with_reducible exact Meth.bytesIsdigit | with_reducible exact Meth.decode | with_reducible exact Meth.encode
  | ((with_reducible apply Meth.inst ‹Wd.Ok _›); (· walk_at "get"); (· rfl); (· rfl); (· rfl); (· rfl)))
local macro_rules | `(tactic| walk_at "get") => `(tactic| first | assumption | exact get_last | ((refine get_set (o := ?_) ?_); rotate_left; walk_at "get") | ((refine Ext.get Ext.add ?_); walk_at "get"))
local macro_rules | `(tactic| walk_at "gattr") => `(tactic| first
  | ((with_reducible apply get_dsep ‹Wd.Ok _›); walk_at "get") | ((with_reducible apply get_tsep ‹Wd.Ok _›); walk_at "get")
  | ((with_reducible apply Get.ownA ‹Wd.Ok _›); (· walk_at "get"); (· rfl); (· rfl); (· rfl); (· rfl); (· rfl); (· first | rfl | assumption))
  | ((with_reducible apply Get.cls ‹Wd.Ok _›); (· walk_at "get"); (· rfl); (· rfl); (· rfl); (· rfl); (· rfl); (· rfl); (· rfl); (· exact fun ρ => ⟨_, rfl⟩)))
local macro_rules | `(tactic| walk_at "ev") => `(tactic| first
  | ((with_reducible show Ev _ _ (Expr.Name _ _) _ _ _ _); first | ((with_reducible apply Ev.lcA); (· assumption); (· walk_at "lk"); (· first | rfl | assumption)) | ((with_reducible apply Ev.glI); (· assumption); (· assumption); (· walk_at "in")) | ((with_reducible apply Ev.glA); (· assumption); (· assumption); (· walk_at "in")) | fail)
  | ((with_reducible show Ev _ _ (Expr.Constant _ _ _) _ _ _ _); first | with_reducible exact Ev.int | with_reducible exact Ev.str | ((with_reducible apply Ev.by8A); (first | exact (rfl : _ = Mine.by8 [45]) | exact (rfl : _ = Mine.by8 [58]) | exact (rfl : _ = Mine.by8 [87]) | exact (rfl : _ = Mine.by8 [45, 43, 90, 122]) | exact (rfl : _ = Mine.by8 []) | exact (rfl : _ = Mine.by8 [46]) | exact (rfl : _ = Mine.by8 [44]) | exact (rfl : _ = Mine.by8 [90]) | exact (rfl : _ = Mine.by8 [122]) | exact (rfl : _ = Mine.by8 [43]))) | with_reducible exact Ev.bytes | with_reducible exact Ev.nil | with_reducible exact Ev.bool | fail)
  | ((with_reducible show Ev _ _ (Expr.Attribute _ _ _) _ _ _ _); (with_reducible apply Ev.attr); (· walk_at "ev"); (· walk_at "gattr"); (· rfl))
  | ((with_reducible show Ev _ _ (Expr.BinOp _ _ _ _) _ _ _ _); (with_reducible apply Ev.bin); (· walk_at "ev"); (· walk_at "ev"); (· walk_at "bin2"))
  | ((with_reducible show Ev _ _ (Expr.Compare _ _ _ _) _ _ _ _); (with_reducible apply Ev.cmp); (· walk_at "ev"); (· walk_at "ev"); (· walk_at "cmp2"); (· rfl))
  | ((with_reducible show Ev _ _ (Expr.UnaryOp _ _ _) _ _ _ _); (with_reducible apply Ev.neg); (· walk_at "ev"))
  | ((with_reducible show Ev _ _ (Expr.BoolOp _ _ _) _ _ _ _); first
    | ((with_reducible apply Ev.andB); (· walk_at "ev"); (· (intro _; walk_at "ev")))
    | ((with_reducible apply Ev.orB); (· walk_at "ev"); (· (intro _; walk_at "ev")))
    | ((with_reducible apply Ev.and2); (· walk_at "ev"); (· walk_at "truth"); (· (intro _; walk_at "ev")))
    | ((with_reducible apply Ev.or2); (· walk_at "ev"); (· walk_at "truth"); (· (intro _; walk_at "ev"))) | fail)
  | ((with_reducible show Ev _ _ (Expr.Call _ _ _ _) _ _ _ _); first
    | ((with_reducible apply Ev.methA); (· assumption); (· walk_at "ev"); (· walk_at "meth"); (· walk_at "keep"); (· walk_at "evl"); (· walk_at "evk"); (· exact List.singleton_append); (· walk_at "call"); (· rfl); (· exact ⟨_, rfl⟩))
    | ((with_reducible apply Ev.callT); (· assumption); (· walk_at "ev"); (· walk_at "keep"); (· walk_at "evl"); (· walk_at "evk"); (· walk_at "call"); (· rfl); (· rfl)) | fail)
  | ((with_reducible show Ev _ _ (Expr.Subscript _ _ _) _ _ _ _); first
    | ((with_reducible apply Ev.cut); (· walk_at "ev"); (· walk_at "evo"); (· walk_at "evo"); (· walk_at "cut"))
    | ((with_reducible apply Ev.sub); (· walk_at "ev"); (· walk_at "ev"); (· walk_at "item"); (· rfl)) | fail)
  | ((with_reducible show Ev _ _ (Expr.Tuple _ _ _) _ _ _ _); (with_reducible apply Ev.tuple); (· walk_at "evl"); (· exact Nat.le_of_ble_eq_true rfl))
  | ((with_reducible show Ev _ _ (Expr.List _ _) _ _ _ _); (with_reducible apply Ev.list); (· walk_at "evl"); (· exact Nat.le_of_ble_eq_true rfl))
  | fail)
local macro_rules | `(tactic| walk_at "bt") => `(tactic| first
  | ((with_reducible show Bt _ _ (Expr.Compare _ _ _ _) _ _ _ _); first
    | ((with_reducible apply Bt.cmpA); (· walk_at "ev"); (· walk_at "ev"); (· walk_at "cmp2"); (· rfl))
    | ((with_reducible apply Bt.chain); (· walk_at "ev"); (· walk_at "ev"); (· walk_at "cmp2"); (· (intro _; walk_at "ev")); (· (intro _; walk_at "cmp2")); (· rfl)) | fail)
  | ((with_reducible show Bt _ _ (Expr.UnaryOp _ _ _) _ _ _ _); (with_reducible apply Bt.not); (· walk_at "bt"))
  | ((with_reducible show Bt _ _ (Expr.BoolOp _ _ _) _ _ _ _); first
    | ((with_reducible apply Bt.and2); (· walk_at "bt"); (· (intro _; walk_at "bt")))
    | ((with_reducible apply Bt.or2); (· walk_at "bt"); (· (intro _; walk_at "bt")))
    | ((with_reducible apply Bt.andN); (· walk_at "bt"); (· (intro _; walk_at "bt")))
    | ((with_reducible apply Bt.orN); (· walk_at "bt"); (· (intro _; walk_at "bt"))) | fail)
  | ((with_reducible apply Bt.plain); (· walk_at "ev"); (· walk_at "truth"); (· (intro _; rfl)))
  | fail)
local macro_rules | `(tactic| walk_at "inv") => `(tactic| (intro s ρ xs ks X rx rk; (repeat (rcases rx with _ | ⟨r1, rx⟩)); (repeat (rcases rk with _ | ⟨k1, rk⟩))))
local macro_rules | `(tactic| walk_at "reps") => `(tactic| (repeat (first | exact RepL.nil | (refine RepL.cons ?_ ?_; (· first | assumption | exact ⟨_, rfl⟩ | exact rfl)))))
local macro_rules | `(tactic| walk_at "hb1") => `(tactic| (walk_at "inv"; refine ⟨[_], kp_binds ‹Frag.In _ _› (fun S => rfl), ?_⟩; walk_at "reps"))
local macro_rules | `(tactic| walk_at "hb2") => `(tactic| (walk_at "inv"; refine ⟨[_, _], kp_binds ‹Frag.In _ _› (fun S => rfl), ?_⟩; walk_at "reps"))
local macro_rules | `(tactic| walk_at "hb3") => `(tactic| (walk_at "inv"; refine ⟨[_, _, _], kp_binds ‹Frag.In _ _› (fun S => rfl), ?_⟩; walk_at "reps"))
local macro_rules | `(tactic| walk_at "hb4") => `(tactic| (walk_at "inv"; refine ⟨[_, _, _, _], kp_binds ‹Frag.In _ _› (fun S => rfl), ?_⟩; walk_at "reps"))
local macro_rules | `(tactic| walk_at "hb5") => `(tactic| (walk_at "inv"; refine ⟨[_, _, _, _, _], kp_binds ‹Frag.In _ _› (fun S => rfl), ?_⟩; walk_at "reps"))
local macro_rules | `(tactic| walk_at "hb6") => `(tactic| (walk_at "inv"; refine ⟨[_, _, _, _, _, _], kp_binds ‹Frag.In _ _› (fun S => rfl), ?_⟩; walk_at "reps"))
local macro_rules | `(tactic| walk_at "asg") => `(tactic| ((with_reducible apply XP.step); (· (intro _ _; (with_reducible apply Ex1.asgA ‹Sh _ _ _›); (· walk_at "ev"); (· walk_at "up"); (· rfl)))))
local macro_rules | `(tactic| walk_at "ret") => `(tactic| ((with_reducible apply XP.ret); (· (intro _ _; walk_at "ev"))))
local macro_rules | `(tactic| walk_at "ite") => `(tactic| ((with_reducible apply XP.ite); (· (intro _ _; walk_at "bt")); (all_goals (try simp only [List.cons_append, List.nil_append]))))

local macro_rules | `(tactic| walk_at "raiseV") => `(tactic| ((with_reducible apply XP.exc); (· (intro _ _; (with_reducible apply Ex1.raiseA ‹Wd.Ok _› ‹Sh _ _ _› F.excCall_ValueError F.excRaise_ValueError); (· walk_at "in"); (· walk_at "evl"); (· exact Nat.le_of_ble_eq_true rfl); (· rfl)))))
local macro_rules | `(tactic| walk_at "raiseO") => `(tactic| ((with_reducible apply XP.exc); (· (intro _ _; (with_reducible apply Ex1.raiseA ‹Wd.Ok _› ‹Sh _ _ _› F.excCall_OverflowError F.excRaise_OverflowError); (· walk_at "in"); (· walk_at "evl"); (· exact Nat.le_of_ble_eq_true rfl); (· rfl)))))
local macro_rules | `(tactic| walk_at "set") => `(tactic| ((with_reducible apply XP.step); (· (intro _ _; (with_reducible apply Ex1.setA ‹Wd.Ok _›); (· walk_at "ev"); (· walk_at "ev"); (· walk_at "get"); (· rfl); (· exact Nat.le_of_ble_eq_true rfl); (· rfl); (· rfl); (· rfl)))))
local macro_rules | `(tactic| walk_at "setAt") => `(tactic| ((with_reducible apply XP.step); (· (intro _ _; (with_reducible apply Ex1.setAtL); (· walk_at "ev"); (· walk_at "ev"); (· walk_at "ev"); (· walk_at "get"); (· decide); (· decide); (· rfl); (· rfl); (· rfl)))))
local macro_rules | `(tactic| walk_at "setAtE") => `(tactic| ((with_reducible apply XP.exc); (· (intro _ _; (with_reducible apply Ex1.setAtE); (· walk_at "ev"); (· rfl)))))
local macro_rules | `(tactic| walk_at "asgE") => `(tactic| ((with_reducible apply XP.exc); (· (intro _ _; (with_reducible apply Ex1.asgEA); (· walk_at "ev"); (· rfl)))))
local macro_rules | `(tactic| walk_at "retE") => `(tactic| ((with_reducible apply XP.retE); (· (intro _ _; walk_at "ev"))))
local macro_rules | `(tactic| walk_at "aug2") => `(tactic| first | with_reducible exact Aug2.addI | with_reducible exact Aug2.addB)
local macro_rules | `(tactic| walk_at "aug") => `(tactic| ((with_reducible apply XP.step); (· (intro _ _; (with_reducible apply Ex1.augA ‹Sh _ _ _›); (· walk_at "lk"); (· rfl); (· walk_at "ev"); (· walk_at "aug2"); (· walk_at "up")))))
local macro_rules | `(tactic| walk_at "expr") => `(tactic| ((with_reducible apply XP.step); (· (intro _ _; (with_reducible apply Ex1.expr ‹Sh _ _ _›); (· walk_at "ev"); (· rfl)))))
local macro_rules | `(tactic| walk_at "exprE") => `(tactic| ((with_reducible apply XP.exc); (· (intro _ _; (with_reducible apply Ex1.exprE ‹Sh _ _ _›); (· walk_at "ev"); (· rfl)))))
local macro_rules | `(tactic| walk_at "item") => `(tactic| first | assumption | apply_assumption -exfalso -symm | exact Item.list (by walk_at "get") (by omega) (by omega) rfl | exact Item.tuple (by walk_at "get") (by omega) (by omega) rfl | fail)
local macro_rules | `(tactic| walk_at "bin2") => `(tactic| first | with_reducible exact Bin2.modP (by assumption) | ((with_reducible apply Bin2.cat8); (walk_at "tl")) | fail)
local macro_rules | `(tactic| walk_at "get") => `(tactic| first | exact get_last2 | fail)
local macro_rules | `(tactic| walk_at "ext") => `(tactic| first | exact Ext.refl | exact Ext.add | (refine Ext.trans ?_ Ext.add; walk_at "ext"))
local macro_rules | `(tactic| walk_at "nms") => `(tactic| first | exact NamesOf.nil | ((with_reducible apply NamesOf.cons); walk_at "nms"))
local macro_rules | `(tactic| walk_at "stn") => `(tactic| first | exact StN.nil | ((with_reducible apply StN.cons); (· exact St1.locA ‹Sh _ _ _› (by walk_at "up")); walk_at "stn"))
local macro_rules | `(tactic| walk_at "asgT") => `(tactic| ((with_reducible apply XP.step); (· (intro _ _; (with_reducible apply Ex1.asgTupA ‹Sh _ _ _› rfl); (· walk_at "ev"); (· walk_at "get"); (· rfl); (· walk_at "nms"); (· walk_at "stn"); (· rfl); (· rfl); (· rfl); (· rfl)))))
local macro_rules | `(tactic| walk_at "asg2") => `(tactic| ((with_reducible apply XP.step); (· (intro _ _; (with_reducible apply Ex1.asgP2 ‹Sh _ _ _› rfl); (· walk_at "ev"); (· walk_at "ev"); (· walk_at "up"); (· walk_at "up"); (· walk_at "in"); (· walk_at "in"); (· rfl); (· rfl); (· rfl); (· rfl); (· rfl); (· rfl); (· rfl)))))
local macro_rules | `(tactic| walk_at "asg3") => `(tactic| ((with_reducible apply XP.step); (· (intro _ _; (with_reducible apply Ex1.asgP3 ‹Sh _ _ _› rfl); (· walk_at "ev"); (· walk_at "ev"); (· walk_at "ev"); (· walk_at "up"); (· walk_at "up"); (· walk_at "up"); (· walk_at "in"); (· walk_at "in"); (· walk_at "in"); (· rfl); (· rfl); (· rfl); (· rfl); (· rfl); (· rfl); (· rfl); (· rfl); (· rfl)))))
local macro_rules | `(tactic| walk_at "asgC2") => `(tactic| ((with_reducible apply XP.step); (· (intro _ _; (with_reducible apply Ex1.asgC2 ‹Sh _ _ _› rfl); (· walk_at "ev"); (· walk_at "ev"); (· walk_at "up"); (· walk_at "up"); (· rfl); (· rfl); (· rfl); (· rfl)))))
local macro_rules | `(tactic| walk_at "asgX2") => `(tactic| ((with_reducible apply XP.step); (· (intro _ _; (with_reducible apply Ex1.asgX2 ‹Sh _ _ _› rfl rfl); (· walk_at "ev"); (· walk_at "ev"); (· walk_at "in"); (· walk_at "get"); (· walk_at "up"); (· rfl); (· rfl); (· rfl)))))
local macro_rules | `(tactic| walk_at "ev") => `(tactic| ((with_reducible show Ev _ _ (Expr.BinOp (Expr.Constant _ _ _) _ _ _) _ _ _ _); first
  | ((with_reducible apply Ev.fYMD); (· walk_at "ev"); (· walk_at "get"); (· omega); (· omega); (· omega); (· omega); (· omega); (· omega))
  | ((with_reducible apply Ev.fWD); (· walk_at "ev"); (· walk_at "get"); (· omega); (· omega); (· omega); (· omega); (· omega); (· omega))
  | ((with_reducible apply Ev.fYM); (· walk_at "ev"); (· walk_at "get"); (· omega); (· omega); (· omega); (· omega))
  | ((with_reducible apply Ev.fW); (· walk_at "ev"); (· walk_at "get"); (· omega); (· omega); (· omega); (· omega))
  | ((with_reducible apply Ev.fYD); (· walk_at "ev"); (· walk_at "get"); (· omega); (· omega); (· omega); (· omega))
  | ((with_reducible apply Ev.fY); (· walk_at "ev"); (· omega); (· omega))
  | ((with_reducible apply Ev.f2); (· walk_at "ev"); (· omega); (· omega))
  | ((with_reducible apply Ev.f9); (· walk_at "ev"); (· omega); (· omega))
  | ((with_reducible apply Ev.fHM); (· walk_at "ev"); (· walk_at "get"); (· omega); (· omega); (· omega); (· omega))
  | fail))
local macro_rules | `(tactic| walk_at "asgSB") => `(tactic| ((with_reducible apply XP.step); (· (intro _ _; (with_reducible apply Ex1.asgSB ‹Sh _ _ _› rfl); (· walk_at "ev"); (· walk_at "ev"); (· walk_at "ev"); (· walk_at "ev"); (· walk_at "get"); (· decide); (· decide); (· rfl); (· walk_at "up"); (· rfl); (· rfl); (· rfl)))))
local macro_rules | `(tactic| walk_at "asgCell") => `(tactic| ((with_reducible apply XP.step); (· (intro _ _; (with_reducible apply Ex1.asgCell ‹Sh _ _ _› rfl); (· walk_at "ev"); (· walk_at "in"); (· walk_at "get"); (· rfl)))))
local macro_rules | `(tactic| walk_at "keep") => `(tactic| first | with_reducible exact kp633 | with_reducible exact kp640 | with_reducible exact kp622 | with_reducible exact kp647 | fail)
local macro_rules | `(tactic| walk_at "ev") => `(tactic| ((with_reducible show Ev _ _ (Expr.Name _ _) _ _ _ _); first
  | with_reducible exact ev_grange (by assumption) (by assumption)
  | with_reducible exact ev_g_law_number (by assumption) (by assumption)
  | with_reducible exact ev_g_law_day (by assumption) (by assumption)
  | with_reducible exact ev_gisoparser (by assumption) (by assumption)
  | with_reducible exact ev_gValueError (by assumption) (by assumption)
  | with_reducible exact ev_gmin (by assumption) (by assumption)
  | with_reducible exact ev_gint (by assumption) (by assumption)
  | with_reducible exact ev_g_law_offset (by assumption) (by assumption)
  | ((with_reducible show Ev _ _ (Expr.Name "script" _) _ _ _ _); (with_reducible apply ev_cscript); (· assumption); (· walk_at "in"); (· walk_at "get"))
  | ((with_reducible show Ev _ _ (Expr.Name "clock" _) _ _ _ _); (with_reducible apply ev_cclock); (· assumption); (· walk_at "in"); (· walk_at "get"))
  | ((with_reducible show Ev _ _ (Expr.Name "many" _) _ _ _ _); (with_reducible apply ev_cmany); (· assumption); (· walk_at "in"); (· walk_at "get"))
  | ((with_reducible apply Ev.lcA); (· assumption); (· walk_at "lk"); (· first | rfl | assumption))
  | fail))
local macro_rules | `(tactic| walk_at "cut") => `(tactic| first | ((with_reducible apply Cut.hiS); (· walk_at "tl"); (· omega)) | ((with_reducible apply Cut.lastS); (· walk_at "tl")) | fail)
local macro_rules | `(tactic| walk_at "tl") => `(tactic| ((try simp only [List.length_append, List.length_take, dgs_len, List.length_cons, List.length_nil, List.length_replicate]); omega))
local macro_rules | `(tactic| walk_at "ev") => `(tactic| ((with_reducible show Ev _ _ (Expr.IfExp _ _ _ _) _ _ _ _); (with_reducible apply Ev.sgn); (walk_at "bt")))
section
set_option Elab.async false
set_option maxRecDepth 100000
set_option maxHeartbeats 4000000
set_option simprocs false
set_option linter.unusedVariables false
open PySem PySem.Spec PySem.Calls PyProof.Rows PySem.W
variable {q : Pk}
/-- the numbers as they lie -/
def numL (s : List Int) : MObj := .list [.int (nb s 0), .int (nb s 1), .int (nb s 2), .int (nb s 3), .int (nb s 4), .int (nb s 5), .int (nb s 6), .int (nb s 7), .int (nb s 8)]
def form1 (s : List Int) (N : Int) : Int := if nb s 2 % 6 = 4 ∧ ¬ (0 < own N ∧ own N < 9999) then 0 else nb s 2 % 6
theorem law2 (ok : (C1 q).Ok) {body : List Stmt} (hb : LawB q body) {s : List Int} {n : Nat} {st : Sto} (hn : st[n]? = some (numL s)) {y N : Int} (hy : 1 + nb s 0 % 9998 = y) (hN : lawNum y 1 1 + nb s 1 % (lawNum (y + 1) 1 1 - lawNum y 1 1) = N) :
    XP (C1 q) lawG ((body.drop 1).take 11) [.obj n, .undef, .undef, .undef, .undef, .undef, .undef, .undef, .undef, .undef, .undef, .undef, .undef, .undef, .undef, .undef, .undef, .undef, .undef, .undef, .undef, .undef, .undef, .undef, .undef, .undef, .undef, .undef, .undef, .undef, .undef, .undef] st fun o m' st' => o = .ok .next ∧ Ext st st' ∧
      m' = [.obj n, .int (lawDayY N), .int (lawNum y 1 1), .int N, .int (lawDayM N), .int (lawDayD N), .int (form1 s N), .str (sgS (decide (nb s 2 / 6 % 2 = 1))), .int (nb s 8 % 40), .int (thu N), .int (own N), .int (cnt N), .bool false, .undef, .undef, .undef, .undef, .undef, .undef, .undef, .undef, .undef, .undef, .undef, .undef, .undef, .undef, .undef, .undef, .undef, .undef, .undef] := by
  obtain ⟨oc, od, osl, fd, h1, h2⟩ := hb
  cases h1
  cases h2
  simp only [List.drop_succ_cons, List.drop_zero, List.take_succ_cons, List.take_zero]
  have D : Day y N := by rw [← hN, ← hy]; exact Day.of
  have hpos : 0 < lawNum (y + 1) 1 1 - lawNum y 1 1 := by
    have := yb_succ y
    have := bi_cases (leap y)
    rw [lawNum_one, lawNum_one]; omega
  have c1 := fun y mo d st => lawNumber_ (q := q) ok true rfl (y := y) (mo := mo) (d := d) (st := st)
  have c2 := fun n st => lawDay_ (q := q) ok true rfl (n := n) (st := st)
  unfold numL at hn
  walk_at "asg"
  rw [hy]
  walk_at "asg"
  refine XP.keep (st := st) (by walk_at "ext") fun st1 X1 => ?_
  have hn1 := X1.get hn
  walk_at "asg"
  rw [hN]
  refine XP.keep (st := st) (X1.trans (by walk_at "ext")) fun st2 X2 => ?_
  have hn2 := X2.get hn
  walk_at "asgT"
  refine XP.keep (st := st) (X2.trans (by walk_at "ext")) fun st3 X3 => ?_
  have hn3 := X3.get hn
  have hpk : ∀ fr st, Item (C1 q) fr (st ++ [.list [.str "", .str "-"]]) (.obj st.length) (.int (nb s 2 / 6 % 2)) (.ok (.str (sgS (decide (nb s 2 / 6 % 2 = 1))))) (st ++ [.list [.str "", .str "-"]]) := fun fr st => by
    have := Item.list (c := C1 q) (fr := fr) (i := nb s 2 / 6 % 2) (get_last (st := st) (o := .list [.str "", .str "-"])) (by omega) (by omega) (pick2 (by omega) (by omega))
    have e : (if nb s 2 / 6 % 2 = 1 then (.str "-" : V) else .str "") = .str (sgS (decide (nb s 2 / 6 % 2 = 1))) := by
      by_cases h : nb s 2 / 6 % 2 = 1
      · rw [if_pos h, decide_eq_true h]; rfl
      · rw [if_neg h, decide_eq_false h]; rfl
    rwa [e] at this
  walk_at "asg2"
  refine XP.keep (st := st) (X3.trans (by walk_at "ext")) fun st4 X4 => ?_
  have hn4 := X4.get hn
  walk_at "asg"
  walk_at "asg"
  rw [show N - (N + 1) % 7 + 3 = thu N from rfl]
  walk_at "asg"
  rw [show lawDayY (thu N) = own N from rfl]
  refine XP.keep (st := st) (X4.trans (by walk_at "ext")) fun st5 X5 => ?_
  walk_at "asg"
  rw [show (thu N - lawNum (own N) 1 1) / 7 + 1 = cnt N from rfl]
  refine XP.keep (st := st) (X5.trans (by walk_at "ext")) fun st6 X6 => ?_
  walk_at "asg"
  generalize hf : nb s 2 % 6 = f
  walk_at "ite"
  · intro h
    walk_at "asg"
    with_reducible apply XP.nil
    refine ⟨rfl, X6, ?_⟩
    unfold form1
    rw [hf, if_pos (by simp at h; omega)]
  · intro h
    with_reducible apply XP.nil
    refine ⟨rfl, X6, ?_⟩
    unfold form1
    rw [hf, if_neg (by simp at h; omega)]
end
section
set_option Elab.async false
set_option maxRecDepth 100000
set_option maxHeartbeats 4000000
set_option simprocs false
set_option linter.unusedVariables false
open PySem PySem.Spec PySem.Calls PyProof.Rows PySem.W
variable {q : Pk}
/-- what the store holds for the law -/
structure LS (s : List Int) (n : Nat) (st : Sto) : Prop where
  num : st[n]? = some (numL s)
  c1 : ∃ o, st[1]? = some (.cell o)
  c2 : ∃ o, st[2]? = some (.cell o)
  n3 : 3 ≤ n
theorem LS.ext {s : List Int} {n : Nat} {st st' : Sto} (L : LS s n st) (X : Ext st st') : LS s n st' := by
  obtain ⟨h, ⟨o1, h1⟩, ⟨o2, h2⟩, h3⟩ := L
  exact ⟨X.get h, ⟨o1, X.get h1⟩, ⟨o2, X.get h2⟩, h3⟩
theorem LS.set1 {s : List Int} {n : Nat} {st : Sto} (L : LS s n st) (v : Option V) : LS s n (st.set 1 (.cell v)) := by
  obtain ⟨h, ⟨o1, h1⟩, ⟨o2, h2⟩, h3⟩ := L
  exact ⟨get_set_ne h (by omega), ⟨_, get_set h1⟩, ⟨o2, get_set_ne h2 (by omega)⟩, h3⟩
theorem LS.set2 {s : List Int} {n : Nat} {st : Sto} (L : LS s n st) (v : Option V) : LS s n (st.set 2 (.cell v)) := by
  obtain ⟨h, ⟨o1, h1⟩, ⟨o2, h2⟩, h3⟩ := L
  exact ⟨get_set_ne h (by omega), ⟨o1, get_set_ne h1 (by omega)⟩, ⟨_, get_set h2⟩, h3⟩
theorem LS.setj {s : List Int} {n j : Nat} {st : Sto} (L : LS s n st) (h3 : 3 ≤ j) (hj : j ≠ n) (o : MObj) : LS s n (st.set j o) := by
  obtain ⟨h, ⟨o1, h1⟩, ⟨o2, h2⟩, h3⟩ := L
  exact ⟨get_set_ne h (by omega), ⟨o1, get_set_ne h1 (by omega)⟩, ⟨o2, get_set_ne h2 (by omega)⟩, h3⟩
theorem LS.lt {s : List Int} {n : Nat} {st : Sto} (L : LS s n st) : n < st.length := (List.getElem?_eq_some_iff.mp L.num).1
def B4 (s : List Int) (n : Nat) (y N f w : Int) (b : Bool) (o : Out FV) (m' : Loc) (st' : Sto) : Prop :=
  o = .ok .next ∧ LS s n st' ∧ ∃ (t : TX) (wh rf : Bool) (y' mo' d' : Int) (pv : V), m' = [.obj n, .int y', .int (lawNum y 1 1), .int N, .int mo', .int d', .int f, .str (sgS b), .int w, .int (thu N), .int (own N), .int (cnt N), .bool rf, pv, .str ⟨t.toArray⟩, .bool wh, .undef, .undef, .undef, .undef, .undef, .undef, .undef, .undef, .undef, .undef, .undef, .undef, .undef, .undef, .undef, .undef]
    ∧ DTx t wh rf y' mo' d' ∧ (wh = true → y' = y ∧ mo' = lawDayM N ∧ d' = lawDayD N)
theorem law4 (ok : (C1 q).Ok) {body : List Stmt} (hb : LawB q body) {s : List Int} {n : Nat} {st : Sto} (L : LS s n st) {y N f w : Int} {b : Bool} (D : Day y N) :
    XP (C1 q) lawG ((body.drop 12).take 1) [.obj n, .int y, .int (lawNum y 1 1), .int N, .int (lawDayM N), .int (lawDayD N), .int f, .str (sgS b), .int w, .int (thu N), .int (own N), .int (cnt N), .bool false, .undef, .undef, .undef, .undef, .undef, .undef, .undef, .undef, .undef, .undef, .undef, .undef, .undef, .undef, .undef, .undef, .undef, .undef, .undef] st (B4 s n y N f w b) := by
  obtain ⟨oc, od, osl, fd, h1, h2⟩ := hb
  cases h1
  cases h2
  simp only [List.drop_succ_cons, List.drop_zero, List.take_succ_cons, List.take_zero]
  have c1 := fun y mo d st => lawNumber_ (q := q) ok true rfl (y := y) (mo := mo) (d := d) (st := st)
  have c2 := fun n st => lawDay_ (q := q) ok true rfl (n := n) (st := st)
  have hm := D.mo
  have hy1 := D.y1
  have hy2 := D.y2
  obtain ⟨a1, a2, a3, a4, a5⟩ := own_spec D
  have hc := cnt_spec D
  have hnum := L.num
  have hlt := L.lt
  have hn3 := L.n3
  unfold numL at hnum
  walk_at "ite"
  · intro _
    walk_at "asg"
    have hp : (st ++ [.list [.int y, .int (lawDayM N), .int (lawDayD N)]])[st.length]? = some (.list [.int y, .int (lawDayM N), .int (lawDayD N)]) := get_last
    have LL := L.ext (Ext.add (st := st) (l := [.list [.int y, .int (lawDayM N), .int (lawDayD N)]]))
    generalize (st ++ [.list [.int y, .int (lawDayM N), .int (lawDayD N)]]) = st1 at hp LL ⊢
    generalize hj : st.length = j at hp ⊢
    by_cases h2 : w = 2
    · subst h2
      walk_at "ite"
      · intro _
        walk_at "asgSB"
        have hp2 : ((st1 ++ [MObj.list [.int 13, .int 32]] ++ [MObj.tuple [.int 13, .bool true]]).set j (.list ([V.int y, .int (lawDayM N), .int (lawDayD N)].set ((2 : Int) - 1).toNat (.int 13))))[j]? = some (.list [.int y, .int 13, .int (lawDayD N)]) := get_set (Ext.get Ext.add (Ext.get Ext.add hp))
        have LL2 := ((LL.ext (Ext.add (l := [MObj.list [.int 13, .int 32]]))).ext (Ext.add (l := [MObj.tuple [.int 13, .bool true]]))).setj (j := j) (by omega) (by omega) (.list ([V.int y, .int (lawDayM N), .int (lawDayD N)].set ((2 : Int) - 1).toNat (.int 13)))
        revert hp2 LL2
        generalize ((st1 ++ [MObj.list [.int 13, .int 32]] ++ [MObj.tuple [.int 13, .bool true]]).set j (.list ([V.int y, .int (lawDayM N), .int (lawDayD N)].set ((2 : Int) - 1).toNat (.int 13)))) = st2
        intro hp2 LL2
        walk_at "asg"
        walk_at "asg"
        with_reducible apply XP.nil
        refine ⟨rfl, LL2.ext Ext.add, _, true, true, y, lawDayM N, lawDayD N, _, rfl, dtx_ymdBad hy1 hy2 (by decide) (by decide) (by omega) (by omega) (.inl rfl) b, fun _ => ⟨rfl, rfl, rfl⟩⟩
      · intro e; exact absurd e (by decide)
    · by_cases h3 : w = 3
      · subst h3
        walk_at "ite"
        · intro _
          walk_at "asgSB"
          have hp2 : ((st1 ++ [MObj.list [.int 13, .int 32]] ++ [MObj.tuple [.int 32, .bool true]]).set j (.list ([V.int y, .int (lawDayM N), .int (lawDayD N)].set ((3 : Int) - 1).toNat (.int 32))))[j]? = some (.list [.int y, .int (lawDayM N), .int 32]) := get_set (Ext.get Ext.add (Ext.get Ext.add hp))
          have LL2 := ((LL.ext (Ext.add (l := [MObj.list [.int 13, .int 32]]))).ext (Ext.add (l := [MObj.tuple [.int 32, .bool true]]))).setj (j := j) (by omega) (by omega) (.list ([V.int y, .int (lawDayM N), .int (lawDayD N)].set ((3 : Int) - 1).toNat (.int 32)))
          revert hp2 LL2
          generalize ((st1 ++ [MObj.list [.int 13, .int 32]] ++ [MObj.tuple [.int 32, .bool true]]).set j (.list ([V.int y, .int (lawDayM N), .int (lawDayD N)].set ((3 : Int) - 1).toNat (.int 32)))) = st2
          intro hp2 LL2
          walk_at "asg"
          walk_at "asg"
          with_reducible apply XP.nil
          refine ⟨rfl, LL2.ext Ext.add, _, true, true, y, lawDayM N, lawDayD N, _, rfl, dtx_ymdBad hy1 hy2 (by omega) (by omega) (by decide) (by decide) (.inr rfl) b, fun _ => ⟨rfl, rfl, rfl⟩⟩
        · intro e; exact absurd e (by decide)
      · walk_at "ite"
        · intro e; simp at e; omega
        · intro _
          walk_at "asg"
          walk_at "asg"
          with_reducible apply XP.nil
          refine ⟨rfl, LL.ext Ext.add, _, true, false, y, lawDayM N, lawDayD N, _, rfl, dtx_ymd D b, fun _ => ⟨rfl, rfl, rfl⟩⟩
  · intro _
    walk_at "ite"
    · intro _
      walk_at "asgT"
      with_reducible apply XP.nil
      exact ⟨rfl, L.ext Ext.add, _, false, false, y, 1, 1, _, rfl, dtx_y D, fun e => nomatch e⟩
    · intro _
      walk_at "ite"
      · intro _
        walk_at "asg3"
        with_reducible apply XP.nil
        exact ⟨rfl, L.ext (by walk_at "ext"), _, false, false, y, lawDayM N, 1, _, rfl, dtx_ym D, fun e => nomatch e⟩
      · intro _
        walk_at "ite"
        · intro _
          walk_at "asg2"
          refine XP.keep (st := st) (by walk_at "ext") fun st1 X1 => ?_
          by_cases h : w = 4
          · subst h
            walk_at "ite"
            · intro _
              walk_at "asg2"
              refine XP.keep (st := st) (X1.trans (by walk_at "ext")) fun st2 X2 => ?_
              walk_at "ite"
              · intro e; exact absurd e (by decide)
              · intro _
                with_reducible apply XP.nil
                exact ⟨rfl, L.ext X2, _, true, true, y, lawDayM N, lawDayD N, _, rfl, dtx_weekBad D b (by omega) (by omega) (by decide) (by decide) (.inr (by decide)), fun _ => ⟨rfl, rfl, rfl⟩⟩
            · intro e; exact absurd e (by decide)
          by_cases h : w = 5
          · subst h
            walk_at "ite"
            · intro _
              walk_at "asg2"
              refine XP.keep (st := st) (X1.trans (by walk_at "ext")) fun st2 X2 => ?_
              walk_at "ite"
              · intro e; exact absurd e (by decide)
              · intro _
                with_reducible apply XP.nil
                exact ⟨rfl, L.ext X2, _, true, true, y, lawDayM N, lawDayD N, _, rfl, dtx_weekBad D b (by omega) (by omega) (by decide) (by decide) (.inr (by decide)), fun _ => ⟨rfl, rfl, rfl⟩⟩
            · intro e; exact absurd e (by decide)
          by_cases h : w = 6
          · subst h
            walk_at "ite"
            · intro e; exact absurd e (by decide)
            · intro _
              walk_at "ite"
              · intro _
                walk_at "asg2"
                with_reducible apply XP.nil
                exact ⟨rfl, L.ext (X1.trans (by walk_at "ext")), _, true, true, y, lawDayM N, lawDayD N, _, rfl, dtx_weekBad D b (by decide) (by decide) (by decide) (by decide) (.inl (by decide)), fun _ => ⟨rfl, rfl, rfl⟩⟩
              · intro e; exact absurd e (by decide)
          by_cases h : w = 7
          · subst h
            walk_at "ite"
            · intro e; exact absurd e (by decide)
            · intro _
              walk_at "ite"
              · intro _
                walk_at "asg2"
                with_reducible apply XP.nil
                exact ⟨rfl, L.ext (X1.trans (by walk_at "ext")), _, true, true, y, lawDayM N, lawDayD N, _, rfl, dtx_weekBad D b (by decide) (by decide) (by decide) (by decide) (.inl (by decide)), fun _ => ⟨rfl, rfl, rfl⟩⟩
              · intro e; exact absurd e (by decide)
          walk_at "ite"
          · intro e; simp at e; omega
          · intro _
            walk_at "ite"
            · intro e; simp at e; omega
            · intro _
              with_reducible apply XP.nil
              exact ⟨rfl, L.ext X1, _, true, false, y, lawDayM N, lawDayD N, _, rfl, dtx_week D b, fun _ => ⟨rfl, rfl, rfl⟩⟩
        · intro _
          walk_at "ite"
          · intro _
            walk_at "asgT"
            refine XP.keep (st := st) (by walk_at "ext") fun st1 X1 => ?_
            walk_at "asg2"
            with_reducible apply XP.nil
            exact ⟨rfl, L.ext (X1.trans (by walk_at "ext")), _, false, false, _, _, _, _, rfl, dtx_w D b, fun e => nomatch e⟩
          · intro _
            obtain ⟨o2, hc2⟩ := L.c2
            have hd1 : 0 ≤ N - lawNum y 1 1 + 1 ∧ N - lawNum y 1 1 + 1 < 1000 := by
              have := D.n1
              have := D.n2
              have := yb_succ y
              have := bi_cases (leap y)
              rw [lawNum_one]; omega
            have hd2 : 0 ≤ lawNum (y + 1) 1 1 - lawNum y 1 1 + 1 ∧ lawNum (y + 1) 1 1 - lawNum y 1 1 + 1 < 1000 := by
              have := yb_succ y
              have := bi_cases (leap y)
              rw [lawNum_one, lawNum_one]; omega
            walk_at "asgCell"
            have hc3 : (st.set 2 (.cell (some (.int (N - lawNum y 1 1 + 1)))))[2]? = some (.cell (some (.int (N - lawNum y 1 1 + 1)))) := get_set hc2
            have L3 := L.set2 (some (.int (N - lawNum y 1 1 + 1)))
            generalize st.set 2 (.cell (some (.int (N - lawNum y 1 1 + 1)))) = st1 at hc3 L3 ⊢
            by_cases h8 : w = 8
            · subst h8
              walk_at "ite"
              · intro _
                walk_at "asgX2"
                have LL : LS s n (((st1 ++ [MObj.tuple [.int (lawY (y + 1) 1), .int (lawM 1)]] ++ [MObj.list [.int 0, .int (lawNum (y + 1) 1 1 - lawNum y 1 1 + 1)]]) ++ [MObj.tuple [.int (0), .bool true]]).set 2 (.cell (some (.int (0))))) := (L3.ext (by walk_at "ext")).set2 _
                have hc4 : (((st1 ++ [MObj.tuple [.int (lawY (y + 1) 1), .int (lawM 1)]] ++ [MObj.list [.int 0, .int (lawNum (y + 1) 1 1 - lawNum y 1 1 + 1)]]) ++ [MObj.tuple [.int (0), .bool true]]).set 2 (.cell (some (.int (0)))))[2]? = some (.cell (some (.int (0)))) := get_set (Ext.get Ext.add (Ext.get Ext.add (Ext.get Ext.add hc3)))
                revert LL hc4
                generalize (((st1 ++ [MObj.tuple [.int (lawY (y + 1) 1), .int (lawM 1)]] ++ [MObj.list [.int 0, .int (lawNum (y + 1) 1 1 - lawNum y 1 1 + 1)]]) ++ [MObj.tuple [.int (0), .bool true]]).set 2 (.cell (some (.int (0))))) = st2
                intro LL hc4
                walk_at "asg2"
                with_reducible apply XP.nil
                exact ⟨rfl, LL.ext (by walk_at "ext"), _, true, true, y, lawDayM N, lawDayD N, _, rfl, dtx_ydBad hy1 hy2 b (.inl rfl), fun _ => ⟨rfl, rfl, rfl⟩⟩
              · intro e; exact absurd e (by decide)
            by_cases h8 : w = 9
            · subst h8
              walk_at "ite"
              · intro _
                walk_at "asgX2"
                have LL : LS s n (((st1 ++ [MObj.tuple [.int (lawY (y + 1) 1), .int (lawM 1)]] ++ [MObj.list [.int 0, .int (lawNum (y + 1) 1 1 - lawNum y 1 1 + 1)]]) ++ [MObj.tuple [.int (lawNum (y + 1) 1 1 - lawNum y 1 1 + 1), .bool true]]).set 2 (.cell (some (.int (lawNum (y + 1) 1 1 - lawNum y 1 1 + 1))))) := (L3.ext (by walk_at "ext")).set2 _
                have hc4 : (((st1 ++ [MObj.tuple [.int (lawY (y + 1) 1), .int (lawM 1)]] ++ [MObj.list [.int 0, .int (lawNum (y + 1) 1 1 - lawNum y 1 1 + 1)]]) ++ [MObj.tuple [.int (lawNum (y + 1) 1 1 - lawNum y 1 1 + 1), .bool true]]).set 2 (.cell (some (.int (lawNum (y + 1) 1 1 - lawNum y 1 1 + 1)))))[2]? = some (.cell (some (.int (lawNum (y + 1) 1 1 - lawNum y 1 1 + 1)))) := get_set (Ext.get Ext.add (Ext.get Ext.add (Ext.get Ext.add hc3)))
                revert LL hc4
                generalize (((st1 ++ [MObj.tuple [.int (lawY (y + 1) 1), .int (lawM 1)]] ++ [MObj.list [.int 0, .int (lawNum (y + 1) 1 1 - lawNum y 1 1 + 1)]]) ++ [MObj.tuple [.int (lawNum (y + 1) 1 1 - lawNum y 1 1 + 1), .bool true]]).set 2 (.cell (some (.int (lawNum (y + 1) 1 1 - lawNum y 1 1 + 1))))) = st2
                intro LL hc4
                walk_at "asg2"
                with_reducible apply XP.nil
                exact ⟨rfl, LL.ext (by walk_at "ext"), _, true, true, y, lawDayM N, lawDayD N, _, rfl, dtx_ydBad hy1 hy2 b (.inr rfl), fun _ => ⟨rfl, rfl, rfl⟩⟩
              · intro e; exact absurd e (by decide)
            walk_at "ite"
            · intro e; simp at e; omega
            · intro _
              walk_at "asg2"
              with_reducible apply XP.nil
              exact ⟨rfl, L3.ext (by walk_at "ext"), _, true, false, y, lawDayM N, lawDayD N, _, rfl, dtx_yd D b, fun _ => ⟨rfl, rfl, rfl⟩⟩
end
section
set_option Elab.async false
set_option maxRecDepth 100000
set_option maxHeartbeats 4000000
set_option simprocs false
set_option linter.unusedVariables false
open PySem PySem.Spec PySem.Calls PyProof.Rows PySem.W
variable {q : Pk}
def sepOf (s : List Int) : Option Nat := if nb s 3 / 2 % 2 = 1 then some 84 else none
theorem law5a (ok : (C1 q).Ok) {body : List Stmt} (hb : LawB q body) {s : List Int} {n : Nat} {st : Sto} (L : LS s n st) {vy vo vN vm vd vf vs vw vwk vown vc vr vp vt vwh : V} :
    XP (C1 q) lawG ((body.drop 13).take 1) [.obj n, vy, vo, vN, vm, vd, vf, vs, vw, vwk, vown, vc, vr, vp, vt, vwh, .undef, .undef, .undef, .undef, .undef, .undef, .undef, .undef, .undef, .undef, .undef, .undef, .undef, .undef, .undef, .undef] st (fun o m' st' => o = .ok .next ∧ Ext st st' ∧ ∃ k, st.length ≤ k ∧ st'[k]? = some (rd (sepV (sepOf s))) ∧ m' = [.obj n, vy, vo, vN, vm, vd, vf, vs, vw, vwk, vown, vc, vr, vp, vt, vwh, .obj k, .undef, .undef, .undef, .undef, .undef, .undef, .undef, .undef, .undef, .undef, .undef, .undef, .undef, .undef, .undef]) := by
  obtain ⟨oc, od, osl, fd, h1, h2⟩ := hb
  cases h1
  cases h2
  simp only [List.drop_succ_cons, List.drop_zero, List.take_succ_cons, List.take_zero]
  have hnum := L.num
  unfold numL at hnum
  have c1 := rdMake0 (q := q) ok true (st := st)
  have c2 := rdMakeT (q := q) ok true (st := st)
  with_reducible apply XP.step (m₁ := [.obj n, vy, vo, vN, vm, vd, vf, vs, vw, vwk, vown, vc, vr, vp, vt, vwh, .obj st.length, .undef, .undef, .undef, .undef, .undef, .undef, .undef, .undef, .undef, .undef, .undef, .undef, .undef, .undef, .undef]) (st₁ := st ++ [rd (sepV (sepOf s))])
  · intro fr F'
    refine Ex1.asgA (v := .obj st.length) F' ?_ (by walk_at "up") rfl
    unfold sepOf
    by_cases h : nb s 3 / 2 % 2 = 1
    · rw [if_pos h]
      refine Ev.ifexp (t := true) (st₁ := st) (Bt.conv (b := (nb s 3 / 2 % 2 == 1)) (by walk_at "bt") (by rw [h]; rfl)) (fun _ => ?_) (fun e => nomatch e)
      walk_at "ev"
    · rw [if_neg h]
      refine Ev.ifexp (t := false) (st₁ := st) (Bt.conv (b := (nb s 3 / 2 % 2 == 1)) (by walk_at "bt") (by simpa using h)) (fun e => nomatch e) (fun _ => ?_)
      walk_at "ev"
  · with_reducible apply XP.nil
    exact ⟨rfl, Ext.add, _, Nat.le_refl _, get_last, rfl⟩
end
section
set_option Elab.async false
set_option maxRecDepth 100000
set_option maxHeartbeats 4000000
set_option simprocs false
set_option linter.unusedVariables false
open PySem PySem.Spec PySem.Calls PyProof.Rows PySem.W
variable {q : Pk}
theorem eqvL3 {a b c : Int} : eqvL [V.int a, .int b, .int c] [.int a, .int b, .int c] = true := by simp [eqvL, V.eqv]
theorem pair_ints : ∀ (as bs : List Int), as.length = bs.length → ∀ j < min (as.map V.int).length (bs.map V.int).length, ((as.map V.int).getD j .none).pair ((bs.map V.int).getD j .none) = true
  | [], bs, _, j, h => by simp at h
  | a :: as, [], h, j, _ => by simp at h
  | a :: as, b :: bs, h, 0, _ => rfl
  | a :: as, b :: bs, h, j + 1, hj => by
    have := pair_ints as bs (by simpa using h) j (by simp at hj ⊢; omega)
    simpa using this
/-- the day alone -/
theorem law6 (ok : (C1 q).Ok) {body : List Stmt} (hb : LawB q body) {s : List Int} {n k : Nat} {st : Sto} (L : LS s n st) (hk : st[k]? = some (rd (sepV (sepOf s)))) {t : TX} {wh rf : Bool} {y' mo' d' : Int} (T : DTx t wh rf y' mo' d') {vo vN vf vs vw vwk vown vc vp : V} :
    XP (C1 q) lawG ((body.drop 14).take 1) [.obj n, .int y', vo, vN, .int mo', .int d', vf, vs, vw, vwk, vown, vc, .bool rf, vp, .str ⟨t.toArray⟩, .bool wh, .obj k, .undef, .undef, .undef, .undef, .undef, .undef, .undef, .undef, .undef, .undef, .undef, .undef, .undef, .undef, .undef] st
      (fun o m' st' => o = .ok (.ret (.bool true)) ∨ (o = .ok .next ∧ wh = true ∧ st' = st ∧ m' = [.obj n, .int y', vo, vN, .int mo', .int d', vf, vs, vw, vwk, vown, vc, .bool rf, vp, .str ⟨t.toArray⟩, .bool wh, .obj k, .undef, .undef, .undef, .undef, .undef, .undef, .undef, .undef, .undef, .undef, .undef, .undef, .undef, .undef, .undef])) := by
  obtain ⟨oc, od, osl, fd, h1, h2⟩ := hb
  cases h1
  cases h2
  simp only [List.drop_succ_cons, List.drop_zero, List.take_succ_cons, List.take_zero]
  have hnum := L.num
  unfold numL at hnum
  obtain ⟨r, st1, c1, x1, e1⟩ := pIsodate_ (q := q) ok hk (.inl rfl : TextOf t (.str ⟨t.toArray⟩)) T.asc (by have := T.len; omega)
  walk_at "ite"
  · intro _
    rcases dayOnly_of T with ⟨hr, hd⟩ | ⟨hr, hd⟩
    · rw [hd] at e1
      obtain ⟨j, rfl, hj⟩ := e1
      with_reducible apply XP.step (m₁ := [.obj n, .int y', vo, vN, .int mo', .int d', vf, vs, vw, vwk, vown, vc, .bool rf, vp, .str ⟨t.toArray⟩, .bool wh, .obj k, .obj j, .undef, .undef, .undef, .undef, .undef, .undef, .undef, .undef, .undef, .undef, .undef, .undef, .undef, .undef]) (st₁ := st1)
      · intro fr F'
        refine Ex1.tryOk (Ex.cons (Ex1.asgA F' ?_ (by walk_at "up") rfl) Ex.nil)
        walk_at "ev"
      · apply XP.ret (v := .bool (!rf && eqvL [V.int y', .int mo', .int d'] [.int y', .int mo', .int d'])) (st₁ := st1 ++ [.tuple [.int y', .int mo', .int d']] ++ [.tuple [.int y', .int mo', .int d']])
        · intro fr F'
          subst hr
          refine Ev.conv (v := .bool (eqvL [.int y', .int mo', .int d'] [.int y', .int mo', .int d'])) (Ev.andT (st₁ := st1) (Ev.notB (b := false) (by walk_at "ev")) ?_) rfl
          with_reducible apply Ev.cmp
          · walk_at "ev"
          · walk_at "ev"
          · exact Cmp2.eqT (by have := F'.fit.lv; omega) (Ext.get Ext.add get_last) get_last (pair_ints [y', mo', d'] [y', mo', d'] rfl)
          · rfl
        · left
          rw [eqvL3, hr]; rfl
    · rw [hd] at e1
      obtain ⟨kx, rfl⟩ := e1
      with_reducible apply XP.stop (f := .ret (.bool true)) (m₁ := [.obj n, .int y', vo, vN, .int mo', .int d', vf, vs, vw, vwk, vown, vc, .bool rf, vp, .str ⟨t.toArray⟩, .bool wh, .obj k, .undef, .undef, .undef, .undef, .undef, .undef, .undef, .undef, .undef, .undef, .undef, .undef, .undef, .undef, .undef]) (st₁ := st1)
      · intro fr F'
        refine Ex1.tryType (st₁ := st1) (m₁ := [.obj n, .int y', vo, vN, .int mo', .int d', vf, vs, vw, vwk, vown, vc, .bool rf, vp, .str ⟨t.toArray⟩, .bool wh, .obj k, .undef, .undef, .undef, .undef, .undef, .undef, .undef, .undef, .undef, .undef, .undef, .undef, .undef, .undef, .undef]) (F'.head rfl) (b := false) (X := ⟨"ValueError", kx⟩) (T := "ValueError") (fun e => nomatch e) catch_ValueError sub_VV (Ex.stopE (Ex1.asgEA ?_ rfl)) (fun e => ?_) fun e => ?_
        · walk_at "ev"
        · exact Ev.glF ok F'.fri.handling (by walk_at "in")
        · refine Ex.stop (fun e => nomatch e) (.ret ?_)
          subst hr
          exact Ev.lc F'.fri.handling (by walk_at "lk")
      · exact fun e => nomatch e
      · exact .inl rfl
  · intro h
    with_reducible apply XP.nil
    right
    refine ⟨rfl, ?_, rfl, rfl⟩
    cases wh
    · simp at h
    · rfl
end
section
set_option Elab.async false
set_option maxRecDepth 100000
set_option maxHeartbeats 4000000
set_option simprocs false
set_option linter.unusedVariables false
open PySem PySem.Spec PySem.Calls PyProof.Rows PySem.W
variable {q : Pk}
/-- the sign between the clock's parts -/
abbrev coS (b : Bool) : Str := ⟨(col b).toArray⟩
def maskV (a0 a1 a2 mm : Int) : V → V
  | .int 0 => .int a0
  | .int 1 => .int (if 1 ≤ mm then a1 else 0)
  | .int 2 => .int (if 2 ≤ mm then a2 else 0)
  | _ => .none
/-- what the store holds when the clock is laid -/
structure CK (s : List Int) (n k kc : Nat) (mm c0 c1 c2 c3 : Int) (st : Sto) : Prop where
  ls : LS s n st
  rd : st[k]? = some (rd (sepV (sepOf s)))
  ck : st[1]? = some (.cell (some (.obj kc)))
  mn : st[2]? = some (.cell (some (.int mm)))
  li : st[kc]? = some (.list [.int c0, .int c1, .int c2, .int c3])
  k3 : 3 ≤ k
  kc3 : 3 ≤ kc
  kcn : kc ≠ n
  kck : kc ≠ k
theorem CK.ext {s : List Int} {n k kc : Nat} {mm c0 c1 c2 c3 : Int} {st st' : Sto} (C : CK s n k kc mm c0 c1 c2 c3 st) (X : Ext st st') : CK s n k kc mm c0 c1 c2 c3 st' :=
  ⟨C.ls.ext X, X.get C.rd, X.get C.ck, X.get C.mn, X.get C.li, C.k3, C.kc3, C.kcn, C.kck⟩
theorem CK.setc {s : List Int} {n k kc : Nat} {mm c0 c1 c2 c3 : Int} {st : Sto} (C : CK s n k kc mm c0 c1 c2 c3 st) {d0 d1 d2 d3 : Int} : CK s n k kc mm d0 d1 d2 d3 (st.set kc (.list [.int d0, .int d1, .int d2, .int d3])) :=
  ⟨C.ls.setj C.kc3 C.kcn _, get_set_ne C.rd C.kck, get_set_ne C.ck (by have := C.kc3; omega), get_set_ne C.mn (by have := C.kc3; omega), get_set C.li, C.k3, C.kc3, C.kcn, C.kck⟩
/-- a new clock's list -/
theorem CK.new {s : List Int} {n k kc : Nat} {mm c0 c1 c2 c3 : Int} {st st' : Sto} (C : CK s n k kc mm c0 c1 c2 c3 st) {j : Nat} {d0 d1 d2 d3 : Int} (X : Ext st st') (hj : st'[j]? = some (.list [.int d0, .int d1, .int d2, .int d3])) (hl : st.length ≤ j) : CK s n k j mm d0 d1 d2 d3 (st'.set 1 (.cell (some (.obj j)))) := by
  have a := C.ls.lt
  have b := (List.getElem?_eq_some_iff.mp C.rd).1
  have c := C.ls.n3
  have d := C.k3
  exact ⟨(C.ls.ext X).set1 _, get_set_ne (X.get C.rd) (by omega), get_set (X.get C.ck), get_set_ne (X.get C.mn) (by omega), get_set_ne hj (by omega), C.k3, by omega, by omega, by omega⟩
theorem law7 (ok : (C1 q).Ok) {body : List Stmt} (hb : LawB q body) {s : List Int} {n k : Nat} {st : Sto} (L : LS s n st) (hk : st[k]? = some (rd (sepV (sepOf s)))) (hk3 : 3 ≤ k) {vy vo vN vm vd vf vs vw vwk vown vc vrf vp vt vwh vr : V} :
    XP (C1 q) lawG ((body.drop 15).take 3) [.obj n, vy, vo, vN, vm, vd, vf, vs, vw, vwk, vown, vc, vrf, vp, vt, vwh, vr, .undef, .undef, .undef, .undef, .undef, .undef, .undef, .undef, .undef, .undef, .undef, .undef, .undef, .undef, .undef] st
      (fun o m' st' => o = .ok .next ∧ m' = [.obj n, vy, vo, vN, vm, vd, vf, vs, vw, vwk, vown, vc, vrf, vp, vt, vwh, vr, .undef, .str (coS (decide (nb s 5 / 4 % 2 = 1))), .undef, .undef, .undef, .undef, .undef, .undef, .undef, .undef, .undef, .undef, .undef, .undef, .undef] ∧
        ∃ kc, CK s n k kc (nb s 5 % 4) (nb s 4 % 24) (if 1 ≤ nb s 5 % 4 then nb s 4 / 24 % 60 else 0) (if 2 ≤ nb s 5 % 4 then nb s 4 / 1440 % 60 else 0) 0 st') := by
  obtain ⟨oc, od, osl, fd, h1, h2⟩ := hb
  cases h1
  cases h2
  simp only [List.drop_succ_cons, List.drop_zero, List.take_succ_cons, List.take_zero]
  have hnum := L.num
  unfold numL at hnum
  obtain ⟨o1, hc1⟩ := L.c1
  obtain ⟨o2, hc2⟩ := L.c2
  have hpk : ∀ fr st, Item (C1 q) fr (st ++ [.list [.str "", .str ":"]]) (.obj st.length) (.int (nb s 5 / 4 % 2)) (.ok (.str (coS (decide (nb s 5 / 4 % 2 = 1))))) (st ++ [.list [.str "", .str ":"]]) := fun fr st => by
    have := Item.list (c := C1 q) (fr := fr) (i := nb s 5 / 4 % 2) (get_last (st := st) (o := .list [.str "", .str ":"])) (by omega) (by omega) (pick2 (by omega) (by omega))
    have e : (if nb s 5 / 4 % 2 = 1 then (.str ":" : V) else .str "") = .str (coS (decide (nb s 5 / 4 % 2 = 1))) := by
      by_cases h : nb s 5 / 4 % 2 = 1
      · rw [if_pos h, decide_eq_true h]; rfl
      · rw [if_neg h, decide_eq_false h]; rfl
    rwa [e] at this
  walk_at "asgCell"
  have hlt := L.lt
  have hn3 := L.n3
  have hlk := (List.getElem?_eq_some_iff.mp hk).1
  have L1 : LS s n ((st ++ [MObj.list [.int (nb s 4 % 24), .int (nb s 4 / 24 % 60), .int (nb s 4 / 1440 % 60), .int 0]]).set 1 (.cell (some (.obj st.length)))) := (L.ext Ext.add).set1 _
  have hk1 : ((st ++ [MObj.list [.int (nb s 4 % 24), .int (nb s 4 / 24 % 60), .int (nb s 4 / 1440 % 60), .int 0]]).set 1 (.cell (some (.obj st.length))))[k]? = some (rd (sepV (sepOf s))) := get_set_ne (Ext.get Ext.add hk) (by omega)
  have hc11 : ((st ++ [MObj.list [.int (nb s 4 % 24), .int (nb s 4 / 24 % 60), .int (nb s 4 / 1440 % 60), .int 0]]).set 1 (.cell (some (.obj st.length))))[1]? = some (.cell (some (.obj st.length))) := get_set (Ext.get Ext.add hc1)
  have hl1 : ((st ++ [MObj.list [.int (nb s 4 % 24), .int (nb s 4 / 24 % 60), .int (nb s 4 / 1440 % 60), .int 0]]).set 1 (.cell (some (.obj st.length))))[st.length]? = some (MObj.list [.int (nb s 4 % 24), .int (nb s 4 / 24 % 60), .int (nb s 4 / 1440 % 60), .int 0]) := get_set_ne get_last (by omega)
  revert L1 hk1 hc11 hl1
  generalize ((st ++ [MObj.list [.int (nb s 4 % 24), .int (nb s 4 / 24 % 60), .int (nb s 4 / 1440 % 60), .int 0]]).set 1 (.cell (some (.obj st.length)))) = st1
  generalize st.length = j at *
  intro L1 hk1 hc11 hl1
  have hnum1 := L1.num
  unfold numL at hnum1
  obtain ⟨o3, hc21⟩ := L1.c2
  walk_at "asgX2"
  have C2 : CK s n k j (nb s 5 % 4) (nb s 4 % 24) (nb s 4 / 24 % 60) (nb s 4 / 1440 % 60) 0 ((st1 ++ [MObj.list [.str "", .str ":"]] ++ [MObj.tuple [.int (nb s 5 % 4), .str (coS (decide (nb s 5 / 4 % 2 = 1)))]]).set 2 (.cell (some (.int (nb s 5 % 4))))) :=
    ⟨(L1.ext (by walk_at "ext")).set2 _, get_set_ne (Ext.get Ext.add (Ext.get Ext.add hk1)) (by omega), get_set_ne (Ext.get Ext.add (Ext.get Ext.add hc11)) (by omega), get_set (Ext.get Ext.add (Ext.get Ext.add hc21)), get_set_ne (Ext.get Ext.add (Ext.get Ext.add hl1)) (by omega), hk3, by omega, by omega, by omega⟩
  revert C2
  generalize ((st1 ++ [MObj.list [.str "", .str ":"]] ++ [MObj.tuple [.int (nb s 5 % 4), .str (coS (decide (nb s 5 / 4 % 2 = 1)))]]).set 2 (.cell (some (.int (nb s 5 % 4))))) = st2
  intro C2
  have m0 : 0 ≤ nb s 5 % 4 := by omega
  generalize nb s 5 % 4 = mm at *
  generalize nb s 4 % 24 = a0 at *
  generalize nb s 4 / 24 % 60 = a1 at *
  generalize nb s 4 / 1440 % 60 = a2 at *
  have hck := C2.ck
  have hmn := C2.mn
  have hli := C2.li
  have hl2 := C2.ls.lt
  have g1 : (st2 ++ [MObj.list [.int a0, .int (if 1 ≤ mm then a1 else 0), .int (if 2 ≤ mm then a2 else 0)]] ++ [MObj.list [.int 0]])[st2.length]? = some (.list [.int a0, .int (if 1 ≤ mm then a1 else 0), .int (if 2 ≤ mm then a2 else 0)]) := Ext.get Ext.add get_last
  have g2 : (st2 ++ [MObj.list [.int a0, .int (if 1 ≤ mm then a1 else 0), .int (if 2 ≤ mm then a2 else 0)]] ++ [MObj.list [.int 0]])[(st2 ++ [MObj.list [.int a0, .int (if 1 ≤ mm then a1 else 0), .int (if 2 ≤ mm then a2 else 0)]]).length]? = some (.list [.int 0]) := get_last
  with_reducible apply XP.step
  · intro fr F'
    with_reducible apply Ex1.asgCell F' rfl
    · with_reducible apply Ev.binS
      · refine Ev.conv (Ev.comp (st₁ := st2) (okk := fun _ => True) [] [("clock", 1), ("many", 2)] (vs := rng 3) (fun _ => true) (maskV a0 a1 a2 mm) F' rfl rfl (fun y hy => ?_) (SrcEv.range (n := 3) ok (by walk_at "ev") (Ev.conv (v := .int 3) (by walk_at "ev") rfl) (by decide) rfl rfl) (fun _ => trivial) (by decide) (fun _ => rfl) ?_) rfl
        · simp at hy
          rcases hy with rfl | rfl
          · walk_at "in"
          · walk_at "in"
        · intro fr' F'' acc v hv
          refine ⟨Tst.nil, fun _ => ?_⟩
          obtain ⟨i, hi, rfl⟩ : ∃ i : Nat, i < 3 ∧ v = .int i := by
            obtain ⟨i, hi, e⟩ := List.mem_map.mp hv
            exact ⟨i, List.mem_range.mp hi, e.symm⟩
          have hi3 : i = 0 ∨ i = 1 ∨ i = 2 := by omega
          rcases hi3 with rfl | rfl | rfl
          · show Ev _ _ _ _ _ (.ok (.int a0)) _
            refine Ev.ifexp (t := true) (Bt.conv (b := decide ((((0 : Nat) : Int)) ≤ mm)) (by walk_at "bt") (decide_eq_true m0)) (fun _ => by walk_at "ev") (fun e => nomatch e)
          · show Ev _ _ _ _ _ (.ok (.int (if 1 ≤ mm then a1 else 0))) _
            by_cases h : 1 ≤ mm
            · rw [if_pos h]
              refine Ev.ifexp (t := true) (Bt.conv (b := decide ((((1 : Nat) : Int)) ≤ mm)) (by walk_at "bt") (decide_eq_true h)) (fun _ => by walk_at "ev") (fun e => nomatch e)
            · rw [if_neg h]
              refine Ev.ifexp (t := false) (Bt.conv (b := decide ((((1 : Nat) : Int)) ≤ mm)) (by walk_at "bt") (decide_eq_false h)) (fun e => nomatch e) (fun _ => by walk_at "ev")
          · show Ev _ _ _ _ _ (.ok (.int (if 2 ≤ mm then a2 else 0))) _
            by_cases h : 2 ≤ mm
            · rw [if_pos h]
              refine Ev.ifexp (t := true) (Bt.conv (b := decide ((((2 : Nat) : Int)) ≤ mm)) (by walk_at "bt") (decide_eq_true h)) (fun _ => by walk_at "ev") (fun e => nomatch e)
            · rw [if_neg h]
              refine Ev.ifexp (t := false) (Bt.conv (b := decide ((((2 : Nat) : Int)) ≤ mm)) (by walk_at "bt") (decide_eq_false h)) (fun e => nomatch e) (fun _ => by walk_at "ev")
      · walk_at "ev"
      · exact BinS.addL g1 g2 (Nat.le_of_ble_eq_true rfl)
    · walk_at "in"
    · exact Ext.get Ext.add (Ext.get Ext.add (Ext.get Ext.add hck))
    · rfl
  with_reducible apply XP.nil
  refine ⟨rfl, rfl, _, C2.new (by walk_at "ext") get_last ?_⟩
  simp only [List.length_append]
  omega
end
section
set_option Elab.async false
set_option maxRecDepth 100000
set_option maxHeartbeats 4000000
set_option simprocs false
set_option linter.unusedVariables false
open PySem PySem.Spec PySem.Calls PyProof.Rows PySem.W
variable {q : Pk}
structure Ck0 (mm c0 c1 c2 late : Int) : Prop where
  m0 : 0 ≤ mm
  m3 : mm ≤ 3
  r : (late = 0 ∧ (0 ≤ c0 ∧ c0 ≤ 23) ∧ (0 ≤ c1 ∧ c1 ≤ 59) ∧ (0 ≤ c2 ∧ c2 ≤ 59)) ∨ (late = 1 ∧ c0 = 24 ∧ c1 = 0 ∧ c2 = 0)
  m1 : mm < 1 → c1 = 0
  m2 : mm < 2 → c2 = 0
theorem law8 (ok : (C1 q).Ok) {body : List Stmt} (hb : LawB q body) {s : List Int} {n k kc : Nat} {st : Sto} {mm c0 c1 c2 : Int} (C : CK s n k kc mm c0 c1 c2 0 st) (h : Ck0 mm c0 c1 c2 0) {vy vo vN vm vd vf vs vw vwk vown vc vrf vp vt vwh vr vco : V} :
    XP (C1 q) lawG ((body.drop 18).take 2) [.obj n, vy, vo, vN, vm, vd, vf, vs, vw, vwk, vown, vc, vrf, vp, vt, vwh, vr, .undef, vco, .undef, .undef, .undef, .undef, .undef, .undef, .undef, .undef, .undef, .undef, .undef, .undef, .undef] st
      (fun o m' st' => o = .ok .next ∧ ∃ kc c0 c1 c2 late, m' = [.obj n, vy, vo, vN, vm, vd, vf, vs, vw, vwk, vown, vc, vrf, vp, vt, vwh, vr, .undef, vco, .int late, .undef, .undef, .undef, .undef, .undef, .undef, .undef, .undef, .undef, .undef, .undef, .undef] ∧
        CK s n k kc mm c0 c1 c2 0 st' ∧ Ck0 mm c0 c1 c2 late) := by
  obtain ⟨oc, od, osl, fd, h1, h2⟩ := hb
  cases h1
  cases h2
  simp only [List.drop_succ_cons, List.drop_zero, List.take_succ_cons, List.take_zero]
  have hnum := C.ls.num
  unfold numL at hnum
  have hck := C.ck
  walk_at "asg"
  walk_at "ite"
  · intro _
    walk_at "asgX2"
    with_reducible apply XP.nil
    refine ⟨rfl, st.length, 24, 0, 0, 1, rfl, C.new (by walk_at "ext") (Ext.get Ext.add get_last) (Nat.le_refl _), ⟨h.m0, h.m3, .inr ⟨rfl, rfl, rfl, rfl⟩, fun _ => rfl, fun _ => rfl⟩⟩
  · intro _
    with_reducible apply XP.nil
    exact ⟨rfl, kc, c0, c1, c2, 0, rfl, C, h⟩
theorem Ck0.F {mm c0 c1 c2 late : Int} (h : Ck0 mm c0 c1 c2 late) : ClockF mm.toNat c0.toNat c1.toNat c2.toNat late false ∧ 0 ≤ c0 ∧ 0 ≤ c1 ∧ 0 ≤ c2 ∧ c0 ≤ 24 ∧ c1 ≤ 59 ∧ c2 ≤ 59 := by
  obtain ⟨h1, h2, h3, h4, h5⟩ := h
  refine ⟨⟨by omega, by omega, by omega, by omega, fun e => by omega, fun e => by omega, fun _ => by omega, fun e => nomatch e⟩, by omega, by omega, by omega, by omega, by omega, by omega⟩
/-- one part made too great -/
theorem law9 (ok : (C1 q).Ok) {body : List Stmt} (hb : LawB q body) {s : List Int} {n k kc : Nat} {st : Sto} {mm c0 c1 c2 late w : Int} {rf : Bool} (C : CK s n k kc mm c0 c1 c2 0 st) (h : Ck0 mm c0 c1 c2 late) {vy vo vN vm vd vf vs vwk vown vc vp vt vwh vr vco : V} :
    XP (C1 q) lawG ((body.drop 20).take 1) [.obj n, vy, vo, vN, vm, vd, vf, vs, .int w, vwk, vown, vc, .bool rf, vp, vt, vwh, vr, .undef, vco, .int late, .undef, .undef, .undef, .undef, .undef, .undef, .undef, .undef, .undef, .undef, .undef, .undef] st
      (fun o m' st' => o = .ok .next ∧ ∃ c0 c1 c2 cb, m' = [.obj n, vy, vo, vN, vm, vd, vf, vs, .int w, vwk, vown, vc, .bool (rf || cb), vp, vt, vwh, vr, .undef, vco, .int late, .undef, .undef, .undef, .undef, .undef, .undef, .undef, .undef, .undef, .undef, .undef, .undef] ∧
        CK s n k kc mm c0 c1 c2 0 st' ∧ ClockF mm.toNat c0.toNat c1.toNat c2.toNat late cb ∧ 0 ≤ c0 ∧ 0 ≤ c1 ∧ 0 ≤ c2 ∧ c0 ≤ 25 ∧ c1 ≤ 60 ∧ c2 ≤ 60) := by
  obtain ⟨oc, od, osl, fd, h1, h2⟩ := hb
  cases h1
  cases h2
  simp only [List.drop_succ_cons, List.drop_zero, List.take_succ_cons, List.take_zero]
  have hck := C.ck
  have hmn := C.mn
  have hli := C.li
  obtain ⟨F, f0, f1, f2, f3, f4, f5⟩ := h.F
  obtain ⟨k1, k2, k3, k4, k5, k6, k7, k8⟩ := F
  by_cases hw : 9 < w ∧ w < 13 ∧ w - 10 ≤ mm
  · have hw3 : w = 10 ∨ w = 11 ∨ w = 12 := by omega
    rcases hw3 with rfl | rfl | rfl
    · walk_at "ite"
      · intro _
        walk_at "asgSB"
        with_reducible apply XP.nil
        refine ⟨rfl, 25, c1, c2, true, ?_, (C.ext (by walk_at "ext")).setc, ⟨k1, by decide, by omega, by omega, k5, k6, (fun e => nomatch e), fun _ => .inl rfl⟩, by omega, by omega, by omega, by omega, by omega, by omega⟩
        rw [Bool.or_true]
      · intro e; simp at e; omega
    · walk_at "ite"
      · intro _
        walk_at "asgSB"
        with_reducible apply XP.nil
        refine ⟨rfl, c0, 60, c2, true, ?_, (C.ext (by walk_at "ext")).setc, ⟨k1, by omega, by decide, by omega, (fun e => by omega), k6, (fun e => nomatch e), fun _ => .inr (.inl rfl)⟩, by omega, by omega, by omega, by omega, by omega, by omega⟩
        rw [Bool.or_true]
      · intro e; simp at e; omega
    · walk_at "ite"
      · intro _
        walk_at "asgSB"
        with_reducible apply XP.nil
        refine ⟨rfl, c0, c1, 60, true, ?_, (C.ext (by walk_at "ext")).setc, ⟨k1, by omega, by omega, by decide, k5, (fun e => by omega), (fun e => nomatch e), fun _ => .inr (.inr rfl)⟩, by omega, by omega, by omega, by omega, by omega, by omega⟩
        rw [Bool.or_true]
      · intro e; simp at e; omega
  · walk_at "ite"
    · intro e; simp at e; omega
    · intro _
      with_reducible apply XP.nil
      refine ⟨rfl, c0, c1, c2, false, ?_, C, ⟨k1, k2, k3, k4, k5, k6, k7, k8⟩, by omega, by omega, by omega, by omega, by omega, by omega⟩
      rw [Bool.or_false]
end
section
set_option Elab.async false
set_option maxRecDepth 100000
set_option maxHeartbeats 4000000
set_option simprocs false
set_option linter.unusedVariables false
open PySem PySem.Spec PySem.Calls PyProof.Rows PySem.W
variable {q : Pk}
theorem join1 (b : Bool) (a : Nat) : Txt.join (coS b) [⟨(dgs 2 a).toArray⟩] = ⟨(dgs 2 a).toArray⟩ ∧ JoinOk (coS b) [⟨(dgs 2 a).toArray⟩] = true := by
  obtain ⟨x, y, e, _, _⟩ := dgs2_cut a
  rw [e]
  cases b <;> exact ⟨rfl, rfl⟩
theorem join2 (b : Bool) (a d : Nat) : Txt.join (coS b) [⟨(dgs 2 a).toArray⟩, ⟨(dgs 2 d).toArray⟩] = ⟨(dgs 2 a ++ col b ++ dgs 2 d).toArray⟩ ∧ JoinOk (coS b) [⟨(dgs 2 a).toArray⟩, ⟨(dgs 2 d).toArray⟩] = true := by
  obtain ⟨x, y, e, _, _⟩ := dgs2_cut a
  obtain ⟨x', y', e', _, _⟩ := dgs2_cut d
  rw [e, e']
  cases b <;> exact ⟨rfl, rfl⟩
theorem join3 (b : Bool) (a d f : Nat) : Txt.join (coS b) [⟨(dgs 2 a).toArray⟩, ⟨(dgs 2 d).toArray⟩, ⟨(dgs 2 f).toArray⟩] = ⟨(dgs 2 a ++ col b ++ dgs 2 d ++ col b ++ dgs 2 f).toArray⟩ ∧ JoinOk (coS b) [⟨(dgs 2 a).toArray⟩, ⟨(dgs 2 d).toArray⟩, ⟨(dgs 2 f).toArray⟩] = true := by
  obtain ⟨x, y, e, _, _⟩ := dgs2_cut a
  obtain ⟨x', y', e', _, _⟩ := dgs2_cut d
  obtain ⟨x2, y2, e2, _, _⟩ := dgs2_cut f
  rw [e, e', e2]
  cases b <;> exact ⟨rfl, rfl⟩
def wordV (c0 c1 c2 : Int) : V → V
  | .int 0 => .str ⟨(dgs 2 c0.toNat).toArray⟩
  | .int 1 => .str ⟨(dgs 2 c1.toNat).toArray⟩
  | .int 2 => .str ⟨(dgs 2 c2.toNat).toArray⟩
  | _ => .none
def wordP (r : Nat) (c0 c1 c2 : Int) : List Str := ([⟨(dgs 2 c0.toNat).toArray⟩, ⟨(dgs 2 c1.toNat).toArray⟩, ⟨(dgs 2 c2.toNat).toArray⟩] : List Str).take r
theorem law10 (ok : (C1 q).Ok) {body : List Stmt} (hb : LawB q body) {s : List Int} {n k kc : Nat} {st : Sto} {mm c0 c1 c2 : Int} {b : Bool} (C : CK s n k kc mm c0 c1 c2 0 st) (hm : 0 ≤ mm ∧ mm ≤ 3) (h0 : 0 ≤ c0 ∧ c0 ≤ 25) (h1 : 0 ≤ c1 ∧ c1 ≤ 60) (h2 : 0 ≤ c2 ∧ c2 ≤ 60) {vy vo vN vm vd vf vs vw vwk vown vc vrf vp vt vwh vr vla : V} :
    XP (C1 q) lawG ((body.drop 21).take 1) [.obj n, vy, vo, vN, vm, vd, vf, vs, vw, vwk, vown, vc, vrf, vp, vt, vwh, vr, .undef, .str (coS b), vla, .undef, .undef, .undef, .undef, .undef, .undef, .undef, .undef, .undef, .undef, .undef, .undef] st
      (fun o m' st' => o = .ok .next ∧ m' = [.obj n, vy, vo, vN, vm, vd, vf, vs, vw, vwk, vown, vc, vrf, vp, vt, vwh, vr, .undef, .str (coS b), vla, .str ⟨(ckT mm.toNat b c0.toNat c1.toNat c2.toNat []).toArray⟩, .undef, .undef, .undef, .undef, .undef, .undef, .undef, .undef, .undef, .undef, .undef] ∧ Ext st st') := by
  obtain ⟨oc, od, osl, fd, h1', h2'⟩ := hb
  cases h1'
  cases h2'
  simp only [List.drop_succ_cons, List.drop_zero, List.take_succ_cons, List.take_zero]
  have hck := C.ck
  have hmn := C.mn
  have hli := C.li
  have key : ∃ r : Nat, r ≤ 3 ∧ (min mm 2 + 1 : Int) = r ∧ JoinOk (coS b) (wordP r c0 c1 c2) = true ∧ Txt.join (coS b) (wordP r c0 c1 c2) = ⟨(ckT mm.toNat b c0.toNat c1.toNat c2.toNat []).toArray⟩ ∧ ((rng r).filter fun _ => true).map (wordV c0 c1 c2) = (wordP r c0 c1 c2).map V.str := by
    have hm4 : mm = 0 ∨ mm = 1 ∨ mm = 2 ∨ mm = 3 := by omega
    rcases hm4 with rfl | rfl | rfl | rfl
    · exact ⟨1, by decide, rfl, (join1 b _).2, (join1 b _).1, rfl⟩
    · exact ⟨2, by decide, rfl, (join2 b _ _).2, (join2 b _ _).1, rfl⟩
    · exact ⟨3, by decide, rfl, (join3 b _ _ _).2, (join3 b _ _ _).1, rfl⟩
    · exact ⟨3, by decide, rfl, (join3 b _ _ _).2, (join3 b _ _ _).1.trans (by show _ = (⟨(_ ++ []).toArray⟩ : Str); rw [List.append_nil]), rfl⟩
  obtain ⟨r, hr, hmr, hJ, hJ', hmap⟩ := key
  with_reducible apply XP.step
  · intro fr F'
    have hmin := fun a b st => CallT.min2 (c := C1 q) (fr := fr) (a := a) (b := b) (st := st) (F'.fit.z rfl)
    have hjoin : CallT (C1 q) fr (.builtin "str.join") [.str (coS b), .obj st.length] [] (st ++ [.list ((wordP r c0 c1 c2).map V.str)]) (.ok (.str ⟨(ckT mm.toNat b c0.toNat c1.toNat c2.toNat []).toArray⟩)) (st ++ [.list ((wordP r c0 c1 c2).map V.str)]) := by
      rw [← hJ']; exact CallT.join get_last hJ
    with_reducible apply Ex1.asgA F'
    · with_reducible apply Ev.methA ok
      · walk_at "ev"
      · exact Meth.join
      · exact KeepOk.builtin
      · refine EvL.cons (v := .obj st.length) (st₁ := st ++ [.list ((wordP r c0 c1 c2).map V.str)]) ?_ .nil rfl
        rw [← hmap]
        refine Ev.comp (st₁ := st) (okk := fun _ => True) [] [("clock", 1)] (vs := rng r) (fun _ => true) (wordV c0 c1 c2) F' rfl rfl (fun y hy => ?_) (SrcEv.range (n := r) ok (by walk_at "ev") (Ev.conv (v := .int (min mm 2 + 1)) (by walk_at "ev") (by rw [hmr])) (by omega) rfl rfl) (fun _ => trivial) (by simp [rng]; omega) (fun _ => rfl) ?_
        · simp at hy
          subst hy
          walk_at "in"
        · intro fr' F'' acc v hv
          refine ⟨Tst.nil, fun _ => ?_⟩
          obtain ⟨i, hi, rfl⟩ : ∃ i : Nat, i < 3 ∧ v = .int i := by
            obtain ⟨i, hi, e⟩ := List.mem_map.mp hv
            exact ⟨i, Nat.lt_of_lt_of_le (List.mem_range.mp hi) hr, e.symm⟩
          have hi3 : i = 0 ∨ i = 1 ∨ i = 2 := by omega
          rcases hi3 with rfl | rfl | rfl
          · show Ev _ _ _ _ _ (.ok (.str ⟨(dgs 2 c0.toNat).toArray⟩)) _
            walk_at "ev"
          · show Ev _ _ _ _ _ (.ok (.str ⟨(dgs 2 c1.toNat).toArray⟩)) _
            walk_at "ev"
          · show Ev _ _ _ _ _ (.ok (.str ⟨(dgs 2 c2.toNat).toArray⟩)) _
            walk_at "ev"
      · exact EvK.nil
      · exact List.singleton_append
      · exact hjoin
      · rfl
      · exact ⟨_, rfl⟩
    · walk_at "up"
    · rfl
  · with_reducible apply XP.nil
    exact ⟨rfl, rfl, Ext.add⟩
end
section
set_option Elab.async false
set_option maxRecDepth 100000
set_option maxHeartbeats 4000000
set_option simprocs false
set_option linter.unusedVariables false
open PySem PySem.Spec PySem.Calls PyProof.Rows PySem.W
variable {q : Pk}
theorem Ev.pad5 {c : Wd} {fr : Fx} {m : Loc} {st st₁ : Sto} {l : Expr} {pos pp : Pos} {kk : Nat} {f : TX} (h : Ev c fr l m st (.ok (.str ⟨f.toArray⟩)) st₁) (hf : f.length ≤ 100) :
    Ev c fr (.BinOp l .Add (.Constant (.str "00000") kk pp) pos) m st (.ok (.str ⟨(f ++ List.replicate 5 48).toArray⟩)) st₁ :=
  Ev.bin h (Ev.conv Ev.str (rfl : V.str "00000" = .str ⟨(List.replicate 5 48).toArray⟩)) (Bin2.cat8 (l := f) (k := List.replicate 5 48) (by rw [List.length_replicate]; omega))
theorem ckT_frac (b : Bool) (a d e : Nat) (f : TX) : ckT 3 b a d e [] ++ f = ckT 3 b a d e f := by
  show dgs 2 a ++ col b ++ dgs 2 d ++ col b ++ dgs 2 e ++ [] ++ f = dgs 2 a ++ col b ++ dgs 2 d ++ col b ++ dgs 2 e ++ f
  rw [List.append_nil]
theorem ckT_len3 (b : Bool) (a d e : Nat) : (ckT 3 b a d e []).length ≤ 8 := by
  show (dgs 2 a ++ col b ++ dgs 2 d ++ col b ++ dgs 2 e ++ []).length ≤ 8
  have := col_len b
  simp only [List.length_append, dgs_len, List.length_nil]
  rw [this]
  split <;> decide
def dotC (s : List Int) : Nat := if nb s 5 / 72 % 2 = 1 then 44 else 46
theorem law11 (ok : (C1 q).Ok) {body : List Stmt} (hb : LawB q body) {s : List Int} {n k kc : Nat} {st : Sto} {mm c0 c1 c2 late : Int} {b : Bool} (C : CK s n k kc mm c0 c1 c2 0 st) (hm : 0 ≤ mm ∧ mm ≤ 3) {vy vo vN vm vd vf vs vw vwk vown vc vrf vp vt vwh vr : V} :
    XP (C1 q) lawG ((body.drop 22).take 1) [.obj n, vy, vo, vN, vm, vd, vf, vs, vw, vwk, vown, vc, vrf, vp, vt, vwh, vr, .undef, .str (coS b), .int late, .str ⟨(ckT mm.toNat b c0.toNat c1.toNat c2.toNat []).toArray⟩, .undef, .undef, .undef, .undef, .undef, .undef, .undef, .undef, .undef, .undef, .undef] st
      (fun o m' st' => o = .ok .next ∧ ∃ c f us vsz vva vdi, m' = [.obj n, vy, vo, vN, vm, vd, vf, vs, vw, vwk, vown, vc, vrf, vp, vt, vwh, vr, .undef, .str (coS b), .int late, .str ⟨(ckT mm.toNat b c0.toNat c1.toNat c2.toNat (c :: f)).toArray⟩, vsz, vva, vdi, .undef, .undef, .undef, .undef, .undef, .undef, .undef, .undef]
        ∧ CK s n k kc mm c0 c1 c2 us st' ∧ FracF mm.toNat c f late us) := by
  obtain ⟨oc, od, osl, fd, h1', h2'⟩ := hb
  cases h1'
  cases h2'
  simp only [List.drop_succ_cons, List.drop_zero, List.take_succ_cons, List.take_zero]
  have hck := C.ck
  have hmn := C.mn
  have hli := C.li
  have hnum := C.ls.num
  unfold numL at hnum
  by_cases h3 : mm = 3
  · subst h3
    walk_at "ite"
    · intro _
      have hpk : ∀ fr st, Item (C1 q) fr (st ++ [.list [.str ".", .str ","]]) (.obj st.length) (.int (nb s 5 / 72 % 2)) (.ok (.str ⟨[dotC s].toArray⟩)) (st ++ [.list [.str ".", .str ","]]) := fun fr st => by
        have := Item.list (c := C1 q) (fr := fr) (i := nb s 5 / 72 % 2) (get_last (st := st) (o := .list [.str ".", .str ","])) (by omega) (by omega) (pick2 (by omega) (by omega))
        have e : (if nb s 5 / 72 % 2 = 1 then (.str "," : V) else .str ".") = .str ⟨[dotC s].toArray⟩ := by
          unfold dotC
          by_cases h : nb s 5 / 72 % 2 = 1
          · rw [if_pos h, if_pos h]; rfl
          · rw [if_neg h, if_neg h]; rfl
        rwa [e] at this
      generalize hsz : 1 + nb s 6 % 9 = sz
      have hsz1 : 1 ≤ sz ∧ sz ≤ 9 := by omega
      generalize hvv : (if late = 0 then nb s 6 / 9 % 1000000000 else 0) = vv
      have hv1 : 0 ≤ vv ∧ vv < 1000000000 := by
        rw [← hvv]
        split <;> omega
      have hv0 : late = 1 → vv = 0 := fun e => by rw [← hvv, if_neg (by omega)]
      with_reducible apply XP.step
      · intro fr F'
        with_reducible apply Ex1.asgP2 F' rfl (v1 := .int sz) (v2 := .int vv) (st₁ := st) (st₂ := st)
        · rw [← hsz]; walk_at "ev"
        · rw [← hvv]
          by_cases hl : late = 0
          · rw [if_pos hl]
            exact Ev.ifexp (t := true) (Bt.conv (b := (late == 0)) (by walk_at "bt") (by rw [hl]; rfl)) (fun _ => by walk_at "ev") (fun e => nomatch e)
          · rw [if_neg hl]
            exact Ev.ifexp (t := false) (Bt.conv (b := (late == 0)) (by walk_at "bt") (by simpa using hl)) (fun e => nomatch e) (fun _ => by walk_at "ev")
        · walk_at "up"
        · walk_at "up"
        · walk_at "in"
        · walk_at "in"
        · rfl
        · rfl
        · rfl
        · rfl
        · rfl
        · rfl
        · rfl
      refine XP.keep (st := st) (by walk_at "ext") fun st1 X1 => ?_
      have C1 := C.ext X1
      have hck1 := C1.ck
      have hli1 := C1.li
      have hnum1 := C1.ls.num
      unfold numL at hnum1
      walk_at "asg"
      have hfd : ((dgs 9 vv.toNat).take sz.toNat).all isDig = true := take_dig (dgs_dig _ _) _
      have hfl : ((dgs 9 vv.toNat).take sz.toNat).length = sz.toNat := by rw [List.length_take, dgs_len]; omega
      have hf0 : (dgs 9 vv.toNat).take sz.toNat ≠ [] := fun e => by rw [e] at hfl; simp at hfl; omega
      have hfz : late = 1 → us6 ((dgs 9 vv.toNat).take sz.toNat) = 0 := fun e => by rw [hv0 e]; exact us6_zero (by omega) (by omega)
      generalize (dgs 9 vv.toNat).take sz.toNat = f at *
      have hW := ckT_len3 b c0.toNat c1.toNat c2.toNat
      have eW : ckT 3 b c0.toNat c1.toNat c2.toNat [] ++ [dotC s] ++ f = ckT 3 b c0.toNat c1.toNat c2.toNat (dotC s :: f) := by rw [List.append_assoc, ckT_frac]; rfl
      have e3 : ((3 : Int).toNat) = 3 := rfl
      rw [e3] at *
      generalize ckT 3 b c0.toNat c1.toNat c2.toNat [] = W at *
      with_reducible apply XP.step
      · intro _ F'
        with_reducible apply Ex1.asgA F'
        · with_reducible apply Ev.bin
          · with_reducible apply Ev.bin
            · walk_at "ev"
            · walk_at "ev"
            · walk_at "bin2"
          · walk_at "ev"
          · walk_at "bin2"
        · walk_at "up"
        · rfl
      rw [eW]
      refine XP.keep (st := st1) (by walk_at "ext") fun st2 X2 => ?_
      have C2 := C1.ext X2
      have hck2 := C2.ck
      have hli2 := C2.li
      have hint : ∀ fr st, CallT (Mine.C1 q) fr (.type "int") [.str ⟨((f ++ List.replicate 5 48).take (6 : Int).toNat).toArray⟩] [] st (.ok (.int (us6 f))) st := fun fr st => by
        have hz := us6_pad hf0
        rw [hz]
        refine CallT.intT ?_ ?_ ?_
        · refine take_dig ?_ _
          rw [List.all_append, hfd]; rfl
        · intro e
          have := congrArg List.length e
          simp only [List.length_take, List.length_append, List.length_replicate, List.length_nil] at this
          omega
        · simp only [List.length_take, List.length_append, List.length_replicate]
          omega
      with_reducible apply XP.step
      · intro _ F'
        with_reducible apply Ex1.setAtL
        · with_reducible apply Ev.callT
          · assumption
          · walk_at "ev"
          · walk_at "keep"
          · refine EvL.cons (Ev.cut (Ev.pad5 (f := f) (by walk_at "ev") (by omega)) (by walk_at "evo") (by walk_at "evo") (Cut.hiS (j := 6) (by simp only [List.length_append, List.length_replicate]; omega) (by decide))) .nil rfl
          · exact EvK.nil
          · exact hint _ _
          · rfl
          · rfl
        · walk_at "ev"
        · walk_at "ev"
        · walk_at "get"
        · decide
        · decide
        · rfl
        · rfl
        · rfl
      with_reducible apply XP.nil
      exact ⟨rfl, dotC s, f, us6 f, _, _, _, rfl, C2.setc, ⟨by unfold dotC; split <;> simp, hfd, hf0, by omega, rfl, hfz⟩⟩
    · intro e; simp at e
  · walk_at "ite"
    · intro e; simp at e; exact absurd e h3
    · intro _
      with_reducible apply XP.nil
      refine ⟨rfl, 46, [48], 0, .undef, .undef, .undef, ?_, C, ⟨.inl rfl, by decide, by decide, by decide, ?_, fun _ => rfl⟩⟩
      · have hm4 : mm = 0 ∨ mm = 1 ∨ mm = 2 := by omega
        rcases hm4 with rfl | rfl | rfl <;> rfl
      · unfold ckU
        rw [if_neg (by omega)]
end
section
set_option Elab.async false
set_option maxRecDepth 100000
set_option maxHeartbeats 4000000
set_option simprocs false
set_option linter.unusedVariables false
open PySem PySem.Spec PySem.Calls PyProof.Rows PySem.W
variable {q : Pk}
structure ZR (zn hh mi : Int) (zb : Bool) : Prop where
  z0 : 0 ≤ zn
  z4 : zn ≤ 4
  h0 : 0 ≤ hh
  m0 : 0 ≤ mi
  good : zb = false → zn ≤ 1 ∨ (zn = 2 ∧ hh ≤ 23 ∧ mi ≤ 60) ∨ (3 ≤ zn ∧ hh ≤ 23 ∧ mi ≤ 59)
  bad : zb = true → (zn = 2 ∧ hh = 24 ∧ mi ≤ 60) ∨ (3 ≤ zn ∧ hh = 24 ∧ mi ≤ 60) ∨ (3 ≤ zn ∧ hh ≤ 24 ∧ mi = 60)
theorem law12 (ok : (C1 q).Ok) {body : List Stmt} (hb : LawB q body) {s : List Int} {n : Nat} {st : Sto} (L : LS s n st) {w : Int} {rf : Bool} {vy vo vN vm vd vf vs vwk vown vc vp vt vwh vr vco vla vwo vsz vva vdi : V} :
    XP (C1 q) lawG ((body.drop 23).take 2) [.obj n, vy, vo, vN, vm, vd, vf, vs, .int w, vwk, vown, vc, .bool rf, vp, vt, vwh, vr, .undef, vco, vla, vwo, vsz, vva, vdi, .undef, .undef, .undef, .undef, .undef, .undef, .undef, .undef] st
      (fun o m' st' => o = .ok .next ∧ Ext st st' ∧ ∃ zn hh mi zb, m' = [.obj n, vy, vo, vN, vm, vd, vf, vs, .int w, vwk, vown, vc, .bool (rf || zb), vp, vt, vwh, vr, .undef, vco, vla, vwo, vsz, vva, vdi, .int zn, .int hh, .int mi, .undef, .undef, .undef, .undef, .undef]
        ∧ ZR zn hh mi zb) := by
  obtain ⟨oc, od, osl, fd, h1', h2'⟩ := hb
  cases h1'
  cases h2'
  simp only [List.drop_succ_cons, List.drop_zero, List.take_succ_cons, List.take_zero]
  have hnum := L.num
  unfold numL at hnum
  walk_at "asg3"
  refine XP.keep (st := st) (by walk_at "ext") fun st1 X1 => ?_
  have hz : 0 ≤ nb s 7 % 5 ∧ nb s 7 % 5 ≤ 4 := by omega
  have hhr : 0 ≤ nb s 7 / 5 % 24 ∧ nb s 7 / 5 % 24 ≤ 23 := by omega
  have hm : 0 ≤ nb s 7 / 120 % 60 ∧ nb s 7 / 120 % 60 ≤ 59 := by omega
  generalize nb s 7 % 5 = zn at *
  generalize nb s 7 / 5 % 24 = hh at *
  generalize nb s 7 / 120 % 60 = mi at *
  by_cases h13 : w = 13
  · subst h13
    walk_at "ite"
    · intro _
      have hit : ∀ fr (st : Sto), Item (C1 q) fr (st ++ [MObj.tuple [.int 24, .int 0]] ++ [MObj.tuple [.int 1, .int 60]] ++ [MObj.list [.obj st.length, .obj (st ++ [MObj.tuple [.int 24, .int 0]]).length]]) (.obj (st ++ [MObj.tuple [.int 24, .int 0]] ++ [MObj.tuple [.int 1, .int 60]]).length) (.int (13 - 13)) (.ok (.obj st.length)) (st ++ [MObj.tuple [.int 24, .int 0]] ++ [MObj.tuple [.int 1, .int 60]] ++ [MObj.list [.obj st.length, .obj (st ++ [MObj.tuple [.int 24, .int 0]]).length]]) := fun fr st => Item.list get_last (by decide) (by decide) rfl
      with_reducible apply XP.step
      · intro fr F'
        with_reducible apply Ex1.asgTupA F' rfl
        · with_reducible apply Ev.binS
          · walk_at "ev"
          · walk_at "ev"
          · exact BinS.addT (l := [.int 24, .int 0]) (l' := [.bool (rf || decide (zn > 1 + 13 - 13))]) (Ext.get ((Ext.add.trans Ext.add).trans Ext.add) get_last) get_last (List.cons_ne_nil _ _) (List.cons_ne_nil _ _) (Nat.le_of_ble_eq_true rfl)
        · exact get_last
        · rfl
        · walk_at "nms"
        · show StN _ _ _ _ [V.int 24, V.int 0, V.bool (rf || decide (zn > 1 + 13 - 13))] _ _
          walk_at "stn"
        · rfl
        · rfl
        · rfl
        · rfl
      with_reducible apply XP.nil
      refine ⟨rfl, X1.trans (by walk_at "ext"), zn, 24, 0, decide (zn > 1 + 13 - 13), rfl, ⟨hz.1, hz.2, by decide, by decide, fun e => ?_, fun e => ?_⟩⟩
      · simp at e
        omega
      · simp at e
        omega
    · intro e; exact absurd e (by decide)
  by_cases h14 : w = 14
  · subst h14
    walk_at "ite"
    · intro _
      have hit : ∀ fr (st : Sto), Item (C1 q) fr (st ++ [MObj.tuple [.int 24, .int 0]] ++ [MObj.tuple [.int 1, .int 60]] ++ [MObj.list [.obj st.length, .obj (st ++ [MObj.tuple [.int 24, .int 0]]).length]]) (.obj (st ++ [MObj.tuple [.int 24, .int 0]] ++ [MObj.tuple [.int 1, .int 60]]).length) (.int (14 - 13)) (.ok (.obj (st ++ [MObj.tuple [.int 24, .int 0]]).length)) (st ++ [MObj.tuple [.int 24, .int 0]] ++ [MObj.tuple [.int 1, .int 60]] ++ [MObj.list [.obj st.length, .obj (st ++ [MObj.tuple [.int 24, .int 0]]).length]]) := fun fr st => Item.list get_last (by decide) (by decide) rfl
      with_reducible apply XP.step
      · intro fr F'
        with_reducible apply Ex1.asgTupA F' rfl
        · with_reducible apply Ev.binS
          · walk_at "ev"
          · walk_at "ev"
          · exact BinS.addT (l := [.int 1, .int 60]) (l' := [.bool (rf || decide (zn > 1 + 14 - 13))]) (Ext.get (Ext.add.trans Ext.add) get_last) get_last (List.cons_ne_nil _ _) (List.cons_ne_nil _ _) (Nat.le_of_ble_eq_true rfl)
        · exact get_last
        · rfl
        · walk_at "nms"
        · show StN _ _ _ _ [V.int 1, V.int 60, V.bool (rf || decide (zn > 1 + 14 - 13))] _ _
          walk_at "stn"
        · rfl
        · rfl
        · rfl
        · rfl
      with_reducible apply XP.nil
      refine ⟨rfl, X1.trans (by walk_at "ext"), zn, 1, 60, decide (zn > 1 + 14 - 13), rfl, ⟨hz.1, hz.2, by decide, by decide, fun e => ?_, fun e => ?_⟩⟩
      · simp at e
        omega
      · simp at e
        omega
    · intro e; exact absurd e (by decide)
  walk_at "ite"
  · intro e; simp at e; omega
  · intro _
    with_reducible apply XP.nil
    refine ⟨rfl, X1, zn, hh, mi, false, ?_, ⟨hz.1, hz.2, by omega, by omega, fun e => by omega, fun e => nomatch e⟩⟩
    rw [Bool.or_false]
end
section
set_option Elab.async false
set_option maxRecDepth 100000
set_option maxHeartbeats 4000000
set_option simprocs false
set_option linter.unusedVariables false
open PySem PySem.Spec PySem.Calls PyProof.Rows PySem.W
variable {q : Pk}
/-- an offset ahead of its sign -/
def zO0 (zone hh mm : Int) : Option Int := if zone = 0 then none else if zone = 1 then some 0 else if zone = 2 then some (hh * 3600) else some (hh * 3600 + mm * 60)
theorem zO_of (zone hh mm : Int) (b : Bool) : zO zone b hh mm = (zO0 zone hh mm).map (neg? b) := by
  unfold zO zO0
  split
  · rfl
  · split
    · rfl
    · split <;> rfl
theorem law13 (ok : (C1 q).Ok) {body : List Stmt} (hb : LawB q body) {s : List Int} {n : Nat} {st : Sto} (L : LS s n st) {zn hh mi : Int} {zb : Bool} (R : ZR zn hh mi zb) {vy vo vN vm vd vf vs vw vwk vown vc vrf vp vt vwh vr vco vla vwo vsz vva vdi : V} :
    XP (C1 q) lawG ((body.drop 25).take 2) [.obj n, vy, vo, vN, vm, vd, vf, vs, vw, vwk, vown, vc, vrf, vp, vt, vwh, vr, .undef, vco, vla, vwo, vsz, vva, vdi, .int zn, .int hh, .int mi, .undef, .undef, .undef, .undef, .undef] st
      (fun o m' st' => o = .ok .next ∧ Ext st st' ∧ ∃ (mn : Bool) (last : TX) (o0 : Option Int), m' = [.obj n, vy, vo, vN, vm, vd, vf, vs, vw, vwk, vown, vc, vrf, vp, vt, vwh, vr, .undef, vco, vla, vwo, vsz, vva, vdi, .int zn, .int hh, .int mi, .bool mn, .str ⟨last.toArray⟩, offV o0, .undef, .undef]
        ∧ ZoneF zn last (o0.map (neg? mn)) zb) := by
  obtain ⟨oc, od, osl, fd, h1', h2'⟩ := hb
  cases h1'
  cases h2'
  simp only [List.drop_succ_cons, List.drop_zero, List.take_succ_cons, List.take_zero]
  have hnum := L.num
  unfold numL at hnum
  obtain ⟨r1, r2, r3, r4, r5, r6⟩ := R
  walk_at "asg"
  generalize (nb s 7 / 7200 % 2 == 1) = mn
  have hz5 : zn = 0 ∨ zn = 1 ∨ zn = 2 ∨ zn = 3 ∨ zn = 4 := by omega
  rcases hz5 with rfl | rfl | rfl | rfl | rfl
  · walk_at "ite"
    · intro _
      walk_at "asgC2"
      with_reducible apply XP.nil
      have hb0 : zb = false := by
        cases zb
        · rfl
        · have := r6 rfl; omega
      refine ⟨rfl, by walk_at "ext", mn, [], none, rfl, ?_⟩
      rw [hb0]
      exact zone0 (minus := mn) (zz := false) (hh := 0) (mm := 0)
    · intro e; exact absurd e (by decide)
  · walk_at "ite"
    · intro e; exact absurd e (by decide)
    intro _
    walk_at "ite"
    · intro _
      have hpk : ∀ fr (st : Sto), Item (C1 q) fr (st ++ [.list [.str "Z", .str "z"]]) (.obj st.length) (.int (nb s 7 / 14400 % 2)) (.ok (.str ⟨(if (nb s 7 / 14400 % 2 == 1) = true then [122] else [90] : TX).toArray⟩)) (st ++ [.list [.str "Z", .str "z"]]) := fun fr st => by
        have := Item.list (c := C1 q) (fr := fr) (i := nb s 7 / 14400 % 2) (get_last (st := st) (o := .list [.str "Z", .str "z"])) (by omega) (by omega) (pick2 (by omega) (by omega))
        have e : (if nb s 7 / 14400 % 2 = 1 then (.str "z" : V) else .str "Z") = .str ⟨(if (nb s 7 / 14400 % 2 == 1) = true then [122] else [90] : TX).toArray⟩ := by
          by_cases h : nb s 7 / 14400 % 2 = 1
          · rw [if_pos h, if_pos (by rw [h]; rfl)]; rfl
          · rw [if_neg h, if_neg (by simpa using h)]; rfl
        rwa [e] at this
      walk_at "asg2"
      with_reducible apply XP.nil
      have hb0 : zb = false := by
        cases zb
        · rfl
        · have := r6 rfl; omega
      refine ⟨rfl, by walk_at "ext", mn, _, some 0, rfl, ?_⟩
      rw [hb0]
      exact zone1 (minus := mn) (zz := nb s 7 / 14400 % 2 == 1) (hh := 0) (mm := 0)
    · intro e; exact absurd e (by decide)
  · walk_at "ite"
    · intro e; exact absurd e (by decide)
    intro _
    walk_at "ite"
    · intro e; exact absurd e (by decide)
    intro _
    walk_at "ite"
    · intro _
      have hbb : hh < 100 := by
        cases zb
        · have := r5 rfl; omega
        · have := r6 rfl; omega
      have hpl := (pm_one mn)
      obtain ⟨x, ex, _, _⟩ := hpl
      have hpl : (pm mn).length = 1 := by rw [ex]; rfl
      walk_at "asg2"
      with_reducible apply XP.nil
      refine ⟨rfl, by walk_at "ext", mn, _, some (hh * 3600), rfl, ?_⟩
      exact zone2 (minus := mn) (zz := false) (hh := hh) (mm := 0) r3 (fun e => by have := r5 e; omega) (fun e => by have := r6 e; omega)
    · intro e; exact absurd e (by decide)
  · walk_at "ite"
    · intro e; exact absurd e (by decide)
    intro _
    walk_at "ite"
    · intro e; exact absurd e (by decide)
    intro _
    walk_at "ite"
    · intro e; exact absurd e (by decide)
    intro _
    have hbb : hh < 100 ∧ mi < 100 := by
      cases zb
      · have := r5 rfl; omega
      · have := r6 rfl; omega
    obtain ⟨hb1, hb2⟩ := hbb
    obtain ⟨x, ex, _, _⟩ := pm_one mn
    have hpl : (pm mn).length = 1 := by rw [ex]; rfl
    have hit : ∀ fr (st : Sto), Item (C1 q) fr (st ++ [MObj.list [.str "", .str ":"]]) (.obj st.length) (.int (3 - 3)) (.ok (.str ⟨(col false).toArray⟩)) (st ++ [MObj.list [.str "", .str ":"]]) := fun fr st => Item.list get_last (by decide) (by decide) rfl
    have hcl : (col false).length ≤ 1 := by decide
    walk_at "asg2"
    with_reducible apply XP.nil
    refine ⟨rfl, by walk_at "ext", mn, _, some (hh * 3600 + mi * 60), rfl, ?_⟩
    have := zone3 (zone := 3) (cb := false) (minus := mn) (zz := false) (hh := hh) (mm := mi) (bad := zb) (by decide) r3 r4 (fun e => by have := r5 e; omega) (fun e => by have := r6 e; omega)
    have e1 : zT 3 false mn hh mi = pm mn ++ (dgs 2 hh.toNat ++ (col false ++ dgs 2 mi.toNat)) := by
      show pm mn ++ dgs 2 hh.toNat ++ col false ++ dgs 2 mi.toNat = _
      simp only [List.append_assoc]
    rw [e1] at this
    exact this
  · walk_at "ite"
    · intro e; exact absurd e (by decide)
    intro _
    walk_at "ite"
    · intro e; exact absurd e (by decide)
    intro _
    walk_at "ite"
    · intro e; exact absurd e (by decide)
    intro _
    have hbb : hh < 100 ∧ mi < 100 := by
      cases zb
      · have := r5 rfl; omega
      · have := r6 rfl; omega
    obtain ⟨hb1, hb2⟩ := hbb
    obtain ⟨x, ex, _, _⟩ := pm_one mn
    have hpl : (pm mn).length = 1 := by rw [ex]; rfl
    have hit : ∀ fr (st : Sto), Item (C1 q) fr (st ++ [MObj.list [.str "", .str ":"]]) (.obj st.length) (.int (4 - 3)) (.ok (.str ⟨(col true).toArray⟩)) (st ++ [MObj.list [.str "", .str ":"]]) := fun fr st => Item.list get_last (by decide) (by decide) rfl
    have hcl : (col true).length ≤ 1 := by decide
    walk_at "asg2"
    with_reducible apply XP.nil
    refine ⟨rfl, by walk_at "ext", mn, _, some (hh * 3600 + mi * 60), rfl, ?_⟩
    have := zone3 (zone := 4) (cb := true) (minus := mn) (zz := false) (hh := hh) (mm := mi) (bad := zb) (by decide) r3 r4 (fun e => by have := r5 e; omega) (fun e => by have := r6 e; omega)
    have e1 : zT 4 false mn hh mi = pm mn ++ (dgs 2 hh.toNat ++ (col true ++ dgs 2 mi.toNat)) := by
      show pm mn ++ dgs 2 hh.toNat ++ col true ++ dgs 2 mi.toNat = _
      simp only [List.append_assoc]
    rw [e1] at this
    exact this
end
section
set_option Elab.async false
set_option maxRecDepth 100000
set_option maxHeartbeats 4000000
set_option simprocs false
set_option linter.unusedVariables false
open PySem PySem.Spec PySem.Calls PyProof.Rows PySem.W
variable {q : Pk}
theorem Ev.addX {c : Wd} {fr : Fx} {m : Loc} {st st₁ : Sto} {l : Expr} {pos pp : Pos} {kk : Nat} {f : TX} (h : Ev c fr l m st (.ok (.str ⟨f.toArray⟩)) st₁) (hf : f.length ≤ 100) :
    Ev c fr (.BinOp l .Add (.Constant (.str "x") kk pp) pos) m st (.ok (.str ⟨(f ++ [120]).toArray⟩)) st₁ :=
  Ev.bin h (Ev.conv Ev.str (rfl : V.str "x" = .str ⟨([120] : TX).toArray⟩)) (Bin2.cat8 (l := f) (k := [120]) (by show _ + 1 ≤ _; omega))
theorem law14 (ok : (C1 q).Ok) {body : List Stmt} (hb : LawB q body) {st : Sto} {mn : Bool} {o0 : Option Int} {vn vy vo vN vm vd vf vs vw vwk vown vc vrf vp vt vwh vr vco vla vwo vsz vva vdi vz vh vmi vl : V} :
    XP (C1 q) lawG ((body.drop 27).take 1) [vn, vy, vo, vN, vm, vd, vf, vs, vw, vwk, vown, vc, vrf, vp, vt, vwh, vr, .undef, vco, vla, vwo, vsz, vva, vdi, vz, vh, vmi, .bool mn, vl, offV o0, .undef, .undef] st
      (fun o m' st' => o = .ok .next ∧ st' = st ∧ m' = [vn, vy, vo, vN, vm, vd, vf, vs, vw, vwk, vown, vc, vrf, vp, vt, vwh, vr, .undef, vco, vla, vwo, vsz, vva, vdi, vz, vh, vmi, .bool mn, vl, offV (o0.map (neg? mn)), .undef, .undef]) := by
  obtain ⟨oc, od, osl, fd, h1', h2'⟩ := hb
  cases h1'
  cases h2'
  simp only [List.drop_succ_cons, List.drop_zero, List.take_succ_cons, List.take_zero]
  cases o0 with
  | none =>
    show XP _ _ _ [vn, vy, vo, vN, vm, vd, vf, vs, vw, vwk, vown, vc, vrf, vp, vt, vwh, vr, .undef, vco, vla, vwo, vsz, vva, vdi, vz, vh, vmi, .bool mn, vl, .none, .undef, .undef] _ _
    walk_at "ite"
    · intro e; simp at e
    · intro _
      with_reducible apply XP.nil
      exact ⟨rfl, rfl, rfl⟩
  | some x =>
    show XP _ _ _ [vn, vy, vo, vN, vm, vd, vf, vs, vw, vwk, vown, vc, vrf, vp, vt, vwh, vr, .undef, vco, vla, vwo, vsz, vva, vdi, vz, vh, vmi, .bool mn, vl, .int x, .undef, .undef] _ _
    walk_at "ite"
    · intro e
      walk_at "asg"
      with_reducible apply XP.nil
      refine ⟨rfl, rfl, ?_⟩
      simp at e
      rw [e]
      rfl
    · intro e
      with_reducible apply XP.nil
      refine ⟨rfl, rfl, ?_⟩
      simp at e
      rw [e]
      rfl
def markC (i : Int) : Nat := ([84, 32, 95, 120, 42] : List Nat).getD i.toNat 84
structure MK (s : List Int) (mk : Nat) (mb : Bool) : Prop where
  dig : isDig mk = false
  asc : mk < 128
  good : mb = false → sepOf s = none ∨ sepOf s = some mk
  bad : mb = true → sepOf s = some 84 ∧ mk ≠ 84
theorem law15 (ok : (C1 q).Ok) {body : List Stmt} (hb : LawB q body) {s : List Int} {n : Nat} {st : Sto} (L : LS s n st) {w : Int} {rf : Bool} {last : TX} (hlast : last.length ≤ 6) {vy vo vN vm vd vf vs vwk vown vc vp vt vwh vr vco vla vwo vsz vva vdi vz vh vmi vmn vof : V} :
    XP (C1 q) lawG ((body.drop 28).take 3) [.obj n, vy, vo, vN, vm, vd, vf, vs, .int w, vwk, vown, vc, .bool rf, vp, vt, vwh, vr, .undef, vco, vla, vwo, vsz, vva, vdi, vz, vh, vmi, vmn, .str ⟨last.toArray⟩, vof, .undef, .undef] st
      (fun o m' st' => o = .ok .next ∧ Ext st st' ∧ ∃ mk mb, m' = [.obj n, vy, vo, vN, vm, vd, vf, vs, .int w, vwk, vown, vc, .bool (rf || mb || decide (w = 16)), vp, vt, vwh, vr, .undef, vco, vla, vwo, vsz, vva, vdi, vz, vh, vmi, vmn, .str ⟨(lastX w last).toArray⟩, vof, .str ⟨[mk].toArray⟩, .undef] ∧ MK s mk mb) := by
  obtain ⟨oc, od, osl, fd, h1', h2'⟩ := hb
  cases h1'
  cases h2'
  simp only [List.drop_succ_cons, List.drop_zero, List.take_succ_cons, List.take_zero]
  have hnum := L.num
  unfold numL at hnum
  have hi5 : 0 ≤ nb s 3 / 20 % 5 ∧ nb s 3 / 20 % 5 ≤ 4 := by omega
  have hit : ∀ fr (st : Sto), Item (C1 q) fr st (.str "T _x*") (.int (nb s 3 / 20 % 5)) (.ok (.str ⟨[markC (nb s 3 / 20 % 5)].toArray⟩)) st := fun fr st => by
    generalize nb s 3 / 20 % 5 = i at *
    have : i = 0 ∨ i = 1 ∨ i = 2 ∨ i = 3 ∨ i = 4 := by omega
    rcases this with rfl | rfl | rfl | rfl | rfl <;> exact Item.str (by decide) rfl
  -- the sign as it stands first
  have hmk0 : ∃ mk, (if nb s 3 / 2 % 2 = 1 then 84 else markC (nb s 3 / 20 % 5)) = mk ∧ isDig mk = false ∧ mk < 128 ∧ (sepOf s = none ∨ sepOf s = some mk) ∧ (nb s 3 / 2 % 2 = 1 → sepOf s = some 84) := by
    refine ⟨_, rfl, ?_⟩
    unfold sepOf
    by_cases h : nb s 3 / 2 % 2 = 1
    · rw [if_pos h, if_pos h]
      exact ⟨by decide, by decide, .inr rfl, fun _ => rfl⟩
    · rw [if_neg h, if_neg h]
      have h2 : isDig (markC (nb s 3 / 20 % 5)) = false ∧ markC (nb s 3 / 20 % 5) < 128 := by
        generalize nb s 3 / 20 % 5 = i at *
        have : i = 0 ∨ i = 1 ∨ i = 2 ∨ i = 3 ∨ i = 4 := by omega
        rcases this with rfl | rfl | rfl | rfl | rfl <;> exact ⟨by decide, by decide⟩
      exact ⟨h2.1, h2.2, .inl rfl, fun e => absurd e h⟩
  obtain ⟨mk, emk, hd, ha, hs, h84⟩ := hmk0
  with_reducible apply XP.step (m₁ := [.obj n, vy, vo, vN, vm, vd, vf, vs, .int w, vwk, vown, vc, .bool rf, vp, vt, vwh, vr, .undef, vco, vla, vwo, vsz, vva, vdi, vz, vh, vmi, vmn, .str ⟨last.toArray⟩, vof, .str ⟨[mk].toArray⟩, .undef]) (st₁ := st)
  · intro fr F'
    refine Ex1.asgA (v := .str ⟨[mk].toArray⟩) F' ?_ (by walk_at "up") rfl
    rw [← emk]
    by_cases h : nb s 3 / 2 % 2 = 1
    · rw [if_pos h]
      exact Ev.ifexp (t := true) (Bt.conv (b := (nb s 3 / 2 % 2 == 1)) (by walk_at "bt") (by rw [h]; rfl)) (fun _ => Ev.conv Ev.str rfl) (fun e => nomatch e)
    · rw [if_neg h]
      exact Ev.ifexp (t := false) (Bt.conv (b := (nb s 3 / 2 % 2 == 1)) (by walk_at "bt") (by simpa using h)) (fun e => nomatch e) (fun _ => by walk_at "ev")
  unfold lastX
  walk_at "ite"
  · intro e
    simp at e
    obtain ⟨hw, ht⟩ := e
    subst hw
    walk_at "asgC2"
    walk_at "ite"
    · intro e; exact absurd e (by decide)
    · intro _
      with_reducible apply XP.nil
      refine ⟨rfl, by walk_at "ext", 116, true, ?_, ⟨by decide, by decide, (fun e => nomatch e), fun _ => ⟨h84 ht, by decide⟩⟩⟩
      rw [Bool.or_true]
      rfl
  · intro _
    by_cases h16 : w = 16
    · subst h16
      walk_at "ite"
      · intro _
        with_reducible apply XP.step
        · intro fr F'
          with_reducible apply Ex1.asgP2 F' rfl
          · exact Ev.addX (by walk_at "ev") (by omega)
          · walk_at "ev"
          · walk_at "up"
          · walk_at "up"
          · walk_at "in"
          · walk_at "in"
          · rfl
          · rfl
          · rfl
          · rfl
          · rfl
          · rfl
          · rfl
        with_reducible apply XP.nil
        refine ⟨rfl, by walk_at "ext", mk, false, ?_, ⟨hd, ha, fun _ => hs, fun e => nomatch e⟩⟩
        rw [if_pos trivial, decide_eq_true trivial, Bool.or_true]
      · intro e; exact absurd e (by decide)
    · walk_at "ite"
      · intro e; simp at e; omega
      · intro _
        with_reducible apply XP.nil
        refine ⟨rfl, by walk_at "ext", mk, false, ?_, ⟨hd, ha, fun _ => hs, fun e => nomatch e⟩⟩
        rw [if_neg h16, decide_eq_false h16, Bool.or_false, Bool.or_false]
end
section
set_option Elab.async false
set_option maxRecDepth 100000
set_option maxHeartbeats 4000000
set_option simprocs false
set_option linter.unusedVariables false
open PySem PySem.Spec PySem.Calls PyProof.Rows PySem.W
variable {q : Pk}
theorem law16 (ok : (C1 q).Ok) {body : List Stmt} (hb : LawB q body) {s : List Int} {n k kc : Nat} {st : Sto} {mm c0 c1 c2 us : Int} (C : CK s n k kc mm c0 c1 c2 us st) {w zn : Int} {rf : Bool} {t W last : TX} {mk : Nat} (h1 : t.length ≤ 12) (h2 : W.length ≤ 30) (h3 : last.length ≤ 7) {vy vo vN vm vd vf vs vwk vown vc vp vwh vr vco vla vsz vva vdi vh vmi vmn vof : V} :
    XP (C1 q) lawG ((body.drop 31).take 2) [.obj n, vy, vo, vN, vm, vd, vf, vs, .int w, vwk, vown, vc, .bool rf, vp, .str ⟨t.toArray⟩, vwh, vr, .undef, vco, vla, .str ⟨W.toArray⟩, vsz, vva, vdi, .int zn, vh, vmi, vmn, .str ⟨last.toArray⟩, vof, .str ⟨[mk].toArray⟩, .undef] st
      (fun o m' st' => o = .ok .next ∧ Ext st st' ∧ m' = [.obj n, vy, vo, vN, vm, vd, vf, vs, .int w, vwk, vown, vc, .bool (rf || cutL w zn mm), vp, .str ⟨(fullT (cutL w zn mm) (t ++ [mk] ++ W ++ last)).toArray⟩, vwh, vr, .undef, vco, vla, .str ⟨W.toArray⟩, vsz, vva, vdi, .int zn, vh, vmi, vmn, .str ⟨last.toArray⟩, vof, .str ⟨[mk].toArray⟩, .undef]) := by
  obtain ⟨oc, od, osl, fd, h1', h2'⟩ := hb
  cases h1'
  cases h2'
  simp only [List.drop_succ_cons, List.drop_zero, List.take_succ_cons, List.take_zero]
  have hmn := C.mn
  walk_at "asg"
  have hF : (t ++ [mk] ++ W ++ last).length ≤ 100 := by simp only [List.length_append, List.length_cons, List.length_nil]; omega
  generalize t ++ [mk] ++ W ++ last = F at *
  have e : cutL w zn mm = ((w == 17) && (decide (zn > 1) || ((zn == 0) && decide (mm < 3)))) := by
    unfold cutL
    rw [Bool.eq_iff_iff]
    simp
  rw [e]
  walk_at "ite"
  · intro ht
    walk_at "asg2"
    with_reducible apply XP.nil
    refine ⟨rfl, by walk_at "ext", ?_⟩
    rw [ht, Bool.or_true]
    rfl
  · intro ht
    with_reducible apply XP.nil
    refine ⟨rfl, by walk_at "ext", ?_⟩
    rw [ht, Bool.or_false]
    rfl
end
section
set_option Elab.async false
set_option maxRecDepth 100000
set_option maxHeartbeats 4000000
set_option simprocs false
set_option linter.unusedVariables false
open PySem PySem.Spec PySem.Calls PyProof.Rows PySem.W
variable {q : Pk}
theorem eqvL7 {a b c d e f g : Int} : eqvL [V.int a, .int b, .int c, .int d, .int e, .int f, .int g] [.int a, .int b, .int c, .int d, .int e, .int f, .int g] = true := by simp [eqvL, V.eqv]
theorem offV_num (o : Option Int) : (offV o).num = true := by cases o <;> rfl
theorem offV_eqv (o : Option Int) : (offV o).eqv (offV o) = true := by cases o <;> simp [offV, V.eqv]
theorem offV_def (o : Option Int) : (offV o).isDef = true := by cases o <;> rfl
theorem offV_flat (o : Option Int) : (offV o).flat = true := by cases o <;> rfl
/-- the text, or its octets -/
def argV (b : Bool) (F : TX) : V := if b = true then .str ⟨F.toArray⟩ else .bytes (by8 F)
theorem argV_text (b : Bool) (F : TX) : TextOf F (argV b F) := by
  cases b
  · exact .inr rfl
  · exact .inl rfl
/-- the moment is told; nothing else is left to be asked -/
theorem law17 (ok : (C1 q).Ok) (hC : CodeHd (C1 q).base 610 (C1 q).out) {body : List Stmt} (hb : LawB q body) {s : List Int} {n k kc : Nat} {st : Sto} {N mm c0 c1 c2 us late zn : Int} {rf : Bool} {F W la : TX} {off : Option Int} (C : CK s n k kc mm c0 c1 c2 us st)
    (f1 : Asc F) (f2 : F.length ≤ 100) (w1 : Asc W) (w2 : W.length ≤ 30) (l1 : Asc la) (l2 : la.length ≤ 7) (hbad : rf = true → isoparse (sepOf s) F = .error VE)
    (hgood : rf = false → ∃ tz, isoparse (sepOf s) F = .ok ⟨lawDayY (N + late), lawDayM (N + late), lawDayD (N + late), c0 % 24, c1, c2, us, tz⟩ ∧ isotime (W ++ la) = some (c0, c1, c2, us, tz) ∧ (1 < zn → parseTz la = some tz) ∧ offI tz = off ∧ (c0 % 24 = if c0 = 24 then 0 else c0) ∧ clockOk (if c0 = 24 then 0 else c0) c1 c2 us)
    {vy vo vm vd vf vs vw vwk vown vc vp vwh vco vsz vva vdi vh vmi vmn vmk : V} :
    XP (C1 q) lawG ((body.drop 33).take 4) [.obj n, vy, vo, .int N, vm, vd, vf, vs, vw, vwk, vown, vc, .bool rf, vp, .str ⟨F.toArray⟩, vwh, .obj k, .undef, vco, .int late, .str ⟨W.toArray⟩, vsz, vva, vdi, .int zn, vh, vmi, vmn, .str ⟨la.toArray⟩, offV off, vmk, .undef] st
      (fun o m' st' => o = .ok (.ret (.bool true)) ∨ (o = .ok .next ∧ rf = false ∧ ∃ (j : Nat) (v : V) (tz : TZ) (Y M D : Int), m' = [.obj n, .int Y, vo, .int N, .int M, .int D, vf, vs, vw, vwk, vown, vc, .bool false, vp, .str ⟨F.toArray⟩, vwh, .obj k, .obj j, vco, .int late, .str ⟨W.toArray⟩, vsz, vva, vdi, .int zn, vh, vmi, vmn, .str ⟨la.toArray⟩, offV off, vmk, .undef]
        ∧ CK s n k kc mm c0 c1 c2 us st' ∧ (∃ h mi ss u, st'[j]? = some (dtO Y M D h mi ss u v)) ∧ TzAt st' v tz ∧ isotime (W ++ la) = some (c0, c1, c2, us, tz) ∧ (1 < zn → parseTz la = some tz) ∧ offI tz = off ∧ (c0 % 24 = if c0 = 24 then 0 else c0) ∧ clockOk (if c0 = 24 then 0 else c0) c1 c2 us)) := by
  obtain ⟨oc, od, osl, fd, h1', h2'⟩ := hb
  cases h1'
  cases h2'
  simp only [List.drop_succ_cons, List.drop_zero, List.take_succ_cons, List.take_zero]
  have hnum := C.ls.num
  unfold numL at hnum
  have hk := C.rd
  have hsep : ∀ x, sepOf s = some x → x < 128 := fun x e => by
    unfold sepOf at e
    split at e
    · cases e; decide
    · cases e
  have henc : ∀ fr st, CallT (C1 q) fr (.builtin "str.encode") [.str ⟨F.toArray⟩, .str (Str.ofString "ascii")] [] st (.ok (.bytes (by8 F))) st := fun fr st => CallT.encode8 f1 (by omega)
  obtain ⟨r, st1, kI, x1, e1⟩ := isoparse_ (q := q) ok hC hk hsep (argV_text (nb s 3 / 100 % 2 == 0) F) f1 (by omega)
  cases rf with
  | true =>
    rw [hbad rfl] at e1
    obtain ⟨kx, rfl⟩ := e1
    with_reducible apply XP.stop (f := .ret (.bool true)) (m₁ := [.obj n, vy, vo, .int N, vm, vd, vf, vs, vw, vwk, vown, vc, .bool true, vp, .str ⟨F.toArray⟩, vwh, .obj k, .undef, vco, .int late, .str ⟨W.toArray⟩, vsz, vva, vdi, .int zn, vh, vmi, vmn, .str ⟨la.toArray⟩, offV off, vmk, .undef]) (st₁ := st1)
    · intro fr F'
      refine Ex1.tryType (st₁ := st1) (m₁ := [.obj n, vy, vo, .int N, vm, vd, vf, vs, vw, vwk, vown, vc, .bool true, vp, .str ⟨F.toArray⟩, vwh, .obj k, .undef, vco, .int late, .str ⟨W.toArray⟩, vsz, vva, vdi, .int zn, vh, vmi, vmn, .str ⟨la.toArray⟩, offV off, vmk, .undef]) (F'.head rfl) (b := false) (X := ⟨"ValueError", kx⟩) (T := "ValueError") (fun e => nomatch e) catch_ValueError sub_VV (Ex.stopE (Ex1.asgEA ?_ rfl)) (fun e => ?_) fun e => ?_
      · with_reducible apply Ev.methA ok
        · walk_at "ev"
        · walk_at "meth"
        · walk_at "keep"
        · refine EvL.cons (v := argV (nb s 3 / 100 % 2 == 0) F) (st₁ := st) ?_ .nil rfl
          cases hq : (nb s 3 / 100 % 2 == 0)
          · exact Ev.ifexp (t := false) (Bt.conv (b := (nb s 3 / 100 % 2 == 0)) (by walk_at "bt") hq) (fun e => nomatch e) (fun _ => Ev.conv (v := .bytes (by8 F)) (by walk_at "ev") rfl)
          · exact Ev.ifexp (t := true) (Bt.conv (b := (nb s 3 / 100 % 2 == 0)) (by walk_at "bt") hq) (fun _ => Ev.conv (v := .str ⟨F.toArray⟩) (by walk_at "ev") rfl) (fun e => nomatch e)
        · exact EvK.nil
        · exact List.singleton_append
        · walk_at "call"
        · rfl
        · exact ⟨_, rfl⟩
      · exact Ev.glF ok F'.fri.handling (by walk_at "in")
      · refine Ex.stop (fun e => nomatch e) (.ret ?_)
        exact Ev.lc F'.fri.handling (by walk_at "lk")
    · exact fun e => nomatch e
    · exact .inl rfl
  | false =>
    obtain ⟨tz, g1, g2, g3, g4, g5, g6⟩ := hgood rfl
    rw [g1] at e1
    obtain ⟨j, v, rfl, hj, hv⟩ := e1
    obtain ⟨hvd, hvp⟩ := hv.def
    dsimp only at hj hv
    with_reducible apply XP.step (m₁ := [.obj n, vy, vo, .int N, vm, vd, vf, vs, vw, vwk, vown, vc, .bool false, vp, .str ⟨F.toArray⟩, vwh, .obj k, .obj j, vco, .int late, .str ⟨W.toArray⟩, vsz, vva, vdi, .int zn, vh, vmi, vmn, .str ⟨la.toArray⟩, offV off, vmk, .undef]) (st₁ := st1)
    · intro fr F'
      refine Ex1.tryOk (Ex.cons (Ex1.asgA F' ?_ (by walk_at "up") rfl) Ex.nil)
      with_reducible apply Ev.methA ok
      · walk_at "ev"
      · walk_at "meth"
      · walk_at "keep"
      · refine EvL.cons (v := argV (nb s 3 / 100 % 2 == 0) F) (st₁ := st) ?_ .nil rfl
        cases hq : (nb s 3 / 100 % 2 == 0)
        · exact Ev.ifexp (t := false) (Bt.conv (b := (nb s 3 / 100 % 2 == 0)) (by walk_at "bt") hq) (fun e => nomatch e) (fun _ => Ev.conv (v := .bytes (by8 F)) (by walk_at "ev") rfl)
        · exact Ev.ifexp (t := true) (Bt.conv (b := (nb s 3 / 100 % 2 == 0)) (by walk_at "bt") hq) (fun _ => Ev.conv (v := .str ⟨F.toArray⟩) (by walk_at "ev") rfl) (fun e => nomatch e)
      · exact EvK.nil
      · exact List.singleton_append
      · walk_at "call"
      · rfl
      · exact ⟨_, rfl⟩
    have Ca := C.ext x1
    walk_at "ite"
    · intro e; cases e
    intro _
    have cD := fun n st => lawDay_ (q := q) ok true rfl (n := n) (st := st)
    walk_at "asgT"
    refine XP.keep (st := st1) (by walk_at "ext") fun st2 X2 => ?_
    have hj2 := X2.get hj
    have hv2 := hv.ext X2
    have C2 := Ca.ext X2
    have hck2 := C2.ck
    have hli2 := C2.li
    have hk2 := C2.rd
    generalize lawDayY (N + late) = Y at *
    generalize lawDayM (N + late) = M at *
    generalize lawDayD (N + late) = D at *
    -- the moment's own parts
    apply XP.ite (t := false) (st₁ := st2 ++ [.tuple [.int Y, .int M, .int D, .int (c0 % 24), .int c1, .int c2, .int us]] ++ [.tuple [.int Y, .int M, .int D, .int (c0 % 24), .int c1, .int c2, .int us]])
    · intro fr F'
      refine Bt.conv (b := !eqvL [.int Y, .int M, .int D, .int (c0 % 24), .int c1, .int c2, .int us] [.int Y, .int M, .int D, .int (c0 % 24), .int c1, .int c2, .int us]) ?_ (by rw [eqvL7]; rfl)
      with_reducible apply Bt.cmpA
      · walk_at "ev"
      · walk_at "ev"
      · exact Cmp2.neT (by have := F'.fit.lv; omega) (Ext.get Ext.add get_last) get_last (pair_ints [Y, M, D, c0 % 24, c1, c2, us] [Y, M, D, c0 % 24, c1, c2, us] rfl)
      · rfl
    · intro e; cases e
    intro _
    simp only [List.nil_append]
    refine XP.keep (st := st2) (by walk_at "ext") fun st3 X3 => ?_
    with_reducible apply XP.nil
    exact .inr ⟨rfl, trivial, j, v, tz, Y, M, D, rfl, C2.ext X3, ⟨_, _, _, _, X3.get hj2⟩, hv2.ext X3, g2, g3, g4, g5, g6⟩
end
section
set_option Elab.async false
set_option maxRecDepth 100000
set_option maxHeartbeats 4000000
set_option simprocs false
set_option linter.unusedVariables false
open PySem PySem.Spec PySem.Calls PyProof.Rows PySem.W
variable {q : Pk}
theorem law18 (ok : (C1 q).Ok) {body : List Stmt} (hb : LawB q body) {s : List Int} {n k kc j : Nat} {st : Sto} {N mm c0 c1 c2 us late zn Y M D : Int} {W la : TX} {off : Option Int} {v : V} {tz : TZ} (C : CK s n k kc mm c0 c1 c2 us st)
    (l1 : Asc la) (l2 : la.length ≤ 7) (hj : ∃ h mi ss u, st[j]? = some (dtO Y M D h mi ss u v)) (hv : TzAt st v tz) (g3 : 1 < zn → parseTz la = some tz) (g4 : offI tz = off)
    {vo vf vs vw vwk vown vc vp vwh vco vsz vva vdi vh vmi vmn vmk vt vrf : V} :
    XP (C1 q) lawG ((body.drop 37).take 1) [.obj n, .int Y, vo, .int N, .int M, .int D, vf, vs, vw, vwk, vown, vc, vrf, vp, vt, vwh, .obj k, .obj j, vco, .int late, .str ⟨W.toArray⟩, vsz, vva, vdi, .int zn, vh, vmi, vmn, .str ⟨la.toArray⟩, offV off, vmk, .undef] st
      (fun o m' st' => o = .ok .next ∧ Ext st st' ∧ m' = [.obj n, .int Y, vo, .int N, .int M, .int D, vf, vs, vw, vwk, vown, vc, vrf, vp, vt, vwh, .obj k, .obj j, vco, .int late, .str ⟨W.toArray⟩, vsz, vva, vdi, .int zn, vh, vmi, vmn, .str ⟨la.toArray⟩, offV off, vmk, .undef]) := by
  obtain ⟨oc, od, osl, fd, h1', h2'⟩ := hb
  cases h1'
  cases h2'
  simp only [List.drop_succ_cons, List.drop_zero, List.take_succ_cons, List.take_zero]
  obtain ⟨dh, dmi, ds, du, hj⟩ := hj
  obtain ⟨hvd, hvp⟩ := hv.def
  have hod := offV_def off
  have hk := C.rd
  obtain ⟨r4, st4, k4, x4, e4⟩ := lawOffset_ (q := q) ok true hv
  rw [g4] at e4
  subst e4
  by_cases hz : 1 < zn
  · have hk4 := x4.get hk
    obtain ⟨r5, st5, k5, x5, e5⟩ := pTzstr_ (q := q) ok (x4.get hk) (.inl rfl : TextOf la (.str ⟨la.toArray⟩)) l1 (by omega)
    rw [g3 hz] at e5
    obtain ⟨w, rfl, hw⟩ := e5
    obtain ⟨hwd, hwp⟩ := hw.def
    obtain ⟨r6, st6, k6, x6, e6⟩ := lawOffset_ (q := q) ok true hw
    rw [g4] at e6
    subst e6
    apply XP.ite (t := false) (st₁ := st6)
    · intro fr F'
      refine Bt.orF (st₁ := st4) (Bt.conv (b := !(offV off).eqv (offV off)) ?_ (by rw [offV_eqv]; rfl)) (Bt.andT (st₁ := st4) (Bt.conv (b := decide (zn > 1)) (by walk_at "bt") (decide_eq_true hz)) (Bt.conv (b := !(offV off).eqv (offV off)) ?_ (by rw [offV_eqv]; rfl)))
      · with_reducible apply Bt.cmpA
        · walk_at "ev"
        · walk_at "ev"
        · exact Cmp2.neF (by have := F'.fit.lv; omega) (offV_num _) (offV_num _)
        · rfl
      · with_reducible apply Bt.cmpA
        · walk_at "ev"
        · walk_at "ev"
        · exact Cmp2.neF (by have := F'.fit.lv; omega) (offV_num _) (offV_num _)
        · rfl
    · intro e; cases e
    intro _
    simp only [List.nil_append]
    with_reducible apply XP.nil
    exact ⟨rfl, (x4.trans x5).trans x6, rfl⟩
  · apply XP.ite (t := false) (st₁ := st4)
    · intro fr F'
      refine Bt.orF (st₁ := st4) (Bt.conv (b := !(offV off).eqv (offV off)) ?_ (by rw [offV_eqv]; rfl)) (Bt.andF (Bt.conv (b := decide (zn > 1)) (by walk_at "bt") (decide_eq_false hz)))
      with_reducible apply Bt.cmpA
      · walk_at "ev"
      · walk_at "ev"
      · exact Cmp2.neF (by have := F'.fit.lv; omega) (offV_num _) (offV_num _)
      · rfl
    · intro e; cases e
    intro _
    simp only [List.nil_append]
    with_reducible apply XP.nil
    exact ⟨rfl, x4, rfl⟩
theorem eqvL5 {a b c d : Int} {o : Option Int} : eqvL [V.int a, .int b, .int c, .int d, offV o] [.int a, .int b, .int c, .int d, offV o] = true := by
  cases o <;> simp [eqvL, V.eqv, offV]
theorem law19 (ok : (C1 q).Ok) (hC : CodeHd (C1 q).base 610 (C1 q).out) {body : List Stmt} (hb : LawB q body) {s : List Int} {n k kc : Nat} {st : Sto} {mm c0 c1 c2 us : Int} {W la : TX} {off : Option Int} {tz : TZ} (C : CK s n k kc mm c0 c1 c2 us st)
    (w1 : Asc W) (w2 : W.length ≤ 30) (l1 : Asc la) (l2 : la.length ≤ 7) (g2 : isotime (W ++ la) = some (c0, c1, c2, us, tz)) (g4 : offI tz = off) (g5 : c0 % 24 = if c0 = 24 then 0 else c0) (g6 : clockOk (if c0 = 24 then 0 else c0) c1 c2 us)
    {vy vo vN vm vd vf vs vw vwk vown vc vp vwh vco vsz vva vdi vh vmi vmn vmk vt vrf vto vla vz : V} :
    XP (C1 q) lawG (body.drop 38) [.obj n, vy, vo, vN, vm, vd, vf, vs, vw, vwk, vown, vc, vrf, vp, vt, vwh, .obj k, vto, vco, vla, .str ⟨W.toArray⟩, vsz, vva, vdi, vz, vh, vmi, vmn, .str ⟨la.toArray⟩, offV off, vmk, .undef] st
      (fun o m' st' => o = .ok (.ret (.bool true))) := by
  obtain ⟨oc, od, osl, fd, h1', h2'⟩ := hb
  cases h1'
  cases h2'
  simp only [List.drop_succ_cons, List.drop_zero]
  have hk := C.rd
  have hod := offV_def off
  obtain ⟨r4, st4, k4, x4, e4⟩ := pIsotime_ (q := q) ok hC hk (.inl rfl : TextOf (W ++ la) (.str ⟨(W ++ la).toArray⟩)) (w1.append l1) (by rw [List.length_append]; omega)
  have ht : timeOnly (W ++ la) = some (c0 % 24, c1, c2, us, tz) := by
    unfold timeOnly
    rw [g2]
    dsimp only
    rw [if_pos g6, g5]
  rw [ht] at e4
  obtain ⟨j, v, rfl, hj, hv⟩ := e4
  obtain ⟨hvd, hvp⟩ := hv.def
  walk_at "asg"
  obtain ⟨r5, st5, k5, x5, e5⟩ := lawOffset_ (q := q) ok true hv
  rw [g4] at e5
  subst e5
  have C5 := (C.ext x4).ext x5
  have C6 := C5.ext (Ext.add (l := [MObj.tuple [.int (c0 % 24), .int c1, .int c2, .int us, offV off]]))
  have hck := C6.ck
  have hli := C6.li
  apply XP.ret (v := .bool (eqvL [.int (c0 % 24), .int c1, .int c2, .int us, offV off] [.int (c0 % 24), .int c1, .int c2, .int us, offV off])) (st₁ := st5 ++ [.tuple [.int (c0 % 24), .int c1, .int c2, .int us, offV off]] ++ [.tuple [.int (c0 % 24), .int c1, .int c2, .int us, offV off]])
  · intro fr F'
    with_reducible apply Ev.cmp
    · walk_at "ev"
    · walk_at "ev"
    · refine Cmp2.eqT (by have := F'.fit.lv; omega) (Ext.get Ext.add get_last) get_last ?_
      intro i hi
      have h5 : i = 0 ∨ i = 1 ∨ i = 2 ∨ i = 3 ∨ i = 4 := by
        have : i < 5 := hi
        omega
      rcases h5 with rfl | rfl | rfl | rfl | rfl
      · rfl
      · rfl
      · rfl
      · rfl
      · show (offV off).pair (offV off) = true
        unfold V.pair
        rw [offV_flat]; rfl
    · rfl
  · rw [eqvL5]
end
section
set_option Elab.async false
set_option maxRecDepth 100000
set_option maxHeartbeats 4000000
set_option simprocs false
set_option linter.unusedVariables false
open PySem PySem.Spec PySem.Calls PyProof.Rows PySem.W
variable {q : Pk}
theorem XP.seg {c : Wd} {G : Shp} {P Q : Out FV → Loc → Sto → Prop} {b : List Stmt} {m : Loc} {st : Sto} (k n : Nat) (h : XP c G ((b.drop k).take n) m st Q)
    (hQ : ∀ o m' st', Q o m' st' → (o = .ok .next ∧ XP c G (b.drop (k + n)) m' st' P) ∨ (o ≠ .ok .next ∧ P o m' st')) : XP c G (b.drop k) m st P := by
  refine XP.split n (h.mono fun o m' st' q => ?_)
  rw [List.drop_drop]
  rcases hQ o m' st' q with ⟨rfl, h1⟩ | ⟨h1, h2⟩
  · exact h1
  · cases o with
    | exc _ => exact h2
    | ok f => cases f <;> first | exact h2 | exact absurd rfl h1
theorem ckT_asc {m : Nat} {b : Bool} {h mi s : Nat} {fr : TX} (hf : Asc fr) : Asc (ckT m b h mi s fr) := by
  unfold ckT
  split
  · exact dgs_asc _ _
  · exact ((dgs_asc _ _).append (col_asc _)).append (dgs_asc _ _)
  · exact ((((dgs_asc _ _).append (col_asc _)).append (dgs_asc _ _)).append (col_asc _)).append (dgs_asc _ _)
  · exact (((((dgs_asc _ _).append (col_asc _)).append (dgs_asc _ _)).append (col_asc _)).append (dgs_asc _ _)).append hf
theorem ckT_le {m : Nat} {b : Bool} {h mi s : Nat} {fr : TX} : (ckT m b h mi s fr).length ≤ 8 + fr.length := by
  unfold ckT
  cases b <;> split <;> simp [dgs_len, col] <;> omega
theorem lawAll (ok : (C1 q).Ok) (hC : CodeHd (C1 q).base 610 (C1 q).out) {body : List Stmt} (hb : LawB q body) {a : Addr} {items : Array Value} {s : List Int} (hs : ScriptAt q a items s) :
    XP (C1 q) lawG body (List.replicate 32 .undef) [.cell (some (.glob (.ref a))), .cell none, .cell none] (fun o m' st' => o = .ok (.ret (.bool true))) := by
  rw [← List.drop_zero (l := body)]
  refine XP.seg 0 1 (law1 ok hb hs rfl) fun o m' st' h => .inl ?_
  obtain ⟨rfl, rfl, rfl⟩ := h
  refine ⟨rfl, ?_⟩
  -- the numbers
  generalize hy : 1 + nb s 0 % 9998 = y
  generalize hN : lawNum y 1 1 + nb s 1 % (lawNum (y + 1) 1 1 - lawNum y 1 1) = N
  have D : Day y N := by rw [← hN, ← hy]; exact Day.of
  refine XP.seg 1 11 (law2 ok hb (n := 3) (s := s) (y := y) (N := N) rfl hy hN) fun o m' st2 h => .inl ?_
  obtain ⟨rfl, X2, rfl⟩ := h
  have L2 : LS s 3 st2 := ⟨X2.get rfl, ⟨none, X2.get rfl⟩, ⟨none, X2.get rfl⟩, by decide⟩
  refine ⟨rfl, ?_⟩
  rw [D.year]
  generalize form1 s N = f
  generalize hw : nb s 8 % 40 = w
  generalize (decide (nb s 2 / 6 % 2 = 1)) = b
  clear X2
  -- the day's text
  refine XP.seg 12 1 (law4 ok hb L2 D) fun o m' st4 h => .inl ?_
  obtain ⟨rfl, L4, t, wh, r0, y', mo', d', pv, rfl, T, hwh⟩ := h
  refine ⟨rfl, ?_⟩
  refine XP.seg 13 1 (law5a ok hb L4) fun o m' st5 h => .inl ?_
  obtain ⟨rfl, X5, k, hkl, hk, rfl⟩ := h
  have L5 := L4.ext X5
  refine ⟨rfl, ?_⟩
  have hk3 : 3 ≤ k := by have := L4.lt; omega
  refine XP.seg 14 1 (law6 ok hb L5 hk T) fun o m' st6 h => ?_
  rcases h with rfl | ⟨rfl, rfl, rfl, rfl⟩
  · exact .inr ⟨(fun e => nomatch e), rfl⟩
  refine .inl ⟨rfl, ?_⟩
  obtain ⟨rfl, rfl, rfl⟩ := hwh rfl
  refine XP.seg 15 3 (law7 ok hb L5 hk hk3) fun o m' st7 h => .inl ?_
  obtain ⟨rfl, rfl, kc7, C7⟩ := h
  refine ⟨rfl, ?_⟩
  generalize (decide (nb s 5 / 4 % 2 = 1)) = cb5
  have K0 : Ck0 (nb s 5 % 4) (nb s 4 % 24) (if 1 ≤ nb s 5 % 4 then nb s 4 / 24 % 60 else 0) (if 2 ≤ nb s 5 % 4 then nb s 4 / 1440 % 60 else 0) 0 := by
    refine ⟨by omega, by omega, .inl ⟨rfl, ⟨by omega, by omega⟩, ?_, ?_⟩, fun e => by rw [if_neg (by omega)], fun e => by rw [if_neg (by omega)]⟩
    · split <;> omega
    · split <;> omega
  refine XP.seg 18 2 (law8 ok hb C7 K0) fun o m' st8 h => .inl ?_
  obtain ⟨rfl, kc8, c0, c1, c2, late, rfl, C8, K8⟩ := h
  refine ⟨rfl, ?_⟩
  refine XP.seg 20 1 (law9 ok hb C8 K8) fun o m' st9 h => .inl ?_
  obtain ⟨rfl, c0', c1', c2', cb, rfl, C9, F9, q1, q2, q3, q4, q5, q6⟩ := h
  refine ⟨rfl, ?_⟩
  have hmm : 0 ≤ nb s 5 % 4 ∧ nb s 5 % 4 ≤ 3 := by omega
  generalize nb s 5 % 4 = mm at *
  refine XP.seg 21 1 (law10 ok hb C9 hmm ⟨q1, q4⟩ ⟨q2, q5⟩ ⟨q3, q6⟩) fun o m' st10 h => .inl ?_
  obtain ⟨rfl, rfl, X10⟩ := h
  refine ⟨rfl, ?_⟩
  have C10 := C9.ext X10
  refine XP.seg 22 1 (law11 ok hb C10 hmm) fun o m' st11 h => .inl ?_
  obtain ⟨rfl, c, fr, us, vsz, vva, vdi, rfl, C11, FF⟩ := h
  refine ⟨rfl, ?_⟩
  refine XP.seg 23 2 (law12 ok hb C11.ls) fun o m' st12 h => .inl ?_
  obtain ⟨rfl, X12, zn, hh, mi, zb, rfl, ZR12⟩ := h
  refine ⟨rfl, ?_⟩
  have C12 := C11.ext X12
  refine XP.seg 25 2 (law13 ok hb C12.ls ZR12) fun o m' st13 h => .inl ?_
  obtain ⟨rfl, X13, mn, last, o0, rfl, Z⟩ := h
  refine ⟨rfl, ?_⟩
  have C13 := C12.ext X13
  refine XP.seg 27 1 (law14 ok hb) fun o m' st14 h => .inl ?_
  obtain ⟨rfl, rfl, rfl⟩ := h
  refine ⟨rfl, ?_⟩
  generalize o0.map (neg? mn) = off at *
  refine XP.seg 28 3 (law15 ok hb C13.ls Z.len) fun o m' st15 h => .inl ?_
  obtain ⟨rfl, X15, mk, mb, rfl, MKf⟩ := h
  refine ⟨rfl, ?_⟩
  have C15 := C13.ext X15
  have hLx : Asc (lastX w last) ∧ (lastX w last).length ≤ 7 := by
    unfold lastX
    split
    · exact ⟨Z.asc.append (by unfold Asc; decide), by rw [List.length_append]; have := Z.len; show _ + 1 ≤ 7; omega⟩
    · exact ⟨Z.asc, by have := Z.len; omega⟩
  have hcf : Asc (c :: fr) := fun x hx => by
    rcases List.mem_cons.mp hx with rfl | hx
    · rcases FF.hc with h | h <;> omega
    · exact digs_asc FF.dig x hx
  generalize hW : ckT mm.toNat cb5 c0'.toNat c1'.toNat c2'.toNat (c :: fr) = W
  have hWa : Asc W := by rw [← hW]; exact ckT_asc hcf
  have hWl : W.length ≤ 30 := by
    rw [← hW]
    refine Nat.le_trans ckT_le ?_
    have := FF.len
    rw [List.length_cons]; omega
  refine XP.seg 31 2 (law16 ok hb C15 T.len hWl hLx.2) fun o m' st16 h => .inl ?_
  obtain ⟨rfl, X16, rfl⟩ := h
  refine ⟨rfl, ?_⟩
  have C16 := C15.ext X16
  have TT := told (sep := sepOf s) (b := cb5) (w := w) (mm := mm) D T MKf.dig MKf.good MKf.bad rfl hmm.1 F9 FF Z hW.symm
  have hFa : Asc (fullT (cutL w zn mm) (t ++ [mk] ++ W ++ lastX w last)) ∧ (fullT (cutL w zn mm) (t ++ [mk] ++ W ++ lastX w last)).length ≤ 100 := by
    have h1 : Asc (t ++ [mk] ++ W ++ lastX w last) := ((T.asc.append (fun x hx => by rw [List.mem_singleton.mp hx]; exact MKf.asc)).append hWa).append hLx.1
    have h2 : (t ++ [mk] ++ W ++ lastX w last).length ≤ 60 := by
      have := T.len
      simp only [List.length_append, List.length_cons, List.length_nil]
      omega
    unfold fullT
    split
    · exact ⟨fun x hx => h1 x (List.dropLast_subset _ hx), by rw [List.length_dropLast]; omega⟩
    · exact ⟨h1, by omega⟩
  refine XP.seg 33 4 (law17 ok hC hb (c0 := c0') (c1 := c1') (c2 := c2') C16 hFa.1 hFa.2 hWa hWl hLx.1 hLx.2 TT.1 ?_) fun o m' st17 h => ?_
  · intro hrf
    obtain ⟨tz, e1, e2, e3, e4, e5⟩ := TT.2 hrf
    have hbs : cb = false ∧ zb = false := by
      cases cb
      · cases zb
        · exact ⟨rfl, rfl⟩
        · simp at hrf
      · simp at hrf
    obtain ⟨rfl, rfl⟩ := hbs
    have tt := time_only (z := last) (off := off) (zone := zn) F9 FF Z
    rw [nat_of q1, nat_of q2, nat_of q3] at e1 e2
    rw [nat_of q1, nat_of q2, nat_of q3] at tt
    refine ⟨tz, e1, e2, fun hz => ?_, e4, tt.1, tt.2⟩
    rw [e5]
    obtain ⟨x, y2, t2, e6, _, _⟩ := Z.cut hz
    unfold zread at e3
    rwa [if_neg (by rw [e6]; exact List.cons_ne_nil _ _)] at e3
  rcases h with rfl | ⟨rfl, hrf, j, v, tz, Y, M, Dd, rfl, C17, hj, hv, g2, g3, g4, g5, g6⟩
  · exact .inr ⟨(fun e => nomatch e), rfl⟩
  refine .inl ⟨rfl, ?_⟩
  refine XP.seg 37 1 (law18 ok hb C17 hLx.1 hLx.2 hj hv g3 g4) fun o m' st18 h => .inl ?_
  obtain ⟨rfl, X18, rfl⟩ := h
  refine ⟨rfl, ?_⟩
  exact law19 ok hC hb (C17.ext X18) hWa hWl hLx.1 hLx.2 g2 g4 g5 g6
end
end
end Mine
section
set_option Elab.async false
set_option maxRecDepth 100000
set_option maxHeartbeats 4000000
set_option linter.unusedVariables false
namespace Mine
open PySem PySem.Spec PySem.Calls PyProof.Rows PySem.W
theorem lookup_memA {α : Type} : ∀ {l : List (Addr × α)} {x : Addr} {y : α}, (l.map (·.1)).Nodup → (x, y) ∈ l → l.lookup x = some y
  | [], _, _, _, h => nomatch h
  | (a, b) :: r, x, y, hn, h => by
    simp only [List.map_cons, List.nodup_cons] at hn
    rw [List.lookup_cons]
    rcases List.mem_cons.mp h with e | h
    · rw [Prod.mk.injEq] at e
      rw [e.1, e.2, beq_self_eq_true]
    · have hx : x ∈ r.map (·.1) := List.mem_map.mpr ⟨_, h, rfl⟩
      have : (x == a) = false := by
        rw [beq_eq_false_iff_ne]
        intro e
        exact hn.1 (e ▸ hx)
      rw [this]
      exact lookup_memA hn.2 h
def upB : Nat → List Nat → Bool
  | _, [] => true
  | a, b :: r => Nat.blt a b && upB b r
theorem upB_lt : ∀ {a : Nat} {l : List Nat}, upB a l = true → (∀ b ∈ l, a < b) ∧ l.Nodup
  | _, [], _ => ⟨(fun _ h => nomatch h), List.nodup_nil⟩
  | a, b :: r, h => by
    unfold upB at h
    rw [Bool.and_eq_true] at h
    obtain ⟨h1, h2⟩ := h
    have h1 : a < b := Nat.blt_eq.mp h1
    obtain ⟨i1, i2⟩ := upB_lt h2
    refine ⟨fun c hc => ?_, List.nodup_cons.mpr ⟨fun hb => Nat.lt_irrefl _ (i1 b hb), i2⟩⟩
    rcases List.mem_cons.mp hc with rfl | hc
    · exact h1
    · exact Nat.lt_trans h1 (i1 c hc)
theorem keys1 (P : Params) : ∃ r, (hd.heap_39 P).map (·.1) = 0 :: r ∧ upB 0 r = true := ⟨((hd.heap_39 P).map (·.1)).tail, by kernel_rfl, by kernel_rfl⟩
theorem K1_in {P : Params} {h : Heap} (X : (hd.heap_39 P).In h) : (K1 P).In h := fun a o e => by
  have hn : ((hd.heap_39 P).map (·.1)).Nodup := by
    obtain ⟨r, e1, e2⟩ := keys1 P
    obtain ⟨u1, u2⟩ := upB_lt e2
    rw [e1]
    exact List.nodup_cons.mpr ⟨fun hb => Nat.lt_irrefl _ (u1 0 hb), u2⟩
  exact X a o (lookup_memA hn (List.mem_filter.mp (mem_of_lookupK e)).1)
theorem K1_tabs (P : Params) : noTabs (K1 P) = true := by
  unfold noTabs K1
  rw [List.all_eq_true]
  intro p hp
  exact (List.mem_filter.mp hp).2
theorem tabs1 {P : Params} {h : Heap} (X : (hd.heap_39 P).In h) : TabsAt [(610, 606)] h := fun q hq => by
  simp at hq
  subst hq
  exact ⟨⟨_, _, _, _, _, _, _, _, _, X 610 _ rfl, rfl, rfl, rfl, rfl, rfl, rfl, rfl, rfl, by decide⟩, X 606 _ rfl⟩
end Mine
end
section
set_option Elab.async false
set_option maxRecDepth 100000
set_option maxHeartbeats 4000000
set_option linter.unusedVariables false
namespace Mine
open PySem PySem.Spec PySem.Calls PyProof.Rows PySem.W
/-- the world at the law's own call -/
def qOf (w : World) (h : Heap) (p : Program) (loose : List Str) (mean : ExcName → Option Value) (mg mb : Str → Option Value) : Pk :=
  ⟨w, ghostOf h [(610, 606)], topProg, loose ++ (recsOf p).map (·.name) ++ (litsOf p).map (·.1) ++ (clssOf p loose).map (·.name), mean, mg, mb⟩
theorem okOf {w : World} {h : Heap} {p : Program} {loose : List Str} {mean : ExcName → Option Value} {mg mb : Str → Option Value} (KX : (hd.heap_39 w.params).In h) (T : Top p loose mean mg mb h) : (C1 (qOf w h p loose mean mg mb)).Ok :=
  ⟨ghost_K (tabs1 KX) (K1_in KX) (K1_tabs _), ghost_top (tabs1 KX) T⟩
theorem codeOf {w : World} {h : Heap} {p : Program} {loose : List Str} {mean : ExcName → Option Value} {mg mb : Str → Option Value} (KX : (hd.heap_39 w.params).In h) : CodeHd (C1 (qOf w h p loose mean mg mb)).base 610 (C1 (qOf w h p loose mean mg mb)).out :=
  (ghost_code (tabs1 KX)).1
theorem intsAt {xs : List Value} {is : List Int} (h : IntsAre xs is) : xs.length = is.length ∧ ∀ k : Nat, k < is.length → ∃ t, xs[k]? = some (.int (is.getD k 0) t) := by
  induction h with
  | nil => exact ⟨rfl, fun k h => by simp at h⟩
  | cons _ _ _ ih =>
    refine ⟨by simp [ih.1], fun k hk => ?_⟩
    cases k with
    | zero => exact ⟨_, rfl⟩
    | succ k => simpa using ih.2 k (by simpa using hk)
/-- the law's frame -/
def lawFx (env : Env) : Fx := { env := env, names := lawN, frames := [env], below := [], cells := [("script", 0), ("clock", 1), ("many", 2)], hd := none, rs := true, lv := 310, out := 606 }
theorem lawSh {q : Pk} {name : Str} {scope : Scope} {L fa : Addr} (hsc : scopeOk (C1 q).K scope lawN lawG.globs = true) (hk : (scope.names.lookup ("script" : Str) == some NameKind.cell && scope.names.lookup ("clock" : Str) == some NameKind.cell && scope.names.lookup ("many" : Str) == some NameKind.cell) = true) (hcd : kdsCode (C1 q).K (.ref 651) = true) :
    Sh (C1 q) lawG (lawFx (envOfC name scope L fa (.ref 651))) := by
  simp only [scopeOk, Bool.and_eq_true, beq_iff_eq, Bool.not_eq_true', decide_eq_true_eq] at hsc
  obtain ⟨⟨⟨⟨⟨s1, s2⟩, s3⟩, s4⟩, s5⟩, s6⟩ := hsc
  simp only [Bool.and_eq_true, beq_iff_eq] at hk
  obtain ⟨⟨k1, k2⟩, k3⟩ := hk
  have cel : ∀ x n, (x, n) ∈ lawG.cells → (x, n) ∈ (lawFx (envOfC name scope L fa (.ref 651))).cells ∧ (lawFx (envOfC name scope L fa (.ref 651))).env.kindOf x = some .cell := fun x n h => by
    refine ⟨h, ?_⟩
    rcases List.mem_cons.mp h with e | h
    · cases e; exact k1
    rcases List.mem_cons.mp h with e | h
    · cases e; exact k2
    rcases List.mem_cons.mp h with e | h
    · cases e; exact k3
    · cases h
  refine ⟨⟨⟨s1, rfl, rfl, s4, s5, ?_⟩, rfl, fun p hp => ?_⟩, ⟨(by show 310 + 20 * 20 ≤ 900; decide), rfl, fun _ => rfl⟩, fun _ => ⟨⟨_, rfl⟩, rfl⟩, fun x n h => ⟨(cel x n h).1, .inl (cel x n h).2⟩, fun _ => hcd, fun _ x n h => (cel x n h).2⟩
  · show (scope.kind == .class || (scope.kind == .module && _)) = false
    rw [s1]; rfl
  · have := List.all_eq_true.mp s6 p hp
    simp only [globOk, Bool.and_eq_true, beq_iff_eq, Bool.not_eq_true', Bool.or_eq_true, beq_eq_false_iff_ne] at this
    exact ⟨this.1.1, this.1.2.imp id fun q => ⟨q.1.1, q.1.2, q.2⟩, beq_eq_false_iff_ne.mpr this.2⟩
theorem lawEnd {w : World} {s₁ : Shared} {p : Program} {loose : List Str} {mean : ExcName → Option Value} {mg mb : Str → Option Value} (KX : (hd.heap_39 w.params).In s₁.heap) (T : Top p loose mean mg mb s₁.heap)
    {body : List Stmt} {name : Str} {scope : Scope} {fa : Addr} {h₁ : Heap} {tk₁ : Nat} {m₀ : Str → Option Value} {a : Addr} {items : List Value} {is : List Int} {w0 w1 w2 : Obj} {Q : Flow → Shared → Prop} {E : Value → Shared → Prop}
    (hb : ∀ q : Pk, q.w = w → LawB q body) (hsc : scopeOk (K1 w.params) scope lawN lawG.globs = true) (hk : (scope.names.lookup ("script" : Str) == some NameKind.cell && scope.names.lookup ("clock" : Str) == some NameKind.cell && scope.names.lookup ("many" : Str) == some NameKind.cell) = true) (hcd : kdsCode (K1 w.params) (.ref 651) = true)
    (hcl : ∀ n, cellsFrom n scope.names [] = [(("clock" : Str), n + 1 + 1), (("many" : Str), n + 1), (("script" : Str), n)])
    (hg : s₁.gens = #[]) (F : Fr s₁.heap s₁.heap.objs.size h₁ m₀) (N0 : News s₁.heap s₁.heap.objs.size h₁ [(s₁.heap.objs.size + 1 + 1 + 1, w2), (s₁.heap.objs.size + 1 + 1, w1), (s₁.heap.objs.size + 1, w0)])
    (d2 : w2.data = .cell none) (d1 : w1.data = .cell none) (d0 : w0.data = .cell (some (.ref a))) (hL : s₁.heap.IsList a items.toArray) (hI : IntsAre items is) (hl : is.length ≤ 63)
    (hQ : ∀ s' : Shared, (∀ b o, (ghostOf s₁.heap [(610, 606)]).get? b = some o → s'.heap.get? b = some o) → (∃ ps, s'.heap.get? 606 = some (tabObj ps)) → s'.os = s₁.os → AllBare s'.gens → Q (.ret (.bool true)) s') :
    wpAny (model (OpenLaw.row PySem.Challenge.rw_ev0022_01).prog w) (callerA.deeper (envOfC name scope s₁.heap.objs.size fa (.ref 651))) (execs body (envOfC name scope s₁.heap.objs.size fa (.ref 651))) Q E { heap := h₁, gens := s₁.gens, drawn := s₁.drawn, toks := tk₁, os := s₁.os } := by
  have hT := tabs1 KX
  have ok := okOf KX T
  have hC := codeOf (p := p) (loose := loose) (mean := mean) (mg := mg) (mb := mb) KX
  have F' := ghost_fr hT F
  have i := intsAt hI
  have S : ScriptAt (qOf w s₁.heap p loose mean mg mb) a items.toArray is := ⟨ghost_list hT hL, by rw [List.size_toArray]; exact i.1, fun k hk => by rw [List.getElem?_toArray]; exact i.2 k hk, hl⟩
  obtain ⟨o, m', st', hX, rfl⟩ := lawAll ok hC (hb _ rfl) S
  have n0 := N0 _ (.tail _ (.tail _ (.head _)))
  have n1 := N0 _ (.tail _ (.head _))
  have n2 := N0 _ (.head _)
  have hlt : 606 < s₁.heap.objs.size := Heap.lt_size (hT _ (.head _)).2
  generalize hLL : s₁.heap.objs.size = L at *
  refine hX (lawFx (envOfC name scope L fa (.ref 651))) (lawSh hsc hk hcd) [(L + 1, L + 1), (L + 1 + 1 + 1, L + 1 + 1 + 1), (L + 1 + 1, L + 1 + 1)] (callerA.deeper (envOfC name scope L fa (.ref 651))) _ Q E ⟨rfl, rfl, (by show 1 + claimMargin + 1 ≤ 310; decide), (by show 4 + 3 ≤ 310; decide)⟩ ?_ ?_
  · have hs1 : scope.kind = .function := by
      simp only [scopeOk, Bool.and_eq_true, beq_iff_eq, Bool.not_eq_true', decide_eq_true_eq] at hsc
      exact hsc.1.1.1.1.1
    have hLn : s₁.heap.get? L = none := Heap.get?_none_of_le (by omega)
    refine ⟨F'.keep, ?_, ⟨m₀, F.ns, ?_⟩, ?_, rfl, ?_, ?_, ?_, ?_, ?_, ?_, ?_, ?_, ?_, ?_⟩
    · obtain ⟨o, es, ep, e1, e2, _⟩ := F.ns
      refine ⟨?_, ⟨L, o, rfl, ghost_fresh hLn, e1, fun vs e => by rw [e2] at e; cases e⟩, trivial⟩
      show scope.kind ≠ .module
      rw [hs1]; decide
    · intro i x v e1 e2 e3
      have := List.mem_of_getElem? e2
      rw [List.mem_replicate] at this
      rw [this.2] at e3; cases e3
    · intro x n h
      have ec : (lawFx (envOfC name scope L fa (.ref 651))).env.cells = [(("clock" : Str), L + 1 + 1 + 1), (("many" : Str), L + 1 + 1), (("script" : Str), L + 1)] := hcl (L + 1)
      rw [ec]
      rcases List.mem_cons.mp h with e | h
      · cases e; exact ⟨_, rfl, rfl⟩
      rcases List.mem_cons.mp h with e | h
      · cases e; exact ⟨_, rfl, rfl⟩
      rcases List.mem_cons.mp h with e | h
      · cases e; exact ⟨_, rfl, rfl⟩
      · cases h
    · intro i o p e1 e2
      rcases i with _ | _ | _ | i
      · cases e1; cases e2; exact ⟨_, ⟨w0, n0.1, d0⟩, rfl, rfl⟩
      · cases e1; cases e2; exact ⟨_, ⟨w2, n2.1, d2⟩, trivial, rfl⟩
      · cases e1; cases e2; exact ⟨_, ⟨w1, n1.1, d1⟩, trivial, rfl⟩
      · simp at e1
    · intro i j p q e1 e2 hij
      rcases i with _ | _ | _ | i <;> rcases j with _ | _ | _ | j <;> first | (simp at e1; done) | (simp at e2; done) | (exact absurd rfl hij) | (cases e1; cases e2; refine ⟨?_, ?_, ?_, ?_⟩ <;> (intro e; have e' := congrArg (fun (x : Nat) => x - L) e; dsimp only at e'; omega))
    · intro b hb
      have : b = L + 1 ∨ b = L + 1 + 1 + 1 ∨ b = L + 1 + 1 := by
        obtain ⟨p, hp, e⟩ := mem_ads.mp hb
        simp at hp
        rcases hp with rfl | rfl | rfl <;> rcases e with e | e <;> first | exact .inl e | exact .inr (.inl e) | exact .inr (.inr e)
      rcases this with rfl | rfl | rfl
      · exact ⟨ghost_fresh n0.2.2, n0.2.1, List.not_mem_nil⟩
      · exact ⟨ghost_fresh n2.2.2, n2.2.1, List.not_mem_nil⟩
      · exact ⟨ghost_fresh n1.2.2, n1.2.1, List.not_mem_nil⟩
    · exact ⟨ghost_fresh hLn, List.not_mem_nil⟩
    · exact F'.above
    · exact fun b hb => absurd hb List.not_mem_nil
    · intro e he b hb'
      rw [List.mem_singleton.mp he] at hb'
      cases hb'
      exact .inl rfl
    · exact AllBare.of_eq hg
    · exact fun _ e he => nomatch he
    · refine ⟨rfl, fun h => ?_, ?_, List.not_mem_nil, hideAll_none _ (.head _), ⟨#[], F.keep _ _ (hT _ (.head _)).2, trivial⟩⟩
      · obtain ⟨p, hp, e⟩ := mem_ads.mp h
        have e : (606 : Nat) = p.1 ∨ (606 : Nat) = p.2 := e
        simp at hp
        rcases hp with rfl | rfl | rfl <;> simp at e <;> omega
      · show (606 : Nat) ≠ L
        omega
  · intro ρ' s' x p N I' rx
    cases x with
    | ret y =>
      obtain rfl : y = .bool true := rx
      obtain ⟨ps, e1, _⟩ := I'.out.tab
      exact hQ s' I'.stays ⟨ps, e1⟩ N.os I'.bare
    | next => exact rx.elim
    | brk => exact rx.elim
    | cont => exact rx.elim
end Mine
end
section
set_option Elab.async false
set_option maxRecDepth 100000
set_option maxHeartbeats 4000000
set_option linter.unusedVariables false
namespace Mine
open PySem PySem.Spec PySem.Calls PyProof.Rows PySem.W
theorem goodEnd {w : World} {s₁ s' : Shared} {cl : Str → Option Addr} {mean : ExcName → Option Value} {args : List WData} (KX : (hd.heap_39 w.params).In s₁.heap) (hp : PySem.Challenge.rw_ev0022_01.row.claim.post args (.bool true) args = true)
    (h1 : ∀ b o, (ghostOf s₁.heap [(610, 606)]).get? b = some o → s'.heap.get? b = some o) (h2 : ∃ ps, s'.heap.get? 606 = some (tabObj ps)) (h3 : s'.os = s₁.os) (h4 : AllBare s'.gens) :
    GoodWG PySem.Challenge.rw_ev0022_01.row.claim cl mean args s₁ (.ok (.ret (.bool true))) s' := by
  have hT := tabs1 KX
  have t1 := hT _ (.head _)
  have keep : ∀ b o, s₁.heap.get? b = some o → b ≠ 606 → s'.heap.get? b = some o := fun b o e n => h1 b o (ghost_ne e fun m => n (by
    rcases List.mem_cons.mp m with e | m
    · exact e
    · cases m))
  refine ⟨.inl ⟨.bool true, .bool true, [], rfl, fun _ => rfl, .bool true, hp, fun _ => ⟨List.nodup_nil, fun a ha => nomatch ha⟩⟩, ⟨fun b o e => ?_, fun b o e => ?_⟩, h3, h4⟩
  · by_cases hb : b = 606
    · subst hb
      obtain ⟨ps, h2⟩ := h2
      rw [t1.2] at e
      cases e
      exact .inr (.inl ⟨(t1.1.tab t1.2).isCodeTable, rfl, #[], ps, rfl, by rw [Array.empty_append]; exact h2⟩)
    · exact .inl (keep b o e hb)
  · by_cases hb : b = 606
    · subst hb
      obtain ⟨ps, h2⟩ := h2
      exact ⟨_, h2⟩
    · exact ⟨o, keep b o e hb⟩
end Mine
end
open PySem PySem.Spec PySem.Calls PyProof.Rows PySem.W
set_option maxRecDepth 100000 in
set_option maxHeartbeats 8000000 in
theorem PySem.Challenge.cw_ev0022_01_holds : PySem.Challenge.rw_ev0022_01.Holds := by
  refine Mine.hd ?_
  intro w s₀ s₁ mg mb G Y fa o pm cd doc dV kV ho hd hcd hD hmg hg args vals as hpre hlay hrd hwl hlo
  have KX := kIn_of Y
  have X := (Ground.X G).1
  have V := (Ground.X G).2
  refine Ground.open G ?_
  intro T B D TE TW
  try (refine guard_noD D (by decide +kernel) ?_; clear D)
  have he9 : cd = .ref 651 := law_code (x := "law") (c := 651) (P := 649) KX (Top.g T) (by kernel_rfl) hmg ho hd
  subst he9
  clear hmg
  wrow_args hpre hlay hrd hwl hlo
  first | refine callC_kw (enter_call ?_) | refine enter_call ?_
  w_top on
  w_call any ho hd hcd hD T F
  clear hd
  refine Mine.lawEnd KX T (fun q hq => ?_) ?_ ?_ ?_ (fun n => ?_) hg F (by assumption) (by assumption) (by assumption) (by assumption) (by assumption) (by assumption) ?_ fun s' h1 h2 h3 h4 => ?_
  · exact ⟨_, _, _, _, rfl, rfl⟩
  · rfl
  · rfl
  · rfl
  · rfl
  · omega
  · exact Mine.goodEnd KX (postW_of (by wrow_shape) (by wtm_val) (by str_meet; first | done | w_fin)) h1 h2 h3 h4
