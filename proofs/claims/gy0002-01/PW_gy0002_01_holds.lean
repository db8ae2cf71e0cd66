import PyProof.Rows.All
import Wide.All
import OpenK.AllK
import Wide.FinOn
import PySem.Challenge.RW_gy0002_01
set_option Elab.async false

section
open PySem PySem.W PyProof.Rows
set_option maxRecDepth 100000
namespace Gy

/-- a dict as its entries lie -/
def Raw (h : Heap) (d : Addr) (es : Array DictEntry) (ep : Nat) : Prop :=
  ∃ o, h.get? d = some o ∧ o.ExactDict ∧ o.data = .dict es ep

theorem Raw.typeIs {s : Shared} {d : Addr} {es : Array DictEntry} {ep : Nat} (x : Raw s.heap d es ep) : s.TypeIs (.ref d) "dict" :=
  let ⟨o, ho, hc, _⟩ := x; ⟨o, ho, hc.1⟩
theorem Raw.at {h h' : Heap} {d : Addr} {es : Array DictEntry} {ep : Nat} (x : Raw h d es ep) (k : ∀ o, h.get? d = some o → h'.get? d = some o) : Raw h' d es ep :=
  let ⟨o, ho, r⟩ := x; ⟨o, k o ho, r⟩
theorem Raw.lt {h : Heap} {d : Addr} {es : Array DictEntry} {ep : Nat} (x : Raw h d es ep) : d < h.objs.size := let ⟨_, ho, _⟩ := x; Heap.lt_size ho
theorem Raw.noDict {h : Heap} {d : Addr} {es : Array DictEntry} {ep : Nat} (x : Raw h d es ep) : ∀ b, Value.ref d = .ref b → ∃ ob, h.get? b = some ob ∧ ob.dict = none :=
  fun b e => by injection e with e; subst e; exact let ⟨o, ho, hc, _⟩ := x; ⟨o, ho, hc.2.1⟩

section
variable {prog : Program} {w : World} {A : Around} {E : Value → Shared → Prop} {s : Shared}

/-! ### a dict's keys -/
theorem pyIter_raw {d : Addr} {es : Array DictEntry} {ep : Nat} {Q : Value → Shared → Prop} (hd : (d == sysModules) = false) (hm : Raw s.heap d es ep)
    (hQ : Q (.ref s.heap.objs.size) { s with heap := s.heap.push { cls := .type "dict_keyiterator", data := .fields #[.ref d, .int 0 0, .int es.size 0, .int ep 0] } }) :
    wpAny (model prog w) A (pyIter (.ref d)) Q E s := by
  have hT := hm.typeIs
  obtain ⟨o, ho, hc, hdat⟩ := hm
  refine wpAny_pyIter_slot hT F.slot_dict_iter (wpAny_call_entry F.slot_dict_iter hT F.entry_dict_iter ?_ (F.args_dict_iter_1 _))
  unfold Builtin.«dict.__iter__»
  refine wpAny_bind ?_
  unfold Builtin.Dict.dictSlotNone
  refine wpAny_bind (wpAny_notOrdered_dict hT ?_)
  show wpAny _ _ (pure (Value.ref d)) _ _ s
  refine wpAny_pure ?_
  show wpAny _ _ (Builtin.Dict.showsAll d >>= _) _ _ s
  unfold Builtin.Dict.showsAll
  rw [if_neg (by rw [hd]; exact Bool.false_ne_true)]
  refine wpAny_bind (wpAny_pure ?_)
  refine wpAny_bind (wpAny_dictEntries ho hdat ?_)
  refine wpAny_bind (wpAny_dictEpoch ho hdat ?_)
  refine wpAny_bind (wpAny_newObj_type (wpAny_pure ⟨_, rfl, "dict_keyiterator", _, ⟨_, Heap.get?_push_size _ rfl, rfl⟩, F.slot_dict_keyiterator_next.lookup, ?_⟩))
  simpa [rawInt] using hQ

theorem pyNext_raw_item {it d : Addr} {i ep : Nat} {es : Array DictEntry} {e : DictEntry} {Q : Option Value → Shared → Prop} (hit : s.heap.IsKeyIter it d i es.size ep)
    (hm : Raw s.heap d es ep) (hx : es[i]? = some e)
    (hQ : ∀ h', h'.IsKeyIter it d (i + 1) es.size ep → Heap.SameBut it s.heap h' → Q (some e.key) { s with heap := h' }) :
    wpAny (model prog w) A (pyNext (.ref it)) Q E s := by
  obtain ⟨o, ho, hc, hd⟩ := id hit
  obtain ⟨od, hod, hcd, hdd⟩ := id hm
  unfold pyNext
  refine wpAny_bind (wpAny_attempt (wpAny_callSpecial?_slot (name := Str.ofString "__next__") hit.typeIs F.slot_dict_keyiterator_next
    (wpAny_call_entry F.slot_dict_keyiterator_next hit.typeIs F.entry_dict_keyiterator_next ?_ (F.args_dict_keyiterator_next_1 _))))
  refine wpAny_bind (wpAny_pure ?_)
  refine wpAny_bind ?_
  refine wpAny_bind ?_
  first | refine wpAny_bind (wpAny_typeNameOfWhole_keyiter hit.typeIs (wpAny_pure ?_)) | refine wpAny_bind (wpAny_typeNameOf_keyiter hit.typeIs (wpAny_pure ?_))
  refine wpAny_bind (wpAny_fieldsOf ho hd ?_)
  have hown : Builtin.Dict_items.ownsTuple "dict_keyiterator" = false := by decide
  simp only [hown, Bool.false_eq_true, if_false]
  show wpAny _ _ (if (Value.ref d == Value.none) = true then _ else _) _ _ s
  rw [if_neg (show ¬ ((Value.ref d == Value.none) = true) from Bool.false_ne_true)]
  refine wpAny_bind (wpAny_pure ?_)
  refine wpAny_bind (wpAny_dictEntries hod hdd ?_)
  rw [if_neg (by simp)]
  refine wpAny_bind (wpAny_pure ?_)
  refine wpAny_bind (wpAny_dictEpoch hod hdd ?_)
  rw [if_neg (by simp)]
  refine wpAny_pure ?_
  obtain ⟨hlt', rfl⟩ := Array.getElem?_eq_some_iff.mp hx
  simp only [show ¬ ((i : Int) < 0) from by omega, if_false, Int.toNat_natCast, Array.getElem?_eq_getElem hlt']
  refine wpAny_bind ?_
  first | refine wpAny_bind (wpAny_typeNameOfWhole_keyiter hit.typeIs (wpAny_pure ?_)) | refine wpAny_bind (wpAny_typeNameOf_keyiter hit.typeIs (wpAny_pure ?_))
  refine wpAny_bind (wpAny_isOneOf_keyiter hit.typeIs ?_)
  show wpAny _ _ (setField (.ref it) 1 (rawInt ((i : Int) + 1)) >>= _) _ _ s
  refine wpAny_bind (wpAny_setField ho hd (by simp) ?_)
  have hit' : (s.heap.update it (Obj.mapFields (·.setIfInBounds 1 (rawInt ((i : Int) + 1))))).IsKeyIter it d (i + 1) es.size ep :=
    ⟨_, Heap.get?_update_self _ ho (Obj.isFreed_of_fields (Obj.data_mapFields hd _)), (Obj.cls_mapFields ..).trans hc, by rw [Obj.data_mapFields hd]; simp [rawInt]⟩
  refine wpAny_bind (wpAny_holding ?_)
  refine wpAny_bind (wpAny_isOneOf_keyiter (s := { s with heap := s.heap.update it (Obj.mapFields (·.setIfInBounds 1 (rawInt ((i : Int) + 1)))) }) hit'.typeIs ?_)
  show wpAny _ _ (pure es[i].key) _ _ _
  exact wpAny_pure (wpAny_pure ⟨_, rfl, wpAny_pure (hQ _ hit' (Heap.SameBut.update ..))⟩)

theorem pyNext_raw_end {it d : Addr} {i ep : Nat} {es : Array DictEntry} {Q : Option Value → Shared → Prop} (hh : A.handled = none) (hit : s.heap.IsKeyIter it d i es.size ep)
    (hm : Raw s.heap d es ep) (hx : es[i]? = none)
    (hQ : ∀ h', Heap.ExtBut it s.heap h' → Q none { s with heap := h' }) : wpAny (model prog w) A (pyNext (.ref it)) Q E s := by
  obtain ⟨o, ho, hc, hd⟩ := id hit
  obtain ⟨od, hod, hcd, hdd⟩ := id hm
  unfold pyNext
  refine wpAny_bind (wpAny_attempt (wpAny_callSpecial?_slot (name := Str.ofString "__next__") hit.typeIs F.slot_dict_keyiterator_next
    (wpAny_call_entry F.slot_dict_keyiterator_next hit.typeIs F.entry_dict_keyiterator_next ?_ (F.args_dict_keyiterator_next_1 _))))
  refine wpAny_bind (wpAny_pure ?_)
  refine wpAny_bind ?_
  refine wpAny_bind ?_
  first | refine wpAny_bind (wpAny_typeNameOfWhole_keyiter hit.typeIs (wpAny_pure ?_)) | refine wpAny_bind (wpAny_typeNameOf_keyiter hit.typeIs (wpAny_pure ?_))
  refine wpAny_bind (wpAny_fieldsOf ho hd ?_)
  have hown : Builtin.Dict_items.ownsTuple "dict_keyiterator" = false := by decide
  simp only [hown, Bool.false_eq_true, if_false]
  show wpAny _ _ (if (Value.ref d == Value.none) = true then _ else _) _ _ s
  rw [if_neg (show ¬ ((Value.ref d == Value.none) = true) from Bool.false_ne_true)]
  refine wpAny_bind (wpAny_pure ?_)
  refine wpAny_bind (wpAny_dictEntries hod hdd ?_)
  rw [if_neg (by simp)]
  refine wpAny_bind (wpAny_pure ?_)
  refine wpAny_bind (wpAny_dictEpoch hod hdd ?_)
  rw [if_neg (by simp)]
  refine wpAny_pure ?_
  have hge : es.size ≤ i := by simpa using hx
  simp only [show ¬ ((i : Int) < 0) from by omega, if_false, Int.toNat_natCast, Array.getElem?_eq_none hge]
  refine wpAny_bind ?_
  first | refine wpAny_bind (wpAny_typeNameOfWhole_keyiter hit.typeIs (wpAny_pure ?_)) | refine wpAny_bind (wpAny_typeNameOf_keyiter hit.typeIs (wpAny_pure ?_))
  show wpAny _ _ (setField (.ref it) 0 .none >>= _) _ _ s
  refine wpAny_bind (wpAny_setField ho hd (by simp) ?_)
  show wpAny _ _ (newExc (.type "StopIteration") [] >>= _) _ _ _
  refine wpAny_bind ?_
  simp only [newExc, newTuple]
  refine wpAny_bind (wpAny_newObj_type ?_ (by size_fits))
  refine wpAny_bind (m := firstArgMember _ _) (wpAny_of_eq (a := Value.none) (by first | rfl | (simp only [firstArgMember]; rfl)) ?_)
  refine wpAny_newObj_type ?_ (by size_fits)
  simp only [raiseNew]
  refine wpAny_bind (wpAny_handled ?_)
  rw [show A.in1.handled = none from hh]
  refine wpAny_bind (wpAny_pure (wpAny_throw ?_))
  refine wpAny_bind (wpAny_isInstance (T := "StopIteration") (b := true) ⟨_, Heap.get?_push_size _ rfl, rfl⟩ isSubtype_stop ?_)
  exact wpAny_pure (hQ _ (((Heap.SameBut.update ..).extBut.push _).push _))
end

section
variable {prog : Program} {w : World} {A : Around} {E : Value → Shared → Prop} {s : Shared}

/-! ### a dict's values -/
theorem meets_values_raw (prog : Program) (w : World) (d : Addr) (hd : (d == sysModules) = false) :
    MeetsIn prog w (Builtin.«dict.values» ⟨[.ref d], []⟩) (fun _ R s => (∃ es ep, Raw s.heap d es ep) ∧
      R (.ok (.ret (.ref s.heap.objs.size))) { s with heap := s.heap.push { cls := .type "dict_values", data := .fields #[.ref d] } }) :=
  .of_wp fun A R s ⟨⟨es, ep, hm⟩, h⟩ => by
    refine wpAny_bind ?_
    unfold Builtin.Dict.noArgs
    refine wpAny_bind (wpAny_notOrdered_dict hm.typeIs ?_)
    show wpAny _ _ (pure d) _ _ s
    refine wpAny_pure ?_
    show wpAny _ _ (Builtin.Dict.showsAll d >>= _) _ _ s
    unfold Builtin.Dict.showsAll
    rw [if_neg (by rw [hd]; exact Bool.false_ne_true)]
    refine wpAny_bind (wpAny_pure ?_)
    exact wpAny_bind (wpAny_newObj_type (wpAny_pure ⟨_, rfl, h⟩))

theorem pyIter_values_raw {v d : Addr} {es : Array DictEntry} {ep : Nat} {Q : Value → Shared → Prop} (hv : s.heap.IsValuesView v d) (hm : Raw s.heap d es ep)
    (hQ : Q (.ref s.heap.objs.size) { s with heap := s.heap.push { cls := .type "dict_valueiterator", data := .fields #[.ref d, .int 0 0, .int es.size 0, .int ep 0] } }) :
    wpAny (model prog w) A (pyIter (.ref v)) Q E s := by
  obtain ⟨ov, hov, hcv, hdv⟩ := id hv
  obtain ⟨o, ho, hc, hdat⟩ := id hm
  refine wpAny_pyIter_slot hv.typeIs F.slot_dict_values_iter (wpAny_call_entry F.slot_dict_values_iter hv.typeIs F.entry_dict_values_iter ?_ (F.args_dict_values_iter_1 _))
  unfold Builtin.«dict_values.__iter__»
  refine wpAny_bind (wpAny_pure ?_)
  refine wpAny_bind ?_
  unfold Builtin.Dict_items.dictOf
  refine wpAny_bind (wpAny_field hov hdv (x := .ref d) rfl (wpAny_pure ?_))
  refine wpAny_bind ?_
  unfold Builtin.Dict_items.newIterator
  refine wpAny_bind (wpAny_dictEntries ho hdat ?_)
  refine wpAny_bind (wpAny_dictEpoch ho hdat ?_)
  have hown : Builtin.Dict_items.ownsTuple "dict_valueiterator" = false := by decide
  simp only [hown, Bool.false_eq_true, if_false]
  refine wpAny_newObj_type (wpAny_pure ⟨_, rfl, "dict_valueiterator", _, ⟨_, Heap.get?_push_size _ rfl, rfl⟩, F.slot_dict_valueiterator_next.lookup, ?_⟩)
  simpa [rawInt] using hQ

theorem pyNext_values_raw {it d : Addr} {i ep : Nat} {es : Array DictEntry} {e : DictEntry} {Q : Option Value → Shared → Prop} (hit : s.heap.IsValIter it d i es.size ep)
    (hm : Raw s.heap d es ep) (hx : es[i]? = some e)
    (hQ : ∀ h', h'.IsValIter it d (i + 1) es.size ep → Heap.SameBut it s.heap h' → Q (some e.val) { s with heap := h' }) :
    wpAny (model prog w) A (pyNext (.ref it)) Q E s := by
  obtain ⟨o, ho, hc, hd⟩ := id hit
  obtain ⟨od, hod, hcd, hdd⟩ := id hm
  unfold pyNext
  refine wpAny_bind (wpAny_attempt (wpAny_callSpecial?_slot (name := Str.ofString "__next__") hit.typeIs F.slot_dict_valueiterator_next
    (wpAny_call_entry F.slot_dict_valueiterator_next hit.typeIs F.entry_dict_valueiterator_next ?_ (F.args_dict_valueiterator_next_1 _))))
  refine wpAny_bind (wpAny_pure ?_)
  refine wpAny_bind ?_
  refine wpAny_bind ?_
  first | refine wpAny_bind (wpAny_typeNameOfWhole_valiter hit.typeIs (wpAny_pure ?_)) | refine wpAny_bind (wpAny_typeNameOf_valiter hit.typeIs (wpAny_pure ?_))
  refine wpAny_bind (wpAny_fieldsOf ho hd ?_)
  have hown : Builtin.Dict_items.ownsTuple "dict_valueiterator" = false := by decide
  simp only [hown, Bool.false_eq_true, if_false]
  show wpAny _ _ (if (Value.ref d == Value.none) = true then _ else _) _ _ s
  rw [if_neg (show ¬ ((Value.ref d == Value.none) = true) from Bool.false_ne_true)]
  refine wpAny_bind (wpAny_pure ?_)
  refine wpAny_bind (wpAny_dictEntries hod hdd ?_)
  rw [if_neg (by simp)]
  refine wpAny_bind (wpAny_pure ?_)
  refine wpAny_bind (wpAny_dictEpoch hod hdd ?_)
  rw [if_neg (by simp)]
  refine wpAny_pure ?_
  obtain ⟨hlt', rfl⟩ := Array.getElem?_eq_some_iff.mp hx
  simp only [show ¬ ((i : Int) < 0) from by omega, if_false, Int.toNat_natCast, Array.getElem?_eq_getElem hlt']
  refine wpAny_bind ?_
  first | refine wpAny_bind (wpAny_typeNameOfWhole_valiter hit.typeIs (wpAny_pure ?_)) | refine wpAny_bind (wpAny_typeNameOf_valiter hit.typeIs (wpAny_pure ?_))
  refine wpAny_bind (wpAny_isOneOf_valiter hit.typeIs ?_)
  show wpAny _ _ (setField (.ref it) 1 (rawInt ((i : Int) + 1)) >>= _) _ _ s
  refine wpAny_bind (wpAny_setField ho hd (by simp) ?_)
  have hit' : (s.heap.update it (Obj.mapFields (·.setIfInBounds 1 (rawInt ((i : Int) + 1))))).IsValIter it d (i + 1) es.size ep :=
    ⟨_, Heap.get?_update_self _ ho (Obj.isFreed_of_fields (Obj.data_mapFields hd _)), (Obj.cls_mapFields ..).trans hc, by rw [Obj.data_mapFields hd]; simp [rawInt]⟩
  refine wpAny_bind (wpAny_holding ?_)
  refine wpAny_bind (wpAny_isOneOf_valiter (s := { s with heap := s.heap.update it (Obj.mapFields (·.setIfInBounds 1 (rawInt ((i : Int) + 1)))) }) hit'.typeIs ?_)
  refine wpAny_bind (wpAny_isOneOf_valiter (s := { s with heap := s.heap.update it (Obj.mapFields (·.setIfInBounds 1 (rawInt ((i : Int) + 1)))) }) hit'.typeIs ?_)
  show wpAny _ _ (pure es[i].val) _ _ _
  exact wpAny_pure (wpAny_pure ⟨_, rfl, wpAny_pure (hQ _ hit' (Heap.SameBut.update ..))⟩)

theorem pyNext_values_raw_end {it d : Addr} {i ep : Nat} {es : Array DictEntry} {Q : Option Value → Shared → Prop} (hh : A.handled = none) (hit : s.heap.IsValIter it d i es.size ep)
    (hm : Raw s.heap d es ep) (hx : es[i]? = none)
    (hQ : ∀ h', Heap.ExtBut it s.heap h' → Q none { s with heap := h' }) : wpAny (model prog w) A (pyNext (.ref it)) Q E s := by
  obtain ⟨o, ho, hc, hd⟩ := id hit
  obtain ⟨od, hod, hcd, hdd⟩ := id hm
  unfold pyNext
  refine wpAny_bind (wpAny_attempt (wpAny_callSpecial?_slot (name := Str.ofString "__next__") hit.typeIs F.slot_dict_valueiterator_next
    (wpAny_call_entry F.slot_dict_valueiterator_next hit.typeIs F.entry_dict_valueiterator_next ?_ (F.args_dict_valueiterator_next_1 _))))
  refine wpAny_bind (wpAny_pure ?_)
  refine wpAny_bind ?_
  refine wpAny_bind ?_
  first | refine wpAny_bind (wpAny_typeNameOfWhole_valiter hit.typeIs (wpAny_pure ?_)) | refine wpAny_bind (wpAny_typeNameOf_valiter hit.typeIs (wpAny_pure ?_))
  refine wpAny_bind (wpAny_fieldsOf ho hd ?_)
  have hown : Builtin.Dict_items.ownsTuple "dict_valueiterator" = false := by decide
  simp only [hown, Bool.false_eq_true, if_false]
  show wpAny _ _ (if (Value.ref d == Value.none) = true then _ else _) _ _ s
  rw [if_neg (show ¬ ((Value.ref d == Value.none) = true) from Bool.false_ne_true)]
  refine wpAny_bind (wpAny_pure ?_)
  refine wpAny_bind (wpAny_dictEntries hod hdd ?_)
  rw [if_neg (by simp)]
  refine wpAny_bind (wpAny_pure ?_)
  refine wpAny_bind (wpAny_dictEpoch hod hdd ?_)
  rw [if_neg (by simp)]
  refine wpAny_pure ?_
  have hge : es.size ≤ i := by simpa using hx
  simp only [show ¬ ((i : Int) < 0) from by omega, if_false, Int.toNat_natCast, Array.getElem?_eq_none hge]
  refine wpAny_bind ?_
  first | refine wpAny_bind (wpAny_typeNameOfWhole_valiter hit.typeIs (wpAny_pure ?_)) | refine wpAny_bind (wpAny_typeNameOf_valiter hit.typeIs (wpAny_pure ?_))
  show wpAny _ _ (setField (.ref it) 0 .none >>= _) _ _ s
  refine wpAny_bind (wpAny_setField ho hd (by simp) ?_)
  show wpAny _ _ (newExc (.type "StopIteration") [] >>= _) _ _ _
  refine wpAny_bind ?_
  simp only [newExc, newTuple]
  refine wpAny_bind (wpAny_newObj_type ?_ (by size_fits))
  refine wpAny_bind (m := firstArgMember _ _) (wpAny_of_eq (a := Value.none) (by first | rfl | (simp only [firstArgMember]; rfl)) ?_)
  refine wpAny_newObj_type ?_ (by size_fits)
  simp only [raiseNew]
  refine wpAny_bind (wpAny_handled ?_)
  rw [show A.in1.handled = none from hh]
  refine wpAny_bind (wpAny_pure (wpAny_throw ?_))
  refine wpAny_bind (wpAny_isInstance (T := "StopIteration") (b := true) ⟨_, Heap.get?_push_size _ rfl, rfl⟩ isSubtype_stop ?_)
  exact wpAny_pure (hQ _ (((Heap.SameBut.update ..).extBut.push _).push _))

/-! ### a dict's items -/
theorem meets_items_raw (prog : Program) (w : World) (d : Addr) (hd : (d == sysModules) = false) :
    MeetsIn prog w (Builtin.«dict.items» ⟨[.ref d], []⟩) (fun _ R s => (∃ es ep, Raw s.heap d es ep) ∧
      R (.ok (.ret (.ref s.heap.objs.size))) { s with heap := s.heap.push { cls := .type "dict_items", data := .fields #[.ref d] } }) :=
  .of_wp fun A R s ⟨⟨es, ep, hm⟩, h⟩ => by
    unfold Builtin.«dict.items»
    refine wpAny_bind ?_
    unfold Builtin.Dict.noArgs
    refine wpAny_bind (wpAny_notOrdered_dict hm.typeIs ?_)
    show wpAny _ _ (pure d) _ _ s
    refine wpAny_pure ?_
    show wpAny _ _ (Builtin.Dict.showsAll d >>= _) _ _ s
    unfold Builtin.Dict.showsAll
    rw [if_neg (by rw [hd]; exact Bool.false_ne_true)]
    refine wpAny_bind (wpAny_pure ?_)
    exact wpAny_bind (wpAny_newObj_type (wpAny_pure ⟨_, rfl, h⟩))

theorem pyIter_items_raw {v d : Addr} {es : Array DictEntry} {ep : Nat} {Q : Value → Shared → Prop} (hv : s.heap.IsItemsView v d) (hm : Raw s.heap d es ep)
    (hQ : Q (.ref s.heap.objs.size) { s with heap := s.heap.push { cls := .type "dict_itemiterator", data := .fields #[.none, .bool false, .ref d, .int 0 0, .int es.size 0, .int ep 0, .none, .none] } }) :
    wpAny (model prog w) A (pyIter (.ref v)) Q E s := by
  obtain ⟨ov, hov, hcv, hdv⟩ := id hv
  obtain ⟨o, ho, hc, hdat⟩ := id hm
  refine wpAny_pyIter_slot hv.typeIs F.slot_dict_items_iter (wpAny_call_entry F.slot_dict_items_iter hv.typeIs F.entry_dict_items_iter ?_ (F.args_dict_items_iter_1 _))
  unfold Builtin.«dict_items.__iter__»
  refine wpAny_bind (wpAny_pure ?_)
  refine wpAny_bind ?_
  unfold Builtin.Dict_items.dictOf
  refine wpAny_bind (wpAny_field hov hdv (x := .ref d) rfl (wpAny_pure ?_))
  refine wpAny_bind ?_
  unfold Builtin.Dict_items.newIterator
  refine wpAny_bind (wpAny_dictEntries ho hdat ?_)
  refine wpAny_bind (wpAny_dictEpoch ho hdat ?_)
  have hown : Builtin.Dict_items.ownsTuple "dict_itemiterator" = true := by decide
  simp only [hown, if_true]
  refine wpAny_newObj_type (wpAny_pure ⟨_, rfl, "dict_itemiterator", _, ⟨_, Heap.get?_push_size _ rfl, rfl⟩, F.slot_dict_itemiterator_next.lookup, ?_⟩)
    (by simp only [sizeOk, Builtin.Dict_items.ownedTupleFields, List.size_toArray, List.length_append, List.length_cons, List.length_nil, sizeLine_eq]; omega)
  simpa [rawInt, Builtin.Dict_items.ownedTupleFields] using hQ

theorem pyNext_items_raw {it d : Addr} {i ep : Nat} {es : Array DictEntry} {e : DictEntry} {ok ov : Value} {Q : Option Value → Shared → Prop} (hit : IsItemIter s.heap it d i es.size ep ok ov)
    (hm : Raw s.heap d es ep) (hx : es[i]? = some e)
    (hQ : ∀ h', IsItemIterOut h' it d (i + 1) es.size ep e.key e.val s.heap.objs.size →
      h'.get? s.heap.objs.size = some { cls := .type "tuple", data := .seq #[e.key, e.val] } → h'.objs.size = s.heap.objs.size + 1 →
      (∀ b o, b ≠ it → s.heap.get? b = some o → h'.get? b = some o) → Q (some (.ref s.heap.objs.size)) { s with heap := h' }) :
    wpAny (model prog w) A (pyNext (.ref it)) Q E s := by
  obtain ⟨hp, g, dr, tk, os⟩ := s
  obtain ⟨od, hod, hcd, hdd⟩ := id hm
  have hT : Shared.TypeIs ⟨hp, g, dr, tk, os⟩ (.ref it) "dict_itemiterator" := ⟨_, hit, rfl⟩
  unfold pyNext
  refine wpAny_bind (wpAny_attempt (wpAny_callSpecial?_slot (name := Str.ofString "__next__") hT F.slot_dict_itemiterator_next
    (wpAny_call_entry F.slot_dict_itemiterator_next hT F.entry_dict_itemiterator_next ?_ (F.args_dict_itemiterator_next_1 _))))
  refine wpAny_bind (wpAny_pure ?_)
  refine wpAny_bind ?_
  refine wpAny_bind ?_
  first | refine wpAny_bind (wpAny_typeNameOfWhole_itemiter hT (wpAny_pure ?_)) | refine wpAny_bind (wpAny_typeNameOf_itemiter hT (wpAny_pure ?_))
  refine wpAny_bind (wpAny_fieldsOf hit rfl ?_)
  have hown : Builtin.Dict_items.ownsTuple "dict_itemiterator" = true := by decide
  simp only [hown, if_true]
  show wpAny _ _ (if (Value.ref d == Value.none) = true then _ else _) _ _ _
  rw [if_neg (show ¬ ((Value.ref d == Value.none) = true) from Bool.false_ne_true)]
  refine wpAny_bind (wpAny_pure ?_)
  refine wpAny_bind (wpAny_dictEntries hod hdd ?_)
  rw [if_neg (by simp)]
  refine wpAny_bind (wpAny_pure ?_)
  refine wpAny_bind (wpAny_dictEpoch hod hdd ?_)
  rw [if_neg (by simp)]
  refine wpAny_pure ?_
  obtain ⟨hlt', rfl⟩ := Array.getElem?_eq_some_iff.mp hx
  simp only [show ¬ ((i : Int) < 0) from by omega, if_false, Int.toNat_natCast, Array.getElem?_eq_getElem hlt']
  refine wpAny_bind ?_
  first | refine wpAny_bind (wpAny_typeNameOfWhole_itemiter hT (wpAny_pure ?_)) | refine wpAny_bind (wpAny_typeNameOf_itemiter hT (wpAny_pure ?_))
  refine wpAny_bind (wpAny_isOneOf_itemiter hT ?_)
  show wpAny _ _ (setField (.ref it) 3 (rawInt ((i : Int) + 1)) >>= _) _ _ ⟨hp, g, dr, tk, os⟩
  refine wpAny_bind (wpAny_setField_rec hit (by simp) fun h₁ he₁ hs₁ => ?_)
  replace hs₁ : Heap.SameBut it hp h₁ := hs₁
  replace he₁ : IsItemIter h₁ it d (i + 1) es.size ep ok ov := by
    have e : ((i + 1 : Nat) : Int) = (i : Int) + 1 := by omega
    unfold IsItemIter; rw [e]; simpa [rawInt] using he₁
  have hT₁ : Shared.TypeIs ⟨h₁, g, dr, tk, os⟩ (.ref it) "dict_itemiterator" := ⟨_, he₁, rfl⟩
  refine wpAny_bind (wpAny_holding ?_)
  refine wpAny_bind (wpAny_isOneOf_itemiter hT₁ ?_)
  refine wpAny_bind (wpAny_isOneOf_itemiter hT₁ ?_)
  show wpAny _ _ (Builtin.Dict_items.pairFromOwner (.ref it) 6 es[i].key es[i].val) _ _ ⟨h₁, g, dr, tk, os⟩
  unfold Builtin.Dict_items.pairFromOwner
  refine wpAny_bind (wpAny_newTuple ?_)
  have he₂ : IsItemIter (h₁.push { cls := .type "tuple", data := .seq #[es[i].key, es[i].val] }) it d (i + 1) es.size ep ok ov := Heap.get?_push_of_some _ he₁
  generalize hh₂ : h₁.push { cls := .type "tuple", data := .seq #[es[i].key, es[i].val] } = h₂ at he₂
  have hz₁ : h₁.objs.size = hp.objs.size := hs₁.1
  have hil : it < hp.objs.size := Heap.lt_size hit
  have ht₂ : h₂.get? hp.objs.size = some { cls := .type "tuple", data := .seq #[es[i].key, es[i].val] } := by rw [← hh₂, ← hz₁]; exact Heap.get?_push_size _ rfl
  have hz₂ : h₂.objs.size = hp.objs.size + 1 := by rw [← hh₂, Heap.size_push, hz₁]
  have hk₂ : ∀ b o, b ≠ it → hp.get? b = some o → h₂.get? b = some o := fun b o hb e => by rw [← hh₂]; exact Heap.get?_push_of_some _ (hs₁.extBut b o hb e)
  show wpAny _ _ (Builtin.Dict_items.ownedTupleIsFree (.ref it) >>= _) _ _ ⟨h₂, g, dr, tk, os⟩
  rw [hz₁]
  clear hh₂ he₁ hs₁ hT₁ hz₁ h₁
  refine wpAny_bind ?_
  unfold Builtin.Dict_items.ownedTupleIsFree
  refine wpAny_bind (wpAny_field he₂ rfl (x := .none) rfl (wpAny_pure ?_))
  simp only [if_true]
  refine wpAny_bind (wpAny_field he₂ rfl (x := ok) rfl ?_)
  refine wpAny_bind (wpAny_field he₂ rfl (x := ov) rfl ?_)
  refine wpAny_bind (wpAny_setField_rec he₂ (by simp) fun h₃ he₃ hs₃ => ?_)
  replace hs₃ : Heap.SameBut it h₂ h₃ := hs₃
  replace he₃ : IsItemIter h₃ it d (i + 1) es.size ep es[i].key ov := he₃
  refine wpAny_bind (wpAny_setField_rec he₃ (by simp) fun h₄ he₄ hs₄ => ?_)
  replace hs₄ : Heap.SameBut it h₃ h₄ := hs₄
  replace he₄ : IsItemIter h₄ it d (i + 1) es.size ep es[i].key es[i].val := he₄
  refine wpAny_bind (wpAny_setField_rec he₄ (by simp) fun h₅ he₅ hs₅ => ?_)
  replace hs₅ : Heap.SameBut it h₄ h₅ := hs₅
  replace he₅ : IsItemIterOut h₅ it d (i + 1) es.size ep es[i].key es[i].val hp.objs.size := he₅
  refine wpAny_bind (wpAny_setField_rec he₅ (by simp) fun h₆ he₆ hs₆ => ?_)
  replace hs₆ : Heap.SameBut it h₅ h₆ := hs₆
  replace he₆ : IsItemIterOut h₆ it d (i + 1) es.size ep es[i].key es[i].val hp.objs.size := he₆
  refine wpAny_bind (wpAny_letGo (wpAny_pure (wpAny_pure ⟨_, rfl, wpAny_pure (hQ h₆ he₆ ?_ ?_ ?_)⟩)))
  · exact hs₆.extBut _ _ (Nat.ne_of_gt hil) (hs₅.extBut _ _ (Nat.ne_of_gt hil) (hs₄.extBut _ _ (Nat.ne_of_gt hil) (hs₃.extBut _ _ (Nat.ne_of_gt hil) ht₂)))
  · show h₆.objs.size = hp.objs.size + 1
    rw [hs₆.1, hs₅.1, hs₄.1, hs₃.1, hz₂]
  · exact fun b o hb e => hs₆.extBut b o hb (hs₅.extBut b o hb (hs₄.extBut b o hb (hs₃.extBut b o hb (hk₂ b o hb e))))

theorem pyNext_items_raw_end {it d : Addr} {i ep : Nat} {es : Array DictEntry} {ok ov : Value} {Q : Option Value → Shared → Prop} (hh : A.handled = none) (hit : IsItemIter s.heap it d i es.size ep ok ov)
    (hm : Raw s.heap d es ep) (hx : es[i]? = none)
    (hQ : ∀ h', Heap.ExtBut it s.heap h' → Q none { s with heap := h' }) : wpAny (model prog w) A (pyNext (.ref it)) Q E s := by
  obtain ⟨od, hod, hcd, hdd⟩ := id hm
  have hT : s.TypeIs (.ref it) "dict_itemiterator" := ⟨_, hit, rfl⟩
  unfold pyNext
  refine wpAny_bind (wpAny_attempt (wpAny_callSpecial?_slot (name := Str.ofString "__next__") hT F.slot_dict_itemiterator_next
    (wpAny_call_entry F.slot_dict_itemiterator_next hT F.entry_dict_itemiterator_next ?_ (F.args_dict_itemiterator_next_1 _))))
  refine wpAny_bind (wpAny_pure ?_)
  refine wpAny_bind ?_
  refine wpAny_bind ?_
  first | refine wpAny_bind (wpAny_typeNameOfWhole_itemiter hT (wpAny_pure ?_)) | refine wpAny_bind (wpAny_typeNameOf_itemiter hT (wpAny_pure ?_))
  refine wpAny_bind (wpAny_fieldsOf hit rfl ?_)
  have hown : Builtin.Dict_items.ownsTuple "dict_itemiterator" = true := by decide
  simp only [hown, if_true]
  show wpAny _ _ (if (Value.ref d == Value.none) = true then _ else _) _ _ s
  rw [if_neg (show ¬ ((Value.ref d == Value.none) = true) from Bool.false_ne_true)]
  refine wpAny_bind (wpAny_pure ?_)
  refine wpAny_bind (wpAny_dictEntries hod hdd ?_)
  rw [if_neg (by simp)]
  refine wpAny_bind (wpAny_pure ?_)
  refine wpAny_bind (wpAny_dictEpoch hod hdd ?_)
  rw [if_neg (by simp)]
  refine wpAny_pure ?_
  have hge : es.size ≤ i := by simpa using hx
  simp only [show ¬ ((i : Int) < 0) from by omega, if_false, Int.toNat_natCast, Array.getElem?_eq_none hge]
  refine wpAny_bind ?_
  first | refine wpAny_bind (wpAny_typeNameOfWhole_itemiter hT (wpAny_pure ?_)) | refine wpAny_bind (wpAny_typeNameOf_itemiter hT (wpAny_pure ?_))
  show wpAny _ _ (setField (.ref it) 2 .none >>= _) _ _ s
  refine wpAny_bind (wpAny_setField hit rfl (by simp) ?_)
  show wpAny _ _ (newExc (.type "StopIteration") [] >>= _) _ _ _
  refine wpAny_bind ?_
  simp only [newExc, newTuple]
  refine wpAny_bind (wpAny_newObj_type ?_ (by size_fits))
  refine wpAny_bind (m := firstArgMember _ _) (wpAny_of_eq (a := Value.none) (by first | rfl | (simp only [firstArgMember]; rfl)) ?_)
  refine wpAny_newObj_type ?_ (by size_fits)
  simp only [raiseNew]
  refine wpAny_bind (wpAny_handled ?_)
  rw [show A.in1.handled = none from hh]
  refine wpAny_bind (wpAny_pure (wpAny_throw ?_))
  refine wpAny_bind (wpAny_isInstance (T := "StopIteration") (b := true) ⟨_, Heap.get?_push_size _ rfl, rfl⟩ isSubtype_stop ?_)
  exact wpAny_pure (hQ _ (((Heap.SameBut.update ..).extBut.push _).push _))
end
end Gy
end

section
open PySem PySem.W PyProof.Rows
set_option maxRecDepth 100000
namespace Gy

/-! ### keys that are strs or ints, mixed -/
def mixIs : Str ⊕ Int → Value → Bool
  | .inl x, v => Value.isStrOf x v
  | .inr i, v => Value.isInt i v

theorem eqBool_str_int {prog : Program} {w : World} {A : Around} {E : Value → Shared → Prop} {s : Shared} {a : Str} {t : Tok} {b : Int} {u : Tok} {Q : Bool → Shared → Prop} (h : Q false s) :
    wpAny (model prog w) A (eqBool (.str a t) (.int b u)) Q E s := by
  unfold eqBool
  refine wpAny_holding ?_
  rw [if_neg (by simp)]
  exact wpAny_bind (EqMixed.eq_str_int (wpAny_truthy_bool h))
theorem eqBool_int_str {prog : Program} {w : World} {A : Around} {E : Value → Shared → Prop} {s : Shared} {a : Int} {t : Tok} {b : Str} {u : Tok} {Q : Bool → Shared → Prop} (h : Q false s) :
    wpAny (model prog w) A (eqBool (.int a t) (.str b u)) Q E s := by
  unfold eqBool
  refine wpAny_holding ?_
  rw [if_neg (by simp)]
  exact wpAny_bind (EqMixed.eq_int_str (wpAny_truthy_bool h))

def mixKind (prog : Program) (w : World) : KeyKind prog w (Str ⊕ Int) where
  is := mixIs
  hash := fun k => match k with | .inl x => hashStr w x | .inr i => hashInt i
  inj := fun v a b ha hb => by
    cases a <;> cases b <;> simp only [mixIs] at ha hb
    · rw [Value.isStrOf_inj v _ _ ha hb]
    · obtain ⟨t, rfl⟩ := Value.isStrOf_shape ha; simp [Value.isInt] at hb
    · obtain ⟨t, rfl⟩ := Value.isStrOf_shape hb; simp [Value.isInt] at ha
    · rw [Value.isInt_inj v _ _ ha hb]
  byValue := fun k v h => by
    cases k <;> simp only [mixIs] at h
    · obtain ⟨t, rfl⟩ := Value.isStrOf_shape h; rfl
    · obtain ⟨t, rfl⟩ := Value.isInt_shape h; rfl
  pyHash := fun {A E s k v Q} hv h => by
    cases k <;> simp only [mixIs] at hv
    · obtain ⟨t, rfl⟩ := Value.isStrOf_shape hv; exact wpAny_pyHash_str h
    · obtain ⟨t, rfl⟩ := Value.isInt_shape hv; exact wpAny_pyHash_int h
  eqBool := fun {A E s a b u v Q} hu hv h => by
    cases a <;> cases b <;> simp only [mixIs] at hu hv
    · obtain ⟨t, rfl⟩ := Value.isStrOf_shape hu
      obtain ⟨t', rfl⟩ := Value.isStrOf_shape hv
      exact wpAny_eqBool_str (by simpa using h)
    · obtain ⟨t, rfl⟩ := Value.isStrOf_shape hu
      obtain ⟨t', rfl⟩ := Value.isInt_shape hv
      exact eqBool_str_int (by simpa using h)
    · obtain ⟨t, rfl⟩ := Value.isInt_shape hu
      obtain ⟨t', rfl⟩ := Value.isStrOf_shape hv
      exact eqBool_int_str (by simpa using h)
    · obtain ⟨t, rfl⟩ := Value.isInt_shape hu
      obtain ⟨t', rfl⟩ := Value.isInt_shape hv
      exact wpAny_eqBool_int (by have h2 := h; simp only [Sum.inr.injEq] at h2; exact h2)
  «strs» := fun k x t v h => by
    cases k with
    | inl y =>
      simp only [mixIs] at h ⊢
      obtain ⟨u, hu⟩ := Value.isStrOf_shape h
      injection hu with hx
      subst hx
      cases v <;> rfl
    | inr i => simp [mixIs, Value.isInt] at h

/-- the keys of the law's dicts of calls: («beat» | «by», x, «once») -/
abbrev MK := List (Str ⊕ Int)
abbrev mk (prog : Program) (w : World) : HeapKind prog w MK := tupleKind (mixKind prog w)
/-- the keys of beat: (one, other) -/
abbrev pk (prog : Program) (w : World) : HeapKind prog w (List Int) := tupleKind (intKind prog w)

section
variable {prog : Program} {w : World} {K : Type} [DecidableEq K] {knd : HeapKind prog w K}

theorem raw_of {h : Heap} {d : Addr} {xs : List (K × Addr × Value)} (x : h.DictOfH knd d xs) : ∃ ep, Raw h d (xs.map (entryOfKey knd)).toArray ep := by
  obtain ⟨o, es, ep, ho, hc, hd, he, _⟩ := x
  refine ⟨ep, o, ho, hc, ?_⟩
  rw [hd, ← he]
theorem dict_keeps {h h' : Heap} {knd : KeyKind prog w K} {d : Addr} {xs : List (List K × Addr × Value)} (x : h.DictOfH (tupleKind knd) d xs) (k : ∀ b o, h.get? b = some o → h'.get? b = some o) :
    h'.DictOfH (tupleKind knd) d xs := by
  obtain ⟨o, es, ep, ho, hc, hd, he, hi, hn⟩ := x
  exact ⟨o, es, ep, k _ _ ho, hc, hd, he, fun y hy => let ⟨o', its, n, e, r⟩ := hi y hy; ⟨o', its, n, k _ _ e, r⟩, hn⟩
/-- a dict of tuple keys stands where all but a few addresses are kept that are neither it nor its keys -/
theorem dict_but {h h' : Heap} {knd : KeyKind prog w K} {d : Addr} {xs : List (List K × Addr × Value)} (x : h.DictOfH (tupleKind knd) d xs) (X : Addr → Prop)
    (hX : ∀ a, X a → ∀ o, h.get? a = some o → a ≠ d ∧ o.cls ≠ .type "tuple")
    (k : ∀ b o, ¬ X b → h.get? b = some o → h'.get? b = some o) : h'.DictOfH (tupleKind knd) d xs := by
  obtain ⟨o, es, ep, ho, hc, hd, he, hi, hn⟩ := x
  refine ⟨o, es, ep, k _ _ (fun hx => (hX d hx o ho).1 rfl) ho, hc, hd, he, fun y hy => ?_, hn⟩
  obtain ⟨o', its, n, e, hc', r⟩ := hi y hy
  exact ⟨o', its, n, k _ _ (fun hx => (hX _ hx o' e).2 hc') e, hc', r⟩
end
end Gy
end

section
open PySem PySem.W PyProof.Rows
set_option maxRecDepth 100000
namespace Gy

/-- s' is s with another heap, in which all objects outside W stand as they stood -/
def Ch (W : Addr → Prop) (s s' : Shared) : Prop := ∃ h' tk, s' = { s with heap := h', toks := tk } ∧ ∀ b o, ¬ W b → s.heap.get? b = some o → h'.get? b = some o
theorem Ch.refl (W : Addr → Prop) (s : Shared) : Ch W s s := ⟨s.heap, s.toks, rfl, fun _ _ _ e => e⟩
theorem Ch.trans {W : Addr → Prop} {a b c : Shared} (x : Ch W a b) (y : Ch W b c) : Ch W a c := by
  obtain ⟨h, t, rfl, k⟩ := x
  obtain ⟨h', t', rfl, k'⟩ := y
  exact ⟨h', t', rfl, fun b o hb e => k' b o hb (k b o hb e)⟩
theorem Ch.mono {W V : Addr → Prop} {a b : Shared} (x : Ch W a b) (i : ∀ y, W y → V y) : Ch V a b := by
  obtain ⟨h, t, rfl, k⟩ := x
  exact ⟨h, t, rfl, fun b o hb e => k b o (fun w => hb (i b w)) e⟩
/-- what is changed only where nothing stood -/
theorem Ch.shrink {W V : Addr → Prop} {a b : Shared} (x : Ch W a b) (i : ∀ y o, a.heap.get? y = some o → W y → V y) : Ch V a b := by
  obtain ⟨h, t, rfl, k⟩ := x
  exact ⟨h, t, rfl, fun b o hb e => k b o (fun w => hb (i b o e w)) e⟩
theorem Ch.get {W : Addr → Prop} {a b : Shared} (x : Ch W a b) {y : Addr} {o : Obj} (hy : ¬ W y) (e : a.heap.get? y = some o) : b.heap.get? y = some o := by
  obtain ⟨h, t, rfl, k⟩ := x; exact k y o hy e
theorem Ch.heap {W : Addr → Prop} {s : Shared} {h' : Heap} {tk : Nat} (k : ∀ b o, ¬ W b → s.heap.get? b = some o → h'.get? b = some o) : Ch W s { s with heap := h', toks := tk } := ⟨h', tk, rfl, k⟩

/-- an iterator at «it», n items to come, as the loops of this text see it -/
structure Itr (prog : Program) (w : World) (A : Around) (it : Addr) (fp : Addr → Prop) (target : Expr) (n : Nat) (P : Nat → Value → Heap → Prop) (St : Nat → Heap → Prop) : Prop where
  self : fp it
  frame : ∀ i h h', St i h → (∀ b o, fp b → h.get? b = some o → h'.get? b = some o) → St i h'
  item : ∀ i (s : Shared) (Q : Value → Shared → Prop) (E : Value → Shared → Prop), i < n → St i s.heap →
    (∀ v s', P i v s'.heap → St (i + 1) s'.heap → Ch (· = it) s s' → Q v s') →
    wpAny (model prog w) A (pyNext (.ref it)) (fun r s₁ => ∃ v, r = some v ∧ wpAny (model prog w) A (letOwnedTupleGo target (.ref it) v) (fun _ s₂ => Q v s₂) E s₁) E s
  done : ∀ (s : Shared) (Q : Shared → Prop) (E : Value → Shared → Prop), St n s.heap → (∀ s', Ch (· = it) s s' → Q s') →
    wpAny (model prog w) A (pyNext (.ref it)) (fun r s₁ => r = none ∧ Q s₁) E s

section
variable {prog : Program} {w : World} {A : Around} {it : Addr} {fp : Addr → Prop} {target : Expr} {n : Nat} {P : Nat → Value → Heap → Prop} {St : Nat → Heap → Prop}

theorem forLoop_core {R : Result → Shared → Prop} {body : List Stmt} {env : Env} {s : Shared} (I : Itr prog w A it fp target n P St) (W : Addr → Prop) (J : Nat → Heap → Prop)
    (hfp : ∀ b, fp b → ¬ W b) (hst : St 0 s.heap) (h0 : J 0 s.heap)
    (jst : ∀ i h h', J i h → St i h → (∀ b o, b ≠ it → h.get? b = some o → h'.get? b = some o) → J i h')
    (step : ∀ i v s₁ (E : Value → Shared → Prop), i < n → P i v s₁.heap → J i s₁.heap → Ch (fun b => W b ∨ b = it) s s₁ →
      wpAny (model prog w) A (assign target env v) (fun _ s₂ => wpAny (model prog w) A (execs body env) (fun f s₃ => f = .next ∧ Ch W s₁ s₃ ∧ J (i + 1) s₃.heap) E s₂) E s₁)
    (fin : ∀ s', J n s'.heap → Ch (fun b => W b ∨ b = it) s s' → R (.ok .next) s') :
    codeAny (model prog w) A (.forLoop target (.ref it) body [] env) R s := by
  refine codeAny_forLoop_any (fun k s' => ∃ i, i ≤ n ∧ k = n + 1 - i ∧ St i s'.heap ∧ J i s'.heap ∧ Ch (fun b => W b ∨ b = it) s s') ?_ (n + 1) ⟨0, Nat.zero_le _, rfl, hst, h0, Ch.refl ..⟩
  rintro k s' ⟨i, hi, rfl, hst', hJ, hc⟩
  by_cases hlt : i < n
  · refine wpAny_mono (I.item i s' (fun v s₂ => wpAny (model prog w) A (assign target env v) (fun _ s₂ => wpAny (model prog w) A (execs body env) (fun f s₃ => match f with
            | .next | .cont => ∃ m, m < n + 1 - i ∧ ∃ i, i ≤ n ∧ m = n + 1 - i ∧ St i s₃.heap ∧ J i s₃.heap ∧ Ch (fun b => W b ∨ b = it) s s₃
            | .brk => R (.ok .next) s₃
            | .ret v => R (.ok (.ret v)) s₃) (notedBy (model prog w) A env fun e s' => R (.error e) s') s₂) (notedBy (model prog w) A env fun e s' => R (.error e) s') s₂)
      (notedBy (model prog w) A env fun e s' => R (.error e) s') hlt hst' fun v s₂ hP hst₂ hc₂ => ?_) (fun r s₁ h₁ => ?_) fun _ _ x => x
    · have hJ₂ : J i s₂.heap := jst _ _ _ hJ hst' fun b o hb e => hc₂.get hb e
      refine wpAny_mono (step i v s₂ _ hlt hP hJ₂ (hc.trans (hc₂.mono fun _ => .inr))) (fun _ s₃ h₃ => wpAny_mono h₃ (fun f s₄ h₄ => ?_) fun _ _ x => x) fun _ _ x => x
      obtain ⟨rfl, hc₄, hJ₄⟩ := h₄
      exact ⟨n + 1 - (i + 1), by omega, i + 1, hlt, rfl, I.frame _ _ _ hst₂ fun b o hb e => hc₄.get (hfp b hb) e, hJ₄, (hc.trans (hc₂.mono fun _ => .inr)).trans (hc₄.mono fun _ => .inl)⟩
    · obtain ⟨v, rfl, h₁⟩ := h₁
      exact h₁
  · obtain rfl : i = n := Nat.le_antisymm hi (Nat.not_lt.mp hlt)
    refine wpAny_mono (I.done s' (fun s₂ => R (.ok .next) s₂) _ hst' fun s₂ hc₂ => ?_) (fun r s₁ h₁ => ?_) fun _ _ x => x
    · exact fin s₂ (jst _ _ _ hJ hst' fun b o hb e => hc₂.get hb e) (hc.trans (hc₂.mono fun _ => .inr))
    · obtain ⟨rfl, h₁⟩ := h₁
      exact wpAny_execs_nil h₁

theorem compTurn_leaf {elt target iter : Expr} {ifs : List Expr} {gens : List Comprehension} {scope : Scope} {pos : Pos} {d : Nat} {itv acc : Value} {env : Env} (hg : gens[d]? = some ⟨target, iter, ifs, 0⟩) (hn : gens[d + 1]? = none) :
    compTurn (.ListComp elt gens scope pos) d itv acc env = (do
      standAt iter.pos
      match ← pyNext itv with
      | none => pure (.done .next)
      | some v =>
        letOwnedTupleGo target itv v
        assign target env v
        let mut ok := true
        for c in ifs do
          if ok then ok ← isTrue c env (eval c env)
        if ok then
          (do let _ ← call (.builtin "list.append") [acc, ← eval elt env])
        again (.compLoop (.ListComp elt gens scope pos) d itv acc env)) := by
  unfold compTurn
  simp only [hg, hn]
  rfl

theorem compTurn_inner {elt target iter t' i' : Expr} {ifs ifs' : List Expr} {gens : List Comprehension} {scope : Scope} {pos : Pos} {d : Nat} {itv acc : Value} {env : Env} (hg : gens[d]? = some ⟨target, iter, ifs, 0⟩) (hn : gens[d + 1]? = some ⟨t', i', ifs', 0⟩)
    (hs : ∀ x, foldedSetIterable i' env x = pure x) :
    compTurn (.ListComp elt gens scope pos) d itv acc env = (do
      standAt iter.pos
      match ← pyNext itv with
      | none => pure (.done .next)
      | some v =>
        letOwnedTupleGo target itv v
        assign target env v
        let mut ok := true
        for c in ifs do
          if ok then ok ← isTrue c env (eval c env)
        if ok then
          (do
            let x ← eval i' env
            standAt i'.pos
            let _ ← runOwn (.compStart (.ListComp elt gens scope pos) (d + 1) (← holding [x] (pyIter x)) acc env) env)
        again (.compLoop (.ListComp elt gens scope pos) d itv acc env)) := by
  unfold compTurn
  simp only [hg, hn, hs, show ((0 : Int) != 0) = false from rfl, Bool.false_eq_true, if_false, pure_bind, bind_assoc]
  rfl

/-- one turn of a list comprehension behind its tests: the element is laid down, or the next clause is run -/
theorem compLoop_core {R : Result → Shared → Prop} {elt iter : Expr} {ifs : List Expr} {gens : List Comprehension} {scope : Scope} {pos : Pos} {d : Nat} {acc : Value} {env : Env} {s : Shared} (I : Itr prog w A it fp target n P St)
    (W : Addr → Prop) (J : Nat → Heap → Prop) (inner : Sem Unit)
    (hturn : compTurn (.ListComp elt gens scope pos) d (.ref it) acc env = (do
      standAt iter.pos
      match ← pyNext (.ref it) with
      | none => pure (.done .next)
      | some v =>
        letOwnedTupleGo target (.ref it) v
        assign target env v
        let mut ok := true
        for c in ifs do
          if ok then ok ← isTrue c env (eval c env)
        if ok then inner
        again (.compLoop (.ListComp elt gens scope pos) d (.ref it) acc env)))
    (hfp : ∀ b, fp b → ¬ W b) (hst : St 0 s.heap) (h0 : J 0 s.heap)
    (jst : ∀ i h h', J i h → (∀ b o, b ≠ it → h.get? b = some o → h'.get? b = some o) → J i h')
    (step : ∀ i v s₁ (E : Value → Shared → Prop), i < n → P i v s₁.heap → St (i + 1) s₁.heap → J i s₁.heap → Ch (fun b => W b ∨ b = it) s s₁ →
      wpAny (model prog w) A (assign target env v) (fun _ s₂ =>
        wpAny (model prog w) A (forIn ifs true fun c r => if r = true then do let ok ← isTrue c env (eval c env); pure (ForInStep.yield ok) else pure (ForInStep.yield r)) (fun ok s₃ =>
          if ok = true then wpAny (model prog w) A inner (fun _ s₄ => Ch W s₁ s₄ ∧ J (i + 1) s₄.heap) E s₃ else Ch W s₁ s₃ ∧ J (i + 1) s₃.heap) E s₂) E s₁)
    (fin : ∀ s', J n s'.heap → Ch (fun b => W b ∨ b = it) s s' → R (.ok .next) s') :
    codeAny (model prog w) A (.compLoop (.ListComp elt gens scope pos) d (.ref it) acc env) R s := by
  refine codeAny_loop rfl (fun k s' => ∃ i, i ≤ n ∧ k = n + 1 - i ∧ St i s'.heap ∧ J i s'.heap ∧ Ch (fun b => W b ∨ b = it) s s') (fun k s' hI => ?_) (n + 1) ⟨0, Nat.zero_le _, rfl, hst, h0, Ch.refl ..⟩
  show wpAny _ A ((compTurn (.ListComp elt gens scope pos) d (.ref it) acc env).onRaise (fun x => do noteFrame x env; theTreesLotGoes x)) _ _ s'
  refine wpAny_noted ?_
  rw [hturn]
  obtain ⟨i, hi, rfl, hst', hJ, hc⟩ := hI
  refine wpAny_bind (wpAny_standAt (wpAny_bind ?_))
  by_cases hlt : i < n
  · refine wpAny_mono (I.item i s' (fun v s₂ => wpAny (model prog w) A (assign target env v) (fun _ s₃ =>
        wpAny (model prog w) A (forIn ifs true fun c r => if r = true then do let ok ← isTrue c env (eval c env); pure (ForInStep.yield ok) else pure (ForInStep.yield r)) (fun ok s₄ =>
          if ok = true then wpAny (model prog w) A inner (fun _ s₅ => Ch W s₂ s₅ ∧ J (i + 1) s₅.heap ∧ St (i + 1) s₅.heap) (notedBy (model prog w) A env fun e s' => R (.error e) s') s₄ else Ch W s₂ s₄ ∧ J (i + 1) s₄.heap ∧ St (i + 1) s₄.heap) (notedBy (model prog w) A env fun e s' => R (.error e) s') s₃) (notedBy (model prog w) A env fun e s' => R (.error e) s') s₂ ∧ Ch (· = it) s' s₂)
      (notedBy (model prog w) A env fun e s' => R (.error e) s') hlt hst' fun v s₂ hP hst₂ hc₂ => ⟨?_, hc₂⟩) (fun r s₁ h₁ => ?_) fun _ _ x => x
    · have hJ₂ : J i s₂.heap := jst _ _ _ hJ fun b o hb e => hc₂.get hb e
      refine wpAny_mono (step i v s₂ _ hlt hP hst₂ hJ₂ (hc.trans (hc₂.mono fun _ => .inr))) (fun _ s₃ h₃ => wpAny_mono h₃ (fun ok s₄ h₄ => ?_) fun _ _ x => x) fun _ _ x => x
      have fin' : ∀ s₅, Ch W s₂ s₅ ∧ J (i + 1) s₅.heap → Ch W s₂ s₅ ∧ J (i + 1) s₅.heap ∧ St (i + 1) s₅.heap := fun s₅ ⟨a, b⟩ => ⟨a, b, I.frame _ _ _ hst₂ fun b o hb e => a.get (hfp b hb) e⟩
      cases ok with
      | false => simp only [Bool.false_eq_true, if_false] at h₄ ⊢; exact fin' _ h₄
      | true => simp only [if_true] at h₄ ⊢; exact wpAny_mono h₄ (fun _ s₅ h₅ => fin' _ h₅) fun _ _ x => x
    · obtain ⟨v, rfl, h₁⟩ := h₁
      refine wpAny_bind (wpAny_mono h₁ (fun _ s₂ h₂ => ?_) fun _ _ x => x)
      obtain ⟨h₂, hc₂⟩ := h₂
      have back : ∀ s₅, Ch W s₂ s₅ ∧ J (i + 1) s₅.heap ∧ St (i + 1) s₅.heap → ∃ m, m < n + 1 - i ∧ ∃ i', i' ≤ n ∧ m = n + 1 - i' ∧ St i' s₅.heap ∧ J i' s₅.heap ∧ Ch (fun b => W b ∨ b = it) s s₅ :=
        fun s₅ ⟨a, b, c⟩ => ⟨n + 1 - (i + 1), by omega, i + 1, hlt, rfl, c, b, (hc.trans (hc₂.mono fun _ => .inr)).trans (a.mono fun _ => .inl)⟩
      refine wpAny_bind (wpAny_mono h₂ (fun _ s₃ h₃ => wpAny_bind (wpAny_mono h₃ (fun ok s₄ h₄ => ?_) fun _ _ x => x)) fun _ _ x => x)
      cases ok with
      | false => simp only [Bool.false_eq_true, if_false] at h₄ ⊢; exact wpAny_pure ⟨rfl, back _ h₄⟩
      | true => simp only [if_true] at h₄ ⊢; exact wpAny_bind (wpAny_mono h₄ (fun _ s₅ h₅ => wpAny_pure ⟨rfl, back _ h₅⟩) fun _ _ x => x)
  · obtain rfl : i = n := Nat.le_antisymm hi (Nat.not_lt.mp hlt)
    refine wpAny_mono (I.done s' (fun s₂ => R (.ok .next) s₂) _ hst' fun s₂ hc₂ => ?_) (fun r s₁ h₁ => ?_) fun _ _ x => x
    · exact fin s₂ (jst _ _ _ hJ fun b o hb e => hc₂.get hb e) (hc.trans (hc₂.mono fun _ => .inr))
    · obtain ⟨rfl, h₁⟩ := h₁
      exact wpAny_pure h₁
end
end Gy
end

section
open PySem PySem.W PyProof.Rows
set_option maxRecDepth 100000
namespace Gy

section
variable {prog : Program} {w : World} {A : Around} {E : Value → Shared → Prop} {s : Shared}

theorem ownedGo_name {x : Str} {px : Pos} {it v : Value} {Q : Unit → Shared → Prop} (h : Q () s) : wpAny (model prog w) A (letOwnedTupleGo (.Name x px) it v) Q E s := wpAny_pure h

/-- the owned tuple is nobody's where the iterator is not of the kinds that own one -/
theorem ownedGo_other {target : Expr} {it : Addr} {v : Value} {T : String} {o : Obj} {vs : Array Value} {Q : Unit → Shared → Prop} (ho : s.heap.get? it = some o) (hc : o.cls = .type T) (hd : o.data = .fields vs)
    (hT : (["enumerate", "zip", "dict_itemiterator", "dict_reverseitemiterator", "odict_iterator", "itertools.zip_longest", "itertools.pairwise"].contains T) = false) (h : Q () s) :
    wpAny (model prog w) A (letOwnedTupleGo target (.ref it) v) Q E s := by
  have load : wpAny (model prog w) A (do
      let (.ref r, .ref a) := (Value.ref it, v) | return
      let o ← load r
      match o.cls, o.data with
      | .type n, .fields vs =>
        if ["enumerate", "zip", "dict_itemiterator", "dict_reverseitemiterator", "odict_iterator", "itertools.zip_longest", "itertools.pairwise"].contains n && vs[0]? == some (rawInt a) then
          rule "for.unpacks-the-owned-tuple"
          updateField r 0 .none
      | _, _ => pure () : Sem Unit) Q E s := by
    cases v with
    | ref a =>
      refine wpAny_bind (wpAny_load ho ?_)
      rw [hc, hd]
      dsimp only
      rw [hT, Bool.false_and, if_neg Bool.false_ne_true]
      exact wpAny_pure h
    | _ => exact wpAny_pure h
  unfold letOwnedTupleGo
  split <;> first | exact load | exact wpAny_pure h

theorem itr_range (hh : A.handled = none) (it : Addr) (a : Int) (n : Nat) (x : Str) (px : Pos) :
    Itr prog w A it (· = it) (.Name x px) n (fun i v _ => ∃ t, v = .int (a + i) t) (fun i h => IsRangeIter h it (a + i) (n - i) 1) where
  self := rfl
  frame := fun i h h' st k => k it _ rfl st
  item := fun i s Q E hi st hQ => by
    refine wpAny_pyNext_range_item st (by omega) fun h' hit' hs' => ⟨_, rfl, wpAny_pure (hQ _ _ ⟨_, rfl⟩ ?_ ⟨h', _, rfl, fun b o hb e => hs'.extBut b o hb e⟩)⟩
    have e1 : a + ((i + 1 : Nat) : Int) = a + i + 1 := by omega
    have e2 : (n : Int) - ((i + 1 : Nat) : Int) = n - i - 1 := by omega
    show IsRangeIter h' it (a + ((i + 1 : Nat) : Int)) ((n : Int) - ((i + 1 : Nat) : Int)) 1
    rw [e1, e2]; exact hit'
  done := fun s Q E st hQ => wpAny_pyNext_range_end hh st (by omega) fun h' he' => ⟨rfl, hQ _ ⟨h', s.toks, rfl, fun b o hb e => he' b o hb e⟩⟩

theorem itr_keys (hh : A.handled = none) (it d : Addr) (hne : d ≠ it) (es : Array DictEntry) (ep : Nat) (target : Expr) :
    Itr prog w A it (fun b => b = it ∨ b = d) target es.size (fun i v _ => ∃ e, es[i]? = some e ∧ v = e.key) (fun i h => h.IsKeyIter it d i es.size ep ∧ Raw h d es ep) where
  self := .inl rfl
  frame := fun i h h' st k => ⟨st.1.at fun o e => k it o (.inl rfl) e, st.2.at fun o e => k d o (.inr rfl) e⟩
  item := fun i s Q E hi st hQ => by
    have he : es[i]? = some es[i] := Array.getElem?_eq_getElem hi
    refine pyNext_raw_item st.1 st.2 he fun h' hit' hs' => ⟨_, rfl, ?_⟩
    obtain ⟨o, ho, hc, hd⟩ := id hit'
    exact ownedGo_other ho hc hd (by decide) (hQ _ _ ⟨_, he, rfl⟩ ⟨hit', st.2.at fun o e => hs'.extBut d o hne e⟩ ⟨h', s.toks, rfl, fun b o hb e => hs'.extBut b o hb e⟩)
  done := fun s Q E st hQ => pyNext_raw_end hh st.1 st.2 (by simp) fun h' he' => ⟨rfl, hQ _ ⟨h', s.toks, rfl, fun b o hb e => he' b o hb e⟩⟩

theorem itr_values (hh : A.handled = none) (it d : Addr) (hne : d ≠ it) (es : Array DictEntry) (ep : Nat) (x : Str) (px : Pos) :
    Itr prog w A it (fun b => b = it ∨ b = d) (.Name x px) es.size (fun i v _ => ∃ e, es[i]? = some e ∧ v = e.val) (fun i h => h.IsValIter it d i es.size ep ∧ Raw h d es ep) where
  self := .inl rfl
  frame := fun i h h' st k => ⟨st.1.at fun o e => k it o (.inl rfl) e, st.2.at fun o e => k d o (.inr rfl) e⟩
  item := fun i s Q E hi st hQ => by
    have he : es[i]? = some es[i] := Array.getElem?_eq_getElem hi
    exact pyNext_values_raw st.1 st.2 he fun h' hit' hs' => ⟨_, rfl, wpAny_pure (hQ _ _ ⟨_, he, rfl⟩ ⟨hit', st.2.at fun o e => hs'.extBut d o hne e⟩ ⟨h', s.toks, rfl, fun b o hb e => hs'.extBut b o hb e⟩)⟩
  done := fun s Q E st hQ => pyNext_values_raw_end hh st.1 st.2 (by simp) fun h' he' => ⟨rfl, hQ _ ⟨h', s.toks, rfl, fun b o hb e => he' b o hb e⟩⟩

theorem itr_items (hh : A.handled = none) (it d : Addr) (hne : d ≠ it) (es : Array DictEntry) (ep : Nat) (elts : List Expr) (k : Nat) (pos : Pos) :
    Itr prog w A it (fun b => b = it ∨ b = d) (.Tuple elts k pos) es.size (fun i v h => ∃ e T, es[i]? = some e ∧ v = .ref T ∧ h.IsTuple T #[e.key, e.val])
      (fun i h => (∃ ok ov, IsItemIter h it d i es.size ep ok ov) ∧ Raw h d es ep) where
  self := .inl rfl
  frame := fun i h h' st k => ⟨let ⟨ok, ov, e⟩ := st.1; ⟨ok, ov, k it _ (.inl rfl) e⟩, st.2.at fun o e => k d o (.inr rfl) e⟩
  item := fun i s Q E hi st hQ => by
    obtain ⟨⟨ok, ov, hit⟩, hm⟩ := st
    have he : es[i]? = some es[i] := Array.getElem?_eq_getElem hi
    refine pyNext_items_raw hit hm he fun h' hio ht hz hk => ⟨_, rfl, wpAny_letOwnedTupleGo_items hio fun h₂ he₂ hs₂ => ?_⟩
    have hil : it < s.heap.objs.size := Heap.lt_size hit
    replace hs₂ : Heap.SameBut it h' h₂ := hs₂
    refine hQ _ _ ⟨_, _, he, rfl, ⟨_, (hs₂.2 _ (Nat.ne_of_gt hil)).trans ht, rfl, _, rfl⟩⟩ ⟨⟨_, _, he₂⟩, hm.at fun o e => hs₂.extBut d o hne (hk d o hne e)⟩
      ⟨h₂, s.toks, rfl, fun b o hb e => hs₂.extBut b o hb (hk b o hb e)⟩
  done := fun s Q E st hQ => by
    obtain ⟨⟨ok, ov, hit⟩, hm⟩ := st
    exact pyNext_items_raw_end hh hit hm (by simp) fun h' he' => ⟨rfl, hQ _ ⟨h', s.toks, rfl, fun b o hb e => he' b o hb e⟩⟩

/-- a comprehension's clause begins: its iterator may be asked for itself -/
theorem compStart_go {R : Result → Shared → Prop} {elt : Expr} {gens : List Comprehension} {g : Comprehension} {scope : Scope} {pos : Pos} {d : Nat} {itv acc : Value} {env : Env} (hg : gens[d]? = some g) (ha : g.is_async = 0)
    (self : ∀ (Q : Value → Shared → Prop) (E : Value → Shared → Prop), Q itv s → wpAny (model prog w) A (pyIter itv) Q E s)
    (h : codeAny (model prog w) A (.compLoop (.ListComp elt gens scope pos) d itv acc env) R s) :
    codeAny (model prog w) A (.compStart (.ListComp elt gens scope pos) d itv acc env) R s := by
  refine codeAny_of_tree ?_
  show wpAny _ _ ((compStart (.ListComp elt gens scope pos) d itv acc env).onRaise (fun x => do noteFrame x env; standAt theWindowsPlace)) _ _ s
  refine wpAny_notedAt ?_
  unfold compStart
  simp only [clausesOf, hg, Option.elim, ha, show ((0 : Int) != 0) = false from rfl, Bool.false_eq_true, if_false]
  refine wpAny_bind (wpAny_askSetting (wpAny_ite ?_))
  split
  · exact wpAny_bind (wpAny_pure (wpAny_pure (And.intro rfl h)))
  · refine wpAny_bind (wpAny_rule (wpAny_bind (wpAny_standAt (wpAny_bind (self _ _ (wpAny_pure (And.intro rfl h)))))))
end
end Gy
end

section
open PySem PySem.W PyProof.Rows
set_option maxRecDepth 100000
namespace Gy

/-- the text's own statements, by their place -/
def tx : Program := PySem.Challenge.pw_gy0002_01
def fB (n : Nat) : List Stmt := match tx.main.body[n]? with | some (.FunctionDef _ _ b _ _ _ _ _ _ _) => b | _ => []
def fS (n : Nat) : Scope := match tx.main.body[n]? with | some (.FunctionDef _ _ _ _ _ _ sc _ _ _) => sc | _ => default
def fP (n : Nat) : Arguments := match tx.main.body[n]? with | some (.FunctionDef _ p _ _ _ _ _ _ _ _) => p | _ => default

/-- the text's n-th statement's function stands at f -/
inductive FnIs (h : Heap) (f : Addr) (n : Nat) : Prop
  | mk (o : Obj) (fd : FuncData) (e : h.get? f = some o) (d : o.data = .func fd) (a1 : fd.body = .stmts (fB n)) (a2 : fd.scope = fS n) (a3 : fd.params = fP n) (a4 : fd.closure = []) (a5 : fd.globals = mainGlobals) (a6 : fd.builtins = builtinsNs)
    (a7 : fd.defaults = .none) (a8 : fd.kwdefaults = .none) (c : h.CodeRec fd.code fd.qualname) : FnIs h f n
theorem FnIs.keeps {h h' : Heap} {f : Addr} {n : Nat} (x : FnIs h f n) (k : ∀ b o, h.get? b = some o → h'.get? b = some o) : FnIs h' f n :=
  let ⟨o, fd, e, a1, a2, a3, a4, a5, a6, a7, a8, a9, c⟩ := x; ⟨o, fd, k _ _ e, a1, a2, a3, a4, a5, a6, a7, a8, a9, c.keeps k⟩

/-- what of the top the calls lean on -/
structure Base (h : Heap) (mg mb : Str → Option Value) : Prop where
  g : h.Ns mainGlobals mg
  b : h.Ns builtinsNs mb
  nolimit : h.NoLimit
theorem Base.keeps {h h' : Heap} {mg mb : Str → Option Value} (x : Base h mg mb) (k : ∀ b o, h.get? b = some o → h'.get? b = some o) : Base h' mg mb := ⟨x.g.keeps k, x.b.keeps k, x.nolimit.keeps k⟩


section
variable {prog : Program} {w : World} {A : Around} {E : Value → Shared → Prop} {s : Shared} {env : Env} {m mg mb : Str → Option Value} {x : Str} {px : Pos} {v : Value} {Q : Value → Shared → Prop}

theorem nmL (hn : s.heap.Ns env.locals m) (hv : m x = some v) (h : Q v s) (hk : env.scope.kind = .function := by rfl) (hl : env.kindOf x = some .local := by rfl) (hd : (x == ("__debug__" : Str)) = false := by decide) :
    wpAny (model prog w) A (eval (.Name x px) env) Q E s := wpAny_Name (wpAny_loadName_local hk hl hn hv h) hd
theorem nmG (B : Base s.heap mg mb) (hv : mg x = some v) (h : Q v s) (hg : env.globals = mainGlobals := by rfl) (hk : env.scope.kind = .function := by rfl) (hl : env.kindOf x = some .globalImplicit := by rfl) (hd : (x == ("__debug__" : Str)) = false := by decide) :
    wpAny (model prog w) A (eval (.Name x px) env) Q E s := Calls.Name_function_global hk hl (Calls.loadGlobal_global (hg ▸ B.g) hv h) hd
theorem nmB (B : Base s.heap mg mb) (hm : mg x = none) (hv : mb x = some v) (h : Q v s) (hg : env.globals = mainGlobals := by rfl) (hb : env.builtins = builtinsNs := by rfl) (hk : env.scope.kind = .function := by rfl)
    (hl : env.kindOf x = some .globalImplicit := by rfl) (hd : (x == ("__debug__" : Str)) = false := by decide) :
    wpAny (model prog w) A (eval (.Name x px) env) Q E s := Calls.Name_function_global hk hl (Calls.loadGlobal_builtin (hg ▸ B.g) hm (hb ▸ B.b) hv h) hd

theorem stL {Q : Unit → Shared → Prop} (hn : s.heap.Ns env.locals m) (h : ∀ h', h'.Ns env.locals (fun y => if y = x then some v else m y) → Heap.SameBut env.locals s.heap h' → Q () { s with heap := h', toks := s.toks + 1 })
    (hk : env.scope.kind = .function := by rfl) (hl : env.kindOf x = some .local := by rfl) : wpAny (model prog w) A (storeName env x v) Q E s :=
  wpAny_storeName_local hl hn h (by rw [hk]; rfl)

/-- a def of the text that has no cells is entered -/
theorem call_fn {n : Nat} {f : Addr} {args : List Value} {binds : List (Str × Value)} (hd : A.depth < recursionLimit) (hF : FnIs s.heap f n) (B : Base s.heap mg mb)
    (hb : ∀ fd : FuncData, fd.params = fP n → fd.defaults = .none → fd.kwdefaults = .none → bindArgs fd ⟨args, []⟩ = pure binds)
    (h : ∀ (fd : FuncData) h₀, fd.scope = fS n → fd.globals = mainGlobals → fd.builtins = builtinsNs → h₀.Ns s.heap.objs.size (fun x => binds.reverse.lookup x) → (∀ b o, s.heap.get? b = some o → h₀.get? b = some o) →
      wpAny (model prog w) (A.deeper (callEnv fd s.heap.objs.size f)) (execs (fB n) (callEnv fd s.heap.objs.size f)) (fun fl s' => Q (match fl with | .ret v => v | _ => .none) s') (fun _ _ => False)
        { s with heap := h₀, toks := s.toks + binds.length })
    (hcell : ∀ x ∈ (fS n).names, x.2 ≠ .cell := by decide) (hloc : ∀ x ∈ binds, (fS n).names.lookup x.1 = some .local := by first | exact locs rfl | decide)
    (hco : (fS n).isCoroutine = false := by rfl) (hgen : (fS n).isGenerator = false := by rfl) (hk : (fS n).kind = .function := by rfl) :
    wpAny (model prog w) A (call (.ref f) args) Q E s := by
  obtain ⟨o, fd, ho, hdat, e1, e2, e3, e4, e5, e6, e7, e8, hcd⟩ := hF
  refine wpAny_call (codeAny_call_def (binds := binds) hd ho hdat B.nolimit hcd e1 (.of_eq (hb fd e3 e7 e8)) (e2 ▸ hcell) (e2 ▸ hloc) (fun h₀ hn hk => ?_) (e2 ▸ hco) (e2 ▸ hgen) (e2 ▸ hk))
  exact wpAny_mono (h fd h₀ e2 e5 e6 hn hk) (fun _ _ q => q) fun _ _ q => q.elim

theorem eval_items {o : Expr} {apos pos : Pos} {d : Addr} {es : Array DictEntry} {ep : Nat} (hdS : (d == sysModules) = false) (hm : Raw s.heap d es ep)
    (hbase : attributeBase o "items" env (eval o env) = eval o env) (hline : (apos.endLine == pos.line) = true)
    (ho : ∀ Q', Q' (.ref d) s → wpAny (model prog w) A (eval o env) Q' E s)
    (hQ : Q (.ref s.heap.objs.size) { s with heap := s.heap.push { cls := .type "dict_items", data := .fields #[.ref d] } }) :
    wpAny (model prog w) A (eval (.Call (.Attribute o "items" apos) [] [] pos) env) Q E s := by
  refine wpAny_Call_method (T := "dict") (id := "dict.items") hbase rfl hline F.plainAttrs_dict F.slot_dict_items F.type_dict_items (ho _ ⟨hm.typeIs, hm.noDict, ?_⟩)
  show wpAny _ _ (callWith pos (.builtin "dict.items") [.ref d] [] []) Q E s
  exact method_meetsIn F.slot_dict_items F.entry_dict_items rfl (PySem.evalArgs_none ⟨rfl, hm.typeIs, F.args_dict_items_1 _, _, meets_items_raw prog w d hdS, ⟨es, ep, hm⟩, hQ⟩)

theorem eval_values {o : Expr} {apos pos : Pos} {d : Addr} {es : Array DictEntry} {ep : Nat} (hdS : (d == sysModules) = false) (hm : Raw s.heap d es ep)
    (hbase : attributeBase o "values" env (eval o env) = eval o env) (hline : (apos.endLine == pos.line) = true)
    (ho : ∀ Q', Q' (.ref d) s → wpAny (model prog w) A (eval o env) Q' E s)
    (hQ : Q (.ref s.heap.objs.size) { s with heap := s.heap.push { cls := .type "dict_values", data := .fields #[.ref d] } }) :
    wpAny (model prog w) A (eval (.Call (.Attribute o "values" apos) [] [] pos) env) Q E s := by
  refine wpAny_Call_method (T := "dict") (id := "dict.values") hbase rfl hline F.plainAttrs_dict F.slot_dict_values F.type_dict_values (ho _ ⟨hm.typeIs, hm.noDict, ?_⟩)
  show wpAny _ _ (callWith pos (.builtin "dict.values") [.ref d] [] []) Q E s
  exact method_meetsIn F.slot_dict_values F.entry_dict_values rfl (PySem.evalArgs_none ⟨rfl, hm.typeIs, F.args_dict_values_1 _, _, meets_values_raw prog w d hdS, ⟨es, ep, hm⟩, hQ⟩)

/-- for k, v in d.items(): the body turns old objects alone -/
theorem for_items {Q : Flow → Shared → Prop} {xk xv : Str} {pk pv pt pos apos cpos : Pos} {k : Nat} {o : Expr} {body : List Stmt} {d : Addr} {es : Array DictEntry} {ep : Nat}
    (hh : A.handled = none) (hk : env.scope.kind = .function) (hxk : env.kindOf xk = some .local) (hxv : env.kindOf xv = some .local) (hdS : (d == sysModules) = false) (hm : Raw s.heap d es ep) (hn : s.heap.Ns env.locals m)
    (hbase : attributeBase o "items" env (eval o env) = eval o env) (hline : (apos.endLine == cpos.line) = true)
    (ho : ∀ Q' E, Q' (.ref d) s → wpAny (model prog w) A (eval o env) Q' E s)
    (W : Addr → Prop) (hWL : W env.locals) (hWd : ¬ W d) (hWo : ∀ b, W b → b < s.heap.objs.size) (J : Nat → (Str → Option Value) → Heap → Prop) (h0 : J 0 m s.heap)
    (jst : ∀ i m h h', J i m h → (∀ b o, b < s.heap.objs.size → b ≠ env.locals → h.get? b = some o → h'.get? b = some o) → J i m h')
    (step : ∀ i e m₁ s₁ (E : Value → Shared → Prop), es[i]? = some e → J i m₁ s₁.heap → s₁.heap.Ns env.locals (fun y => if y = xv then some e.val else if y = xk then some e.key else m₁ y) → Ch W s s₁ →
      wpAny (model prog w) A (execs body env) (fun f s₂ => f = .next ∧ Ch W s₁ s₂ ∧ ∃ m₂, s₂.heap.Ns env.locals m₂ ∧ J (i + 1) m₂ s₂.heap) E s₁)
    (fin : ∀ s' m', s'.heap.Ns env.locals m' → J es.size m' s'.heap → Ch W s s' → Q .next s')
    (hs : ∀ x, foldedSetIterable (.Call (.Attribute o "items" apos) [] [] cpos) env x = pure x := by intro _; rfl) :
    wpAny (model prog w) A (exec (.For (.Tuple [.Name xk pk, .Name xv pv] k pt) (.Call (.Attribute o "items" apos) [] [] cpos) body [] pos) env) Q E s := by
  refine wpAny_For (eval_items hdS hm hbase hline (fun Q' hq => ho Q' _ hq) ?_) hs
  have hp : (env.scope.kind == .class || (env.scope.kind == .module && env.locals != env.globals)) = false := by rw [hk]; rfl
  have sz1 : (s.heap.push { cls := .type "dict_items", data := .fields #[.ref d] }).objs.size = s.heap.objs.size + 1 := Heap.size_push ..
  refine pyIter_items_raw (d := d) (es := es) (ep := ep) ⟨_, Heap.get?_push_size _ rfl, rfl, rfl⟩ (hm.at fun o e => Heap.get?_push_of_some _ e) ?_
  dsimp only
  rw [sz1]
  have kk : ∀ b o', s.heap.get? b = some o' → ((s.heap.push { cls := .type "dict_items", data := .fields #[.ref d] }).push { cls := .type "dict_itemiterator", data := .fields #[.none, .bool false, .ref d, .int 0 0, .int es.size 0, .int ep 0, .none, .none] }).get? b = some o' :=
    fun b o' e => Heap.get?_push_of_some _ (Heap.get?_push_of_some _ e)
  have hit : IsItemIter ((s.heap.push { cls := .type "dict_items", data := .fields #[.ref d] }).push { cls := .type "dict_itemiterator", data := .fields #[.none, .bool false, .ref d, .int 0 0, .int es.size 0, .int ep 0, .none, .none] }) (s.heap.objs.size + 1) d 0 es.size ep .none .none := by
    rw [← sz1]; exact Heap.get?_push_size _ rfl
  generalize ((s.heap.push { cls := .type "dict_items", data := .fields #[.ref d] }).push { cls := .type "dict_itemiterator", data := .fields #[.none, .bool false, .ref d, .int 0 0, .int es.size 0, .int ep 0, .none, .none] }) = H2 at kk hit
  have hdlt : @LT.lt Nat _ d s.heap.objs.size := hm.lt
  have hLlt : @LT.lt Nat _ env.locals s.heap.objs.size := hn.lt
  have hne : @Ne Nat d (s.heap.objs.size + 1) := by omega
  have hLne : @Ne Nat env.locals (s.heap.objs.size + 1) := by omega
  have c0 : Ch W s { s with heap := H2 } := ⟨H2, s.toks, rfl, fun b o _ e => kk b o e⟩
  have back : ∀ s', Ch (fun b => W b ∨ b = s.heap.objs.size + 1) { s with heap := H2 } s' → Ch W s s' := fun s' c =>
    (show Ch (fun b => W b ∨ b = s.heap.objs.size + 1) s s' from (c0.mono fun _ => .inl).trans c).shrink fun y o e h => h.elim id fun (q : @Eq Nat y (s.heap.objs.size + 1)) => by
      have : @LT.lt Nat _ y s.heap.objs.size := Heap.lt_size e
      omega
  refine forLoop_core (s := { s with heap := H2 }) (itr_items hh (s.heap.objs.size + 1) d hne es ep _ k pt) W (fun i h => ∃ m, h.Ns env.locals m ∧ J i m h) ?_ ⟨⟨_, _, hit⟩, hm.at fun o e => kk d o e⟩
    ⟨m, hn.keeps kk, jst _ _ _ _ h0 fun b o _ _ e => kk b o e⟩ ?_ ?_ ?_
  · rintro b (rfl | rfl) hb
    · have : @LT.lt Nat _ (s.heap.objs.size + 1) s.heap.objs.size := hWo _ hb
      omega
    · exact hWd hb
  · rintro i h h' ⟨m₁, hn₁, hj⟩ _ kp
    exact ⟨m₁, hn₁.at' fun o e => kp _ o hLne e, jst _ _ _ _ hj fun b o (hb : @LT.lt Nat _ b s.heap.objs.size) _ e => kp b o (show @Ne Nat b (s.heap.objs.size + 1) by omega) e⟩
  · rintro i v s₁ E' hi ⟨e, T, he, rfl, ht⟩ ⟨m₁, hn₁, hj⟩ hc₁
    refine wpAny_assign_Tuple hh ht rfl rfl fun h₃ hx₃ => ?_
    replace hx₃ : Heap.ExtBut s₁.heap.objs.size s₁.heap h₃ := hx₃
    have k₃ : ∀ b o, s₁.heap.get? b = some o → h₃.get? b = some o := fun b o x => hx₃ b o (Nat.ne_of_lt (Heap.lt_size x)) x
    show wpAny _ _ (do holding [e.val] (assign (.Name xk pk) env e.key); do holding [] (assign (.Name xv pv) env e.val); pure ()) _ _ _
    refine wpAny_bind (wpAny_holding (wpAny_assign_Name (wpAny_storeName_local hxk (hn₁.keeps k₃) (fun h₄ hn₄ hs₄ => ?_) hp)))
    replace hs₄ : Heap.SameBut env.locals h₃ h₄ := hs₄
    refine wpAny_bind (wpAny_holding (wpAny_assign_Name (wpAny_storeName_local hxv hn₄ (fun h₅ hn₅ hs₅ => wpAny_pure ?_) hp)))
    replace hs₅ : Heap.SameBut env.locals h₄ h₅ := hs₅
    have k₅ : ∀ b o, b ≠ env.locals → s₁.heap.get? b = some o → h₅.get? b = some o := fun b o hb x => hs₅.extBut b o hb (hs₄.extBut b o hb (k₃ b o x))
    have c₅ : Ch W s₁ { s₁ with heap := h₅, toks := s₁.toks + 1 + 1 } := ⟨h₅, _, rfl, fun b o hb x => k₅ b o (fun q => hb (q ▸ hWL)) x⟩
    refine wpAny_mono (step i e m₁ _ E' he (jst _ _ _ _ hj fun b o _ hb x => k₅ b o hb x) hn₅ ((back _ hc₁).trans c₅)) (fun f s₂ h₂ => ?_) fun _ _ x => x
    obtain ⟨rfl, hc₂, m₂, hn₂, hj₂⟩ := h₂
    exact ⟨rfl, c₅.trans hc₂, m₂, hn₂, hj₂⟩
  · rintro s' ⟨m', hn', hj⟩ hc
    exact fin s' m' hn' hj (back s' hc)
end
end Gy
end

section
open PySem PySem.W PyProof.Rows
set_option maxRecDepth 100000
namespace Gy
section
variable {prog : Program} {w : World} {K : Type} [DecidableEq K] {knd : KeyKind prog w K}

theorem atKey_none {xs : List (List K × Addr × Value)} {k : List K} (h : k ∉ xs.map (·.1)) : atKey xs k = none := by
  unfold atKey
  rw [List.find?_eq_none.mpr]
  · rfl
  · intro x hx hk
    exact h (List.mem_map.mpr ⟨x, hx, of_decide_eq_true hk⟩)

/-- a dict of tuple keys out of its entries and its keys -/
theorem dict_of_raw {h : Heap} {d : Addr} {xs : List (List K × Addr × Value)} {ep : Nat} (x : Raw h d (xs.map (entryOfKey (tupleKind knd))).toArray ep)
    (hk : ∀ x ∈ xs, IsTupleKey knd h x.1 x.2.1) (hn : (xs.map (·.1)).Nodup) : h.DictOfH (tupleKind knd) d xs :=
  let ⟨o, ho, hc, hd⟩ := x; ⟨o, _, ep, ho, hc, hd, rfl, hk, hn⟩
theorem keys_of {h : Heap} {d : Addr} {xs : List (List K × Addr × Value)} (x : h.DictOfH (tupleKind knd) d xs) : (∀ x ∈ xs, IsTupleKey knd h x.1 x.2.1) ∧ (xs.map (·.1)).Nodup :=
  let ⟨_, _, _, _, _, _, _, hi, hn⟩ := x; ⟨hi, hn⟩
theorem tk_lt {h : Heap} {k : List K} {a : Addr} (x : IsTupleKey knd h k a) : @LT.lt Nat _ a h.objs.size := let ⟨_, _, _, ho, _⟩ := x; Heap.lt_size ho
theorem tk_at {h h' : Heap} {k : List K} {a : Addr} (x : IsTupleKey knd h k a) (e : ∀ o, h.get? a = some o → h'.get? a = some o) : IsTupleKey knd h' k a :=
  let ⟨o, its, n, ho, r⟩ := x; ⟨o, its, n, e o ho, r⟩

variable {A : Around} {E : Value → Shared → Prop} {s : Shared} {env : Env} {m : Str → Option Value}

/-- nc[fn] = cl: a key that the dict has not -/
theorem store_new {Q : Flow → Shared → Prop} {nc fn cl : Str} {p1 p2 p3 p4 p5 : Pos} {D a : Addr} {v : Value} {zs : List (List K × Addr × Value)} {k : List K} (hu : A.units + 1 < cLine)
    (hn : s.heap.Ns env.locals m) (h1 : m nc = some (.ref D)) (h2 : m fn = some (.ref a)) (h3 : m cl = some v) (hD : s.heap.DictOfH (tupleKind knd) D zs) (hkey : IsTupleKey knd s.heap k a) (hnew : k ∉ zs.map (·.1)) (hsz : zs.length ≤ sizeLine)
    (hQ : ∀ h' tk, h'.DictOfH (tupleKind knd) D (zs ++ [(k, a, v)]) → Heap.SameBut D s.heap h' → Q .next { s with heap := h', toks := tk })
    (hk : env.scope.kind = .function := by rfl) (l1 : env.kindOf nc = some .local := by rfl) (l2 : env.kindOf fn = some .local := by rfl) (l3 : env.kindOf cl = some .local := by rfl)
    (d1 : (nc == ("__debug__" : Str)) = false := by decide) (d2 : (fn == ("__debug__" : Str)) = false := by decide) (d3 : (cl == ("__debug__" : Str)) = false := by decide) :
    wpAny (model prog w) A (exec (.Assign [.Subscript (.Name nc p1) (.Name fn p2) p3] (.Name cl p4) p5) env) Q E s := by
  refine wpAny_Assign_Subscript (nmL hn h3 (nmL hn h1 (nmL hn h2 ?_ hk l2 d2) hk l1 d1) hk l3 d3)
  refine wpAny_setItem_heap (knd := tupleKind knd) (show (tupleKind knd).room A.in1 from hu) (show (tupleKind knd).is s.heap k a from hkey) hD (fun h' hd hs => ?_) hsz
  rw [storedH_new (atKey_none hnew)] at hd
  exact hQ h' _ hd hs

theorem entry_get {xs : List (List K × Addr × Value)} {i : Nat} {e : DictEntry} (h : (xs.map (entryOfKey (tupleKind knd))).toArray[i]? = some e) :
    ∃ k a v, xs[i]? = some (k, a, v) ∧ e.key = .ref a ∧ e.val = v := by
  rw [List.getElem?_toArray, List.getElem?_map] at h
  cases q : xs[i]? with
  | none => rw [q] at h; cases h
  | some y => rw [q] at h; obtain ⟨k, a, v⟩ := y; cases h; exact ⟨k, a, v, rfl, rfl, rfl⟩
theorem take_snoc {α : Type} {xs : List α} {i : Nat} {y : α} (h : xs[i]? = some y) : xs.take (i + 1) = xs.take i ++ [y] := by
  rw [List.take_add_one, h]; rfl
theorem nodup_take_not {xs : List (List K × Addr × Value)} {i : Nat} {k : List K} {p : Addr × Value} (hn : (xs.map (·.1)).Nodup) (h : xs[i]? = some (k, p)) : k ∉ (xs.take i).map (·.1) := by
  intro hm
  obtain ⟨y, hy, e⟩ := List.mem_map.mp hm
  obtain ⟨j, hj⟩ := List.mem_iff_getElem?.mp hy
  have hji : j < i := by
    rcases Nat.lt_or_ge j i with q | q
    · exact q
    · rw [List.getElem?_eq_none (by rw [List.length_take]; omega)] at hj; cases hj
  rw [List.getElem?_take_of_lt hji] at hj
  have := idxH_unique hn (k := k) (p := y.2) (q := p) (by rw [hj, ← e]) h
  omega
end
end Gy
end

section
open PySem PySem.W PyProof.Rows
set_option maxRecDepth 100000
namespace Gy
/-- a name's value in a frame that has just been stored to -/
local macro_rules | `(tactic| walk_at "mm") => `(tactic| first | rfl | assumption | (show (if _ = _ then _ else _) = _; repeat (first | rfl | assumption | rw [if_neg (by decide)])))
section
variable {prog : Program} {w : World} {K : Type} [DecidableEq K] {knd : KeyKind prog w K} {A : Around} {E : Value → Shared → Prop} {s : Shared} {mg mb : Str → Option Value}

set_option maxHeartbeats 1000000 in
theorem add_callers_call {f d1 d2 : Addr} {xs ys : List (List K × Addr × Value)} {Q : Value → Shared → Prop} (hd : A.depth < recursionLimit) (hu : A.units + 8 < cLine) (hh : A.handled = none)
    (hF : FnIs s.heap f 1) (B : Base s.heap mg mb) (h1 : s.heap.DictOfH (tupleKind knd) d1 xs) (h2 : s.heap.DictOfH (tupleKind knd) d2 ys) (hdis : ((xs ++ ys).map (·.1)).Nodup)
    (hd1 : (d1 == sysModules) = false) (hd2 : (d2 == sysModules) = false) (hsz : xs.length + ys.length ≤ sizeLine)
    (hQ : ∀ h' tk D, (∀ b o, s.heap.get? b = some o → h'.get? b = some o) → (∀ b o, s.heap.get? b = some o → @LT.lt Nat _ b D) → h'.DictOfH (tupleKind knd) D (xs ++ ys) → Q (.ref D) { s with heap := h', toks := tk }) :
    wpAny (model prog w) A (call (.ref f) [.ref d1, .ref d2]) Q E s := by
  refine call_fn (binds := [("target", .ref d1), ("source", .ref d2)]) hd hF B (fun fd e1 e2 e3 => ?_) (fun fd h₀ es eg eb hn hk => ?_)
  · obtain ⟨name, qualname, params, body, scope, globals, closure, defaults, kwdefaults, doc, pyModule, annotations, code, closureTuple, builtins⟩ := fd
    dsimp only at e1 e2 e3
    subst e1 e2 e3
    rfl
  obtain ⟨name, qualname, params, body, scope, globals, closure, defaults, kwdefaults, doc, pyModule, annotations, code, closureTuple, builtins⟩ := fd
  dsimp only at es eg eb
  subst es eg eb
  generalize hfd : (FuncData.mk name qualname params body (fS 1) mainGlobals closure defaults kwdefaults doc pyModule annotations code closureTuple builtinsNs) = fd
  have hsc : fd.scope = fS 1 := by rw [← hfd]
  have hL : (callEnv fd s.heap.objs.size f).locals = s.heap.objs.size := rfl
  generalize henv : callEnv fd s.heap.objs.size f = env at hL
  have hS : env.scope = fS 1 := by rw [← henv]; exact hsc
  rw [← hL] at hn
  conv => arg 3; arg 1; whnf
  have hk₀ : env.scope.kind = .function := by rw [hS]; rfl
  have kd : ∀ x k, (fS 1).names.lookup x = some k → env.kindOf x = some k := fun x k e => by unfold Env.kindOf; rw [hS]; exact e
  have hLn : s.heap.get? env.locals = none := by
    cases q : s.heap.get? env.locals with
    | none => rfl
    | some o => exact absurd (Heap.lt_size q) (by rw [hL]; exact Nat.lt_irrefl _)
  have hAh : (A.deeper env).handled = none := hh
  have hAu : (A.deeper env).units + 1 < cLine := by show A.units + 3 + 1 < cLine; omega
  have hAu' : (A.deeper env).in1.units < cLine := hAu
  obtain ⟨kx, nx⟩ := keys_of h1
  obtain ⟨ky, ny⟩ := keys_of h2
  -- new_callers = {}
  refine wpAny_execs_cons (wpAny_Assign_Name (wpAny_Dict_empty ?_))
  have k1 : ∀ b o, s.heap.get? b = some o → (h₀.push { cls := .type "dict", data := .dict #[] }).get? b = some o := fun b o e => Heap.get?_push_of_some _ (hk b o e)
  have hD0 : Raw (h₀.push { cls := .type "dict", data := .dict #[] }) h₀.objs.size #[] 0 := ⟨_, Heap.get?_push_size _ rfl, ⟨rfl, rfl, rfl⟩, rfl⟩
  have hn1 := hn.push { cls := .type "dict", data := .dict #[] }
  have hDn : s.heap.get? h₀.objs.size = none := by
    cases q : s.heap.get? h₀.objs.size with
    | none => rfl
    | some o => exact absurd (Heap.lt_size (hk _ _ q)) (Nat.lt_irrefl _)
  have hDl : ∀ b o, s.heap.get? b = some o → @LT.lt Nat _ b h₀.objs.size := fun b o e => Heap.lt_size (hk b o e)
  have hDL : h₀.objs.size ≠ env.locals := Nat.ne_of_gt hn.lt
  have hDs : (h₀.objs.size == sysModules) = false := by
    have q : @LT.lt Nat _ mainGlobals h₀.objs.size := (B.g.keeps hk).lt
    exact beq_eq_false_iff_ne.mpr (Nat.ne_of_gt (Nat.lt_trans (by decide : @LT.lt Nat _ sysModules mainGlobals) q))
  dsimp only
  generalize h₀.objs.size = D at *
  generalize h₀.push { cls := .type "dict", data := .dict #[] } = H1 at *
  refine stL hn1 (fun h₂ hn₂ hs₂ => ?_) hk₀ (kd _ _ rfl)
  replace hs₂ : Heap.SameBut env.locals H1 h₂ := hs₂
  have k2 : ∀ b o, s.heap.get? b = some o → h₂.get? b = some o := fun b o e => hs₂.extBut b o (fun q => by rw [q, hLn] at e; cases e) (k1 b o e)
  have hD2 : Raw h₂ D #[] 0 := hD0.at fun o e => hs₂.extBut _ o hDL e
  have hDlt : @LT.lt Nat _ D h₂.objs.size := hD2.lt
  have hLlt : @LT.lt Nat _ env.locals h₂.objs.size := hn₂.lt
  dsimp only
  clear hD0 hn1 hs₂ k1 hn H1
  -- the two loops turn L and D alone
  have ap : ∀ a o, s.heap.get? a = some o → ¬ (a = env.locals ∨ a = D) := fun a o e q => by
    rcases q with q | q
    · rw [q, hLn] at e; cases e
    · rw [q, hDn] at e; cases e
  have up : ∀ {t : Shared} {hh : Heap} {tt : Nat}, Ch (fun b => b = env.locals ∨ b = D) { s with heap := hh, toks := tt } t → (∀ b o, s.heap.get? b = some o → hh.get? b = some o) → ∀ b o, s.heap.get? b = some o → t.heap.get? b = some o :=
    fun c k b o e => c.get (ap b o e) (k b o e)
  obtain ⟨ep1, r1⟩ := raw_of h1
  obtain ⟨ep2, r2⟩ := raw_of h2
  obtain ⟨o1, ho1, _⟩ := id r1
  obtain ⟨o2, ho2, _⟩ := id r2
  refine wpAny_execs_cons (for_items (s := { s with heap := h₂, toks := _ }) hAh hk₀ (kd _ _ rfl) (kd _ _ rfl) hd1 (r1.at fun o e => k2 _ o e) hn₂ rfl rfl
    (fun Q' E' hq => nmL hn₂ rfl hq hk₀ (kd _ _ rfl)) (fun b => b = env.locals ∨ b = D) (.inl rfl) (ap _ _ ho1) (fun b hb => by rcases hb with rfl | rfl <;> assumption)
    (fun i m h => (m "source" = some (.ref d2) ∧ m "new_callers" = some (.ref D)) ∧ ∃ ep, Raw h D ((xs.take i).map (entryOfKey (tupleKind knd))).toArray ep) ⟨⟨rfl, rfl⟩, 0, hD2⟩
    (fun i m h h' ⟨a, ep, r⟩ k => ⟨a, ep, r.at fun o e => k D o hDlt hDL e⟩) ?_ ?_ (fun _ => rfl))
  · rintro i e m₁ s₁ E' he ⟨⟨m1, m2⟩, ep, r⟩ hn₃ hc
    obtain ⟨k, a, v, hi, ek, ev⟩ := entry_get he
    have kp := up hc k2
    rw [ek, ev] at hn₃
    have hz : (xs.take i).length ≤ sizeLine := by rw [List.length_take]; omega
    refine wpAny_execs_cons (store_new (K := K) (knd := knd) (zs := xs.take i) (k := k) (a := a) (v := v) hAu hn₃ (by walk_at "mm") (by walk_at "mm") (by walk_at "mm") (dict_of_raw r (fun x hx => tk_at (kx x (List.mem_of_mem_take hx)) fun o e => kp _ o e) ?_)
      (tk_at (kx _ (List.mem_of_getElem? hi)) fun o e => kp _ o e) (nodup_take_not nx hi) hz (fun h' tk hd' hs' => wpAny_execs_nil ⟨rfl, ⟨h', tk, rfl, fun b o hb e => hs'.extBut b o (fun q => hb (.inr q)) e⟩, ?_⟩) hk₀ (kd _ _ rfl) (kd _ _ rfl) (kd _ _ rfl))
    · exact (List.Sublist.map _ (List.take_sublist i xs)).nodup nx
    · obtain ⟨ep', r'⟩ := raw_of hd'
      rw [← take_snoc hi] at r'
      refine ⟨_, hn₃.sameBut hs' hDL.symm, ⟨?_, ?_⟩, ep', r'⟩
      · walk_at "mm"
      · walk_at "mm"
  intro s₁ m₁ hn₃ ⟨⟨m1, m2⟩, ep, r⟩ hc
  have hxs : (xs.map (entryOfKey (tupleKind knd))).toArray.size = xs.length := by rw [List.size_toArray, List.length_map]
  rw [hxs, List.take_length] at r
  have kp := up hc k2
  clear hD2 hn₂ 
  refine wpAny_execs_cons (for_items (s := s₁) hAh hk₀ (kd _ _ rfl) (kd _ _ rfl) hd2 (r2.at fun o e => kp _ o e) hn₃ rfl rfl
    (fun Q' E' hq => nmL hn₃ m1 hq hk₀ (kd _ _ rfl)) (fun b => b = env.locals ∨ b = D) (.inl rfl) (ap _ _ ho2) (fun b hb => hb.elim (fun q => q ▸ hn₃.lt) (fun q => q ▸ r.lt))
    (fun i m h => m "new_callers" = some (.ref D) ∧ ∃ ep, Raw h D ((xs ++ ys.take i).map (entryOfKey (tupleKind knd))).toArray ep) ⟨m2, ep, by rw [List.take_zero, List.append_nil]; exact r⟩
    (fun i m h h' ⟨a, ep, r'⟩ k => ⟨a, ep, r'.at fun o e => k D o r.lt hDL e⟩) ?_ ?_ (fun _ => rfl))
  · rintro i e m₂ s₂ E' he ⟨m4, ep, r4⟩ hn₄ hc₂
    obtain ⟨k, a, v, hi, ek, ev⟩ := entry_get he
    have kp2 : ∀ b o, s.heap.get? b = some o → s₂.heap.get? b = some o := fun b o e => hc₂.get (ap b o e) (kp b o e)
    rw [ek, ev] at hn₄
    have hz : (xs ++ ys.take i).length ≤ sizeLine := by rw [List.length_append, List.length_take]; omega
    have hsub : List.Sublist ((xs ++ ys.take i ++ [(k, a, v)]).map (fun x => x.1)) ((xs ++ ys).map (fun x => x.1)) := by
      rw [List.append_assoc, ← take_snoc hi]
      exact List.Sublist.map _ (List.Sublist.append (List.Sublist.refl _) (List.take_sublist _ _))
    have hnd := hsub.nodup hdis
    have hnew : k ∉ (xs ++ ys.take i).map (·.1) := by
      rw [List.map_append, List.nodup_append] at hnd
      exact fun hm => hnd.2.2 _ hm _ (by simp) rfl
    have hdict : s₂.heap.DictOfH (tupleKind knd) D (xs ++ ys.take i) := dict_of_raw r4 (fun x hx => by
        rcases List.mem_append.mp hx with q | q
        · exact tk_at (kx x q) fun o e => kp2 _ o e
        · exact tk_at (ky x (List.mem_of_mem_take q)) fun o e => kp2 _ o e) (by
        rw [List.map_append, List.nodup_append] at hnd
        exact hnd.1)
    refine wpAny_execs_cons (wpAny_If (wpAny_isTrue_Compare1 (nmL hn₄ (by walk_at "mm") (v := .ref a) (nmL hn₄ (by walk_at "mm") (v := .ref D)
      (wpAny_in_heap (knd := tupleKind knd) hAu (show (tupleKind knd).is s₂.heap k a from tk_at (ky _ (List.mem_of_getElem? hi)) fun o e => kp2 _ o e) ?_ hdict (wpAny_truthy_bool ?_)) hk₀ (kd _ _ rfl)) hk₀ (kd _ _ rfl))))
    · exact hDs
    rw [atKey_none hnew]
    show wpAny _ _ (execs _ _) _ _ _
    refine wpAny_execs_cons (store_new (s := { s₂ with toks := _ }) (K := K) (knd := knd) (zs := xs ++ ys.take i) (k := k) (a := a) (v := v) hAu hn₄ (by walk_at "mm") (by walk_at "mm") (by walk_at "mm") hdict
      (tk_at (ky _ (List.mem_of_getElem? hi)) fun o e => kp2 _ o e) hnew hz (fun h' tk hd' hs' => wpAny_execs_nil ?_) hk₀ (kd _ _ rfl) (kd _ _ rfl) (kd _ _ rfl))
    refine wpAny_execs_nil ⟨rfl, ⟨h', tk, rfl, fun b o hb e => hs'.extBut b o (fun q => hb (.inr q)) e⟩, ?_⟩
    obtain ⟨ep', r'⟩ := raw_of hd'
    rw [List.append_assoc, ← take_snoc hi] at r'
    refine ⟨_, hn₄.sameBut hs' hDL.symm, ?_, ep', r'⟩
    walk_at "mm"
  intro s₂ m₂ hn₄ ⟨m4, ep, r4⟩ hc₂
  have hys : (ys.map (entryOfKey (tupleKind knd))).toArray.size = ys.length := by rw [List.size_toArray, List.length_map]
  rw [hys, List.take_length] at r4
  have kp2 : ∀ b o, s.heap.get? b = some o → s₂.heap.get? b = some o := fun b o e => hc₂.get (ap b o e) (kp b o e)
  refine wpAny_execs_cons (wpAny_Return_some (nmL hn₄ m4 ?_ hk₀ (kd _ _ rfl)))
  obtain ⟨h', tk, q, _⟩ := hc.trans hc₂
  subst q
  exact hQ h' tk D kp2 hDl (dict_of_raw r4 (fun x hx => (List.mem_append.mp hx).elim (fun y => tk_at (kx x y) fun o e => kp2 _ o e) (fun y => tk_at (ky x y) fun o e => kp2 _ o e)) hdis)
end
end Gy
end

section
open PySem PySem.W PyProof.Rows
set_option maxRecDepth 100000
namespace Gy
local macro_rules | `(tactic| walk_at "mm") => `(tactic| first | rfl | assumption | (show (if _ = _ then _ else _) = _; repeat (first | rfl | assumption | rw [if_neg (by decide)])))
section
variable {prog : Program} {w : World} {K : Type} [DecidableEq K] {knd : KeyKind prog w K} {A : Around} {E : Value → Shared → Prop} {s : Shared} {env : Env} {m mg mb : Str → Option Value}

/-- for v in d.values(): the body turns old objects alone -/
theorem for_values {Q : Flow → Shared → Prop} {xv : Str} {pv pos apos cpos : Pos} {o : Expr} {body : List Stmt} {d : Addr} {es : Array DictEntry} {ep : Nat}
    (hh : A.handled = none) (hk : env.scope.kind = .function) (hxv : env.kindOf xv = some .local) (hdS : (d == sysModules) = false) (hm : Raw s.heap d es ep) (hn : s.heap.Ns env.locals m)
    (hbase : attributeBase o "values" env (eval o env) = eval o env) (hline : (apos.endLine == cpos.line) = true)
    (ho : ∀ Q' E, Q' (.ref d) s → wpAny (model prog w) A (eval o env) Q' E s)
    (W : Addr → Prop) (hWL : W env.locals) (hWd : ¬ W d) (hWo : ∀ b, W b → b < s.heap.objs.size) (J : Nat → (Str → Option Value) → Heap → Prop) (h0 : J 0 m s.heap)
    (jst : ∀ i m h h', J i m h → (∀ b o, b < s.heap.objs.size → b ≠ env.locals → h.get? b = some o → h'.get? b = some o) → J i m h')
    (step : ∀ i e m₁ s₁ (E : Value → Shared → Prop), es[i]? = some e → J i m₁ s₁.heap → s₁.heap.Ns env.locals (fun y => if y = xv then some e.val else m₁ y) → Ch W s s₁ →
      wpAny (model prog w) A (execs body env) (fun f s₂ => f = .next ∧ Ch W s₁ s₂ ∧ ∃ m₂, s₂.heap.Ns env.locals m₂ ∧ J (i + 1) m₂ s₂.heap) E s₁)
    (fin : ∀ s' m', s'.heap.Ns env.locals m' → J es.size m' s'.heap → Ch W s s' → Q .next s')
    (hs : ∀ x, foldedSetIterable (.Call (.Attribute o "values" apos) [] [] cpos) env x = pure x := by intro _; rfl) :
    wpAny (model prog w) A (exec (.For (.Name xv pv) (.Call (.Attribute o "values" apos) [] [] cpos) body [] pos) env) Q E s := by
  refine wpAny_For (eval_values hdS hm hbase hline (fun Q' hq => ho Q' _ hq) ?_) hs
  have hp : (env.scope.kind == .class || (env.scope.kind == .module && env.locals != env.globals)) = false := by rw [hk]; rfl
  have sz1 : (s.heap.push { cls := .type "dict_values", data := .fields #[.ref d] }).objs.size = s.heap.objs.size + 1 := Heap.size_push ..
  refine pyIter_values_raw (d := d) (es := es) (ep := ep) ⟨_, Heap.get?_push_size _ rfl, rfl, rfl⟩ (hm.at fun o e => Heap.get?_push_of_some _ e) ?_
  dsimp only
  rw [sz1]
  have kk : ∀ b o', s.heap.get? b = some o' → ((s.heap.push { cls := .type "dict_values", data := .fields #[.ref d] }).push { cls := .type "dict_valueiterator", data := .fields #[.ref d, .int 0 0, .int es.size 0, .int ep 0] }).get? b = some o' :=
    fun b o' e => Heap.get?_push_of_some _ (Heap.get?_push_of_some _ e)
  have hit : Heap.IsValIter ((s.heap.push { cls := .type "dict_values", data := .fields #[.ref d] }).push { cls := .type "dict_valueiterator", data := .fields #[.ref d, .int 0 0, .int es.size 0, .int ep 0] }) (s.heap.objs.size + 1) d 0 es.size ep := by
    rw [← sz1]; exact ⟨_, Heap.get?_push_size _ rfl, rfl, rfl⟩
  generalize ((s.heap.push { cls := .type "dict_values", data := .fields #[.ref d] }).push { cls := .type "dict_valueiterator", data := .fields #[.ref d, .int 0 0, .int es.size 0, .int ep 0] }) = H2 at kk hit
  have hdlt : @LT.lt Nat _ d s.heap.objs.size := hm.lt
  have hLlt : @LT.lt Nat _ env.locals s.heap.objs.size := hn.lt
  have hne : @Ne Nat d (s.heap.objs.size + 1) := by omega
  have hLne : @Ne Nat env.locals (s.heap.objs.size + 1) := by omega
  have c0 : Ch W s { s with heap := H2 } := ⟨H2, s.toks, rfl, fun b o _ e => kk b o e⟩
  have back : ∀ s', Ch (fun b => W b ∨ b = s.heap.objs.size + 1) { s with heap := H2 } s' → Ch W s s' := fun s' c =>
    (show Ch (fun b => W b ∨ b = s.heap.objs.size + 1) s s' from (c0.mono fun _ => .inl).trans c).shrink fun y o e h => h.elim id fun (q : @Eq Nat y (s.heap.objs.size + 1)) => by
      have : @LT.lt Nat _ y s.heap.objs.size := Heap.lt_size e
      omega
  refine forLoop_core (s := { s with heap := H2 }) (itr_values hh (s.heap.objs.size + 1) d hne es ep _ _) W (fun i h => ∃ m, h.Ns env.locals m ∧ J i m h) ?_ ⟨hit, hm.at fun o e => kk d o e⟩
    ⟨m, hn.keeps kk, jst _ _ _ _ h0 fun b o _ _ e => kk b o e⟩ ?_ ?_ ?_
  · rintro b (rfl | rfl) hb
    · have : @LT.lt Nat _ (s.heap.objs.size + 1) s.heap.objs.size := hWo _ hb
      omega
    · exact hWd hb
  · rintro i h h' ⟨m₁, hn₁, hj⟩ _ kp
    exact ⟨m₁, hn₁.at' fun o e => kp _ o hLne e, jst _ _ _ _ hj fun b o (hb : @LT.lt Nat _ b s.heap.objs.size) _ e => kp b o (show @Ne Nat b (s.heap.objs.size + 1) by omega) e⟩
  · rintro i v s₁ E' hi ⟨e, he, rfl⟩ ⟨m₁, hn₁, hj⟩ hc₁
    refine wpAny_assign_Name (wpAny_storeName_local hxv hn₁ (fun h₅ hn₅ hs₅ => ?_) hp)
    replace hs₅ : Heap.SameBut env.locals s₁.heap h₅ := hs₅
    have k₅ : ∀ b o, b ≠ env.locals → s₁.heap.get? b = some o → h₅.get? b = some o := fun b o hb x => hs₅.extBut b o hb x
    have c₅ : Ch W s₁ { s₁ with heap := h₅, toks := s₁.toks + 1 } := ⟨h₅, _, rfl, fun b o hb x => k₅ b o (fun q => hb (q ▸ hWL)) x⟩
    refine wpAny_mono (step i e m₁ _ E' he (jst _ _ _ _ hj fun b o _ hb x => k₅ b o hb x) hn₅ ((back _ hc₁).trans c₅)) (fun f s₂ h₂ => ?_) fun _ _ x => x
    obtain ⟨rfl, hc₂, m₂, hn₂, hj₂⟩ := h₂
    exact ⟨rfl, c₅.trans hc₂, m₂, hn₂, hj₂⟩
  · rintro s' ⟨m', hn', hj⟩ hc
    exact fin s' m' hn' hj (back s' hc)

set_option maxHeartbeats 1000000 in
theorem count_calls_call {f d : Addr} {xs : List (List K × Addr × Value)} {Q : Value → Shared → Prop} (hd : A.depth < recursionLimit) (hh : A.handled = none)
    (hF : FnIs s.heap f 2) (B : Base s.heap mg mb) (h1 : s.heap.DictOfH (tupleKind knd) d xs) (hdS : (d == sysModules) = false) (hv : ∀ x ∈ xs, ∃ t, x.2.2 = .int 1 t)
    (hQ : ∀ h' tk t, (∀ b o, s.heap.get? b = some o → h'.get? b = some o) → Q (.int xs.length t) { s with heap := h', toks := tk }) :
    wpAny (model prog w) A (call (.ref f) [.ref d]) Q E s := by
  refine call_fn (binds := [("callers", .ref d)]) hd hF B (fun fd e1 e2 e3 => ?_) (fun fd h₀ es eg eb hn hk => ?_)
  · obtain ⟨name, qualname, params, body, scope, globals, closure, defaults, kwdefaults, doc, pyModule, annotations, code, closureTuple, builtins⟩ := fd
    dsimp only at e1 e2 e3
    subst e1 e2 e3
    rfl
  obtain ⟨name, qualname, params, body, scope, globals, closure, defaults, kwdefaults, doc, pyModule, annotations, code, closureTuple, builtins⟩ := fd
  dsimp only at es eg eb
  subst es eg eb
  generalize hfd : (FuncData.mk name qualname params body (fS 2) mainGlobals closure defaults kwdefaults doc pyModule annotations code closureTuple builtinsNs) = fd
  have hsc : fd.scope = fS 2 := by rw [← hfd]
  have hL : (callEnv fd s.heap.objs.size f).locals = s.heap.objs.size := rfl
  generalize henv : callEnv fd s.heap.objs.size f = env at hL
  have hS : env.scope = fS 2 := by rw [← henv]; exact hsc
  rw [← hL] at hn
  conv => arg 3; arg 1; whnf
  have hk₀ : env.scope.kind = .function := by rw [hS]; rfl
  have kd : ∀ x k, (fS 2).names.lookup x = some k → env.kindOf x = some k := fun x k e => by unfold Env.kindOf; rw [hS]; exact e
  have hLn : s.heap.get? env.locals = none := by
    cases q : s.heap.get? env.locals with
    | none => rfl
    | some o => exact absurd (Heap.lt_size q) (by rw [hL]; exact Nat.lt_irrefl _)
  have hAh : (A.deeper env).handled = none := hh
  obtain ⟨kx, nx⟩ := keys_of h1
  refine wpAny_execs_cons (wpAny_Assign_Name (wpAny_Constant_int ?_))
  refine stL hn (fun h₂ hn₂ hs₂ => ?_) hk₀ (kd _ _ rfl)
  replace hs₂ : Heap.SameBut env.locals h₀ h₂ := hs₂
  have ap : ∀ a o, s.heap.get? a = some o → ¬ (a = env.locals) := fun a o e q => by
    rw [q, hLn] at e; cases e
  have k2 : ∀ b o, s.heap.get? b = some o → h₂.get? b = some o := fun b o e => hs₂.extBut b o (ap b o e) (hk b o e)
  obtain ⟨ep1, r1⟩ := raw_of h1
  obtain ⟨o1, ho1, _⟩ := id r1
  refine wpAny_execs_cons (for_values (s := { s with heap := h₂, toks := _ }) hAh hk₀ (kd _ _ rfl) hdS (r1.at fun o e => k2 _ o e) hn₂ rfl rfl
    (fun Q' E' hq => nmL hn₂ rfl hq hk₀ (kd _ _ rfl)) (fun b => b = env.locals) rfl (ap _ _ ho1) (fun b hb => hb ▸ hn₂.lt)
    (fun i m h => ∃ t, m "nc" = some (.int i t)) ⟨_, rfl⟩ (fun i m h h' a k => a) ?_ ?_ (fun _ => rfl))
  · rintro i e m₁ s₁ E' he ⟨t, m1⟩ hn₃ hc
    obtain ⟨k, a, v, hi, ek, ev⟩ := entry_get he
    obtain ⟨u, hu⟩ := hv _ (List.mem_of_getElem? hi)
    dsimp only at hu
    rw [ev, hu] at hn₃
    refine wpAny_execs_cons (wpAny_AugAssign_Name (wpAny_loadName_local hk₀ (kd _ _ rfl) hn₃ (v := .int i t) (by walk_at "mm") (nmL hn₃ (v := .int 1 u) (by walk_at "mm")
      (wpAny_iadd_int (stL hn₃ (fun h' hn' hs' => wpAny_execs_nil ⟨rfl, ⟨h', _, rfl, fun b o hb e => hs'.extBut b o hb e⟩, _, hn', _, rfl⟩) hk₀ (kd _ _ rfl))) hk₀ (kd _ _ rfl))))
  intro s₂ m₂ hn₄ ⟨t, m4⟩ hc₂
  have hxs : (xs.map (entryOfKey (tupleKind knd))).toArray.size = xs.length := by rw [List.size_toArray, List.length_map]
  rw [hxs] at m4
  have kp2 : ∀ b o, s.heap.get? b = some o → s₂.heap.get? b = some o := fun b o e => hc₂.get (ap b o e) (k2 b o e)
  refine wpAny_execs_cons (wpAny_Return_some (nmL hn₄ m4 ?_ hk₀ (kd _ _ rfl)))
  obtain ⟨h', tk, q, _⟩ := hc₂
  subst q
  exact hQ h' tk t kp2
end
end Gy
end

section
open PySem PySem.W PySem.Calls PyProof.Rows
set_option maxRecDepth 100000
namespace Gy

/-- a def without cells is entered over the ledger; the caller's own post is kept as it stands -/
theorem dm_enter {prog : Program} {w : World} {A₀ A : Around} {E : Value → Shared → Prop} {s : Shared} {base h₀ : Heap} {outer : List Env} {L : Addr} {m : Str → Option Value} {env : Env} {news : List (Addr × Obj)}
    {K : Frag} {p : Program} {loose : List Str} {mean : ExcName → Option Value} {mg mb : Str → Option Value} {Q : Value → Shared → Prop} {name qual : Str} {params : Arguments} {body : List Stmt} {scope : Scope} {dV kV doc pm cdv ct oc : Value} {an od : Option Addr} {osl : Array (Option Value)} {f : Addr} {args : List Value} {binds : List (Str × Value)}
    (B : Below A₀ base outer h₀) (F : Fr h₀ L s.heap m) (X₀ : K.In h₀) (N : News h₀ L s.heap news) (T : Top p loose mean mg mb h₀) (hA : A.frames = some (env :: outer)) (hf : env.frame = some L) (hke : env.scope.kind = .function)
    (ho : K.lookup f = some ⟨oc, od, .func (fnOf name qual params body scope dV kV doc pm an cdv ct), osl⟩) (hcd : codeIn K cdv qual = true) (hroom : A.depth < recursionLimit)
    (hbind : BindsTo s (fnOf name qual params body scope dV kV doc pm an cdv ct) ⟨args, []⟩ binds) (hloc : ∀ y ∈ binds, scope.names.lookup y.1 = some .local)
    (h : ∀ g L' h₁, Fr g L' h₁ (fun y => binds.reverse.lookup y) → News g L' h₁ news → Below A base (env :: outer) g → K.In g → Top p loose mean mg mb g → GSub s.heap g (news.map (·.1)) → (∀ q ∈ news, q.1 < L') → s.heap.objs.size ≤ L' →
      wpAny (model prog w) (A.deeper (envOf qual scope L' f cdv)) (execs body (envOf qual scope L' f cdv))
        (fun fl s' => Q (match fl with | .ret v => v | _ => .none) s') (fun _ _ => False)
        { s with heap := h₁, toks := s.toks + binds.length })
    (hco : scope.isCoroutine = false) (hgen : scope.isGenerator = false) (hk : scope.kind = .function)
    (hcell : ∀ x ∈ scope.names, x.2 ≠ .cell) : wpAny (model prog w) A (call (.ref f) args) Q E s := by
  obtain ⟨FG, BG, st, lv⟩ := groundX (R := fun _ _ => True) B F N hA hf hke
  refine wpAny_call (codeAny_call_def (fd := fnX name qual params body scope [] dV kV doc pm an cdv ct) (body := body) (binds := binds) hroom ((X₀.keeps F.keep) _ _ ho) rfl (T.nolimit.keeps F.keep) (codeRec_of (X₀.keeps F.keep) hcd) rfl hbind hcell hloc (fun h₁ hns hk₁ => ?_) hco hgen hk)
  exact wpAny_mono (h _ s.heap.objs.size h₁ ⟨hns, fun b o e => hk₁ b o (of_hideAll _ e), Nat.le_of_eq (hideAll_size _ _)⟩
    (fun p hp => ⟨hk₁ _ _ (N p hp).1, Nat.ne_of_lt (Heap.lt_size (N p hp).1), hideAll_none _ (List.mem_map_of_mem hp)⟩) BG (X₀.keeps st) (T.keeps st) (fun b o e n => hideAll_get _ e n) (fun q hq => Heap.lt_size (N q hq).1) (Nat.le_refl _)) (fun fl s' hl => hl) fun _ _ y => y.elim

abbrev pairObj (q r : Int) (t u : Tok) : Obj := { cls := .type "tuple", data := .seq #[.int q t, .int r u] }
/-- the two tables of codes after the first call: each tells where its inner def's code stands -/
inductive Grown (h G : Heap) (L : Addr) : Prop
  | mk (c d : Addr) (oc od : Obj) (vc vd : Array Value) (tc td : Tok) (e44 : h.get? 44 = some (tabObj #[rawInt 51, rawInt 4, .ref c])) (e51 : h.get? 51 = some (tabObj #[rawInt 66, rawInt 4, .ref d]))
    (ec : h.get? c = some oc) (ed : h.get? d = some od) (r1 : oc.data = .fields vc) (r2 : vc[1]? = some (.str (Str.ofString "_int2digits.<locals>.inner") tc)) (r3 : od.data = .fields vd) (r4 : vd[1]? = some (.str (Str.ofString "_digits2int.<locals>.inner") td))
    (r5 : G.get? c = none ∧ c ≠ L ∧ G.get? d = none ∧ d ≠ L) (r6 : @LT.lt Nat _ 51 c ∧ @LT.lt Nat _ 44 c ∧ @LT.lt Nat _ c d) : Grown h G L
/-- what int_divmod(a, b) is asked for: old objects but the tables stay, the tables are grown after it -/
def DmPost (s s'' : Shared) (G : Heap) (L : Addr) (r : Int) (D : Addr) : Prop :=
  (∃ h tk, s'' = { s with heap := h, toks := tk }) ∧ (∀ b o, b ≠ 51 → b ≠ 44 → s.heap.get? b = some o → s''.heap.get? b = some o) ∧ (∃ q t u, s''.heap.get? D = some (pairObj q r t u)) ∧ Grown s''.heap G L


theorem bits_table : ∀ x : Fin 256, (1 : Int) ≤ (x.val : Int) → (1 : Int) ≤ ((Builtin.Int.intBits (x.val : Int) : Nat) : Int) ∧ ((Builtin.Int.intBits (x.val : Int) : Nat) : Int) ≤ 20 ∧ ((x.val : Int) < 8 → ((Builtin.Int.intBits (x.val : Int) : Nat) : Int) ≤ 3) ∧ ((x.val : Int) < 16 → ((Builtin.Int.intBits (x.val : Int) : Nat) : Int) ≤ 4) ∧
    ((8 : Int) ≤ (x.val : Int) → (4 : Int) ≤ ((Builtin.Int.intBits (x.val : Int) : Nat) : Int)) ∧ ((16 : Int) ≤ (x.val : Int) → (5 : Int) ≤ ((Builtin.Int.intBits (x.val : Int) : Nat) : Int)) ∧ ((x.val : Int) < 64 → ((Builtin.Int.intBits (x.val : Int) : Nat) : Int) ≤ 6) ∧ ((x.val : Int) < 128 → ((Builtin.Int.intBits (x.val : Int) : Nat) : Int) ≤ 7) := by decide +kernel
theorem bits_between (a : Int) (h1 : 1 ≤ a) (h2 : a < 256) : ∃ n : Int, ((Builtin.Int.intBits a : Nat) : Int) = n ∧ 1 ≤ n ∧ n ≤ 20 ∧ (a < 8 → n ≤ 3) ∧ (a < 16 → n ≤ 4) ∧ (8 ≤ a → 4 ≤ n) ∧ (16 ≤ a → 5 ≤ n) ∧ (a < 64 → n ≤ 6) ∧ (a < 128 → n ≤ 7) := by
  obtain ⟨k, rfl⟩ : ∃ k : Nat, a = k := ⟨a.toNat, by omega⟩
  exact ⟨_, rfl, bits_table ⟨k, by omega⟩ h1⟩

section
variable {prog : Program} {w : World} {A : Around} {E : Value → Shared → Prop} {s : Shared} {Q : Value → Shared → Prop} {a b n : Int} {t u : Tok}
theorem bl (c : Int) (h : ((Builtin.Int.intBits a : Nat) : Int) = c) (hQ : Q (.int c s.toks) { s with toks := s.toks + 1 }) :
    wpAny (model prog w) A (call (.builtin "int.bit_length") [.int a t]) Q E s := call_int_bit_length (by rw [h]; exact hQ)
theorem blS (h1 : 0 ≤ a) (h2 : a < 256) (h : ∀ n : Int, 0 ≤ n → n ≤ 20 → (1 ≤ a → 1 ≤ n) → (a < 8 → n ≤ 3) → (a < 16 → n ≤ 4) → (8 ≤ a → 4 ≤ n) → (16 ≤ a → 5 ≤ n) → (a < 64 → n ≤ 6) → (a < 128 → n ≤ 7) → Q (.int n s.toks) { s with toks := s.toks + 1 }) :
    wpAny (model prog w) A (call (.builtin "int.bit_length") [.int a t]) Q E s := by
  by_cases h0 : a = 0
  · refine bl 0 (by rw [h0]; decide) (h 0 (by omega) (by omega) ?_ ?_ ?_ ?_ ?_ ?_ ?_) <;> intro _ <;> omega
  · obtain ⟨n, e, b1, b2, c1, c2, c3, c4, c5, c6⟩ := bits_between a (by omega) h2
    exact bl n e (h n (by omega) b2 (fun _ => b1) c1 c2 c3 c4 c5 c6)
theorem ml {v : Value} {op : Operator} (c : Int) (h : a = c) (hQ : wpAny (model prog w) A (binaryOp op v (.int c t)) Q E s) :
    wpAny (model prog w) A (binaryOp op v (.int a t)) Q E s := h ▸ hQ
theorem rsh (k m : Int) (h0 : 0 ≤ a) (hn : n = k) (hk : 0 ≤ k) (hm : (2 : Int) ^ k.toNat = m) (h : ∀ z, z = a / m → Q (.int z s.toks) { s with toks := s.toks + 1 }) : wpAny (model prog w) A (binaryOp .RShift (.int a t) (.int n u)) Q E s := by
  subst hn
  refine rshift_int hk ?_
  rw [hm]
  have hm0 : 0 ≤ m := by rw [← hm]; exact Int.le_of_lt (Int.pow_pos (by decide))
  exact h _ (Int.fdiv_eq_ediv_of_nonneg _ hm0)
theorem lsh (k m : Int) (h0 : 0 ≤ a) (h1 : a < 2 ^ 20) (hn : n = k) (hk : 0 ≤ k) (hk2 : k ≤ 1000000) (hm : (2 : Int) ^ k.toNat = m) (h : ∀ z, z = a * m → Q (.int z s.toks) { s with toks := s.toks + 1 }) : wpAny (model prog w) A (binaryOp .LShift (.int a t) (.int n u)) Q E s := by
  subst hn
  refine lshift_int_small hk hk2 (by omega) ?_
  rw [hm]
  exact h _ rfl
theorem fdv (m : Int) (h0 : 0 ≤ a) (h1 : a < 2 ^ 20) (hn : b = m) (hm : 0 < m) (hm2 : m < 2 ^ 20) (h : ∀ z, z = a / m → Q (.int z s.toks) { s with toks := s.toks + 1 }) : wpAny (model prog w) A (binaryOp .FloorDiv (.int a t) (.int b u)) Q E s := by
  subst hn
  refine floordiv_int (by omega) ?_ (.inl (PyProof.noPylong_small (by omega)))
  exact h _ (Int.fdiv_eq_ediv_of_nonneg _ (by omega))
theorem xor_table : ∀ x : Fin 128, Builtin.bitXor (x.val : Int) ((x.val : Int) / 8 * 8) = (x.val : Int) % 8 ∧ Builtin.bitXor (x.val : Int) ((x.val : Int) / 16 * 16) = (x.val : Int) % 16 := by decide +kernel
theorem xorS (m : Int) (hm : m = 8 ∨ m = 16) (h0 : 0 ≤ a) (h1 : a < 128) (hb : b = a / m * m) (h : ∀ z, z = a % m → Q (.int z s.toks) { s with toks := s.toks + 1 }) : wpAny (model prog w) A (binaryOp .BitXor (.int a t) (.int b u)) Q E s := by
  subst hb
  refine xor_int ?_
  refine h _ ?_
  have := xor_table ⟨a.toNat, by omega⟩
  simp only [Int.toNat_of_nonneg h0] at this
  rcases hm with rfl | rfl
  · exact this.1
  · exact this.2
theorem divmod_S {h₀ : Heap} {L : Addr} {m : Str → Option Value} {news : List (Addr × Obj)} (c : Int) (hb : b = c) (hc : 0 < c) (hc2 : c < 2 ^ 20) (h0 : 0 ≤ a) (h1 : a < 2 ^ 20) (F : Fr h₀ L s.heap m) (N : News h₀ L s.heap news)
    (h : ∀ q r D h', q = a / c → r = a % c → Fr h₀ L h' m → News h₀ L h' ((D, { cls := .type "tuple", data := .seq #[.int q s.toks, .int r (s.toks + 1)] }) :: news) → (∀ p ∈ news, p.1 < D) → Q (.ref D) { s with toks := s.toks + 1 + 1, heap := h' }) :
    wpAny (model prog w) A (call (.builtin "divmod") [.int a t, .int b u]) Q E s := by
  subst hb
  exact divmod_N F N (by omega) (fun h' F' N' => h _ _ _ h' (Int.fdiv_eq_ediv_of_nonneg _ (by omega)) (Int.fmod_eq_emod_of_nonneg _ (by omega)) F' N' fun p hp => Heap.lt_size (N p hp).1) (.inl (PyProof.noPylong_small (by omega)))
end


theorem truthy_pos {prog : Program} {w : World} {A : Around} {E : Value → Shared → Prop} {s : Shared} {Q : Bool → Shared → Prop} {a : Int} {t : Tok} (h : 0 < a) (hQ : Q true s) : wpAny (model prog w) A (truthy (.int a t)) Q E s := by
  refine truthy_int ?_
  have : (a != 0) = true := by rw [bne_iff_ne]; omega
  rw [this]; exact hQ

/-- int_divmod(a, b) while no code of an inner def has been made, and after -/
def DmE (prog : Program) (w : World) (A : Around) (G : Heap) (L : Addr) (b lo hi : Int) : Prop := ∀ (s : Shared) (m : Str → Option Value) (R : Value → Shared → Prop) (E : Value → Shared → Prop) (a : Int) (t u : Tok),
  Fr G L s.heap m → News G L s.heap [(51, tabObj #[]), (44, tabObj #[])] → lo ≤ a → a < hi → (∀ s'' D, DmPost s s'' G L (a % b) D → R (.ref D) s'') → wpAny (model prog w) A (call (.ref 70) [.int a t, .int b u]) R E s
def DmH (prog : Program) (w : World) (A : Around) (G : Heap) (L : Addr) (b lo hi : Int) : Prop := ∀ (s : Shared) (m : Str → Option Value) (R : Value → Shared → Prop) (E : Value → Shared → Prop) (a : Int) (t u : Tok) (c d : Addr) (oc od : Obj) (vc vd : Array Value) (tc td : Tok),
  Fr G L s.heap m → News G L s.heap [(d, od), (c, oc), (51, tabObj #[rawInt 66, rawInt 4, .ref d]), (44, tabObj #[rawInt 51, rawInt 4, .ref c])] →
  oc.data = .fields vc → vc[1]? = some (.str (Str.ofString "_int2digits.<locals>.inner") tc) → od.data = .fields vd → vd[1]? = some (.str (Str.ofString "_digits2int.<locals>.inner") td) → @LT.lt Nat _ 51 c ∧ @LT.lt Nat _ 44 c ∧ @LT.lt Nat _ c d →
  lo ≤ a → a < hi → (∀ s'' D, DmPost s s'' G L (a % b) D → R (.ref D) s'') → wpAny (model prog w) A (call (.ref 70) [.int a t, .int b u]) R E s

theorem none_of {G g : Heap} {c : Addr} (h : g.get? c = none) (st : G.StaysIn g) : G.get? c = none := by
  cases q : G.get? c with
  | none => rfl
  | some o => rw [st c o q] at h; cases h
theorem ne_of {G h g : Heap} {L c : Addr} {m : Str → Option Value} {ad : List Addr} (e : g.get? c = none) (F : Fr G L h m) (GS : GSub h g ad) (hL : L ∉ ad) : c ≠ L := fun q => by
  obtain ⟨o, es, ep, ho, _⟩ := F.ns
  rw [q, GS L o ho hL] at e; cases e
theorem dm_fin {s : Shared} {L L9 : Addr} {G g9 h : Heap} {m₀ : Str → Option Value} {tk : Nat} {m : Str → Option Value} {ad : List Addr} {news : List (Addr × Obj)} {c d : Addr} {oc od : Obj} {vc vd : Array Value} {tc td : Tok} {D : Addr} {q r r' : Int} {t u : Tok} {R : Value → Shared → Prop}
    (hR : ∀ s'' D, DmPost s s'' G L r D → R (.ref D) s'') (GS : GSub s.heap g9 ad) (had : ∀ b ∈ ad, b = 51 ∨ b = 44 ∨ (∃ o, (b, o) ∈ news ∧ s.heap.get? b = some o)) (F : Fr g9 L9 h m) (N : News g9 L9 h news) (mD : (D, pairObj q r' t u) ∈ news) (hr : r' = r)
    (m44 : (44, tabObj #[rawInt 51, rawInt 4, .ref c]) ∈ news) (m51 : (51, tabObj #[rawInt 66, rawInt 4, .ref d]) ∈ news) (mc : (c, oc) ∈ news) (md : (d, od) ∈ news) (e1 : oc.data = .fields vc) (e2 : vc[1]? = some (.str (Str.ofString "_int2digits.<locals>.inner") tc))
    (e3 : od.data = .fields vd) (e4 : vd[1]? = some (.str (Str.ofString "_digits2int.<locals>.inner") td)) (lc : @LT.lt Nat _ 51 c ∧ @LT.lt Nat _ 44 c ∧ @LT.lt Nat _ c d) (st : G.StaysIn g9) (F₀ : Fr G L s.heap m₀) (hL : L ∉ ad) : R (.ref D) { s with heap := h, toks := tk } := by
  subst hr
  refine hR _ _ ⟨⟨_, _, rfl⟩, fun b o n1 n2 e => ?_, ⟨_, _, _, (N _ mD).1⟩, c, d, oc, od, vc, vd, tc, td, (N _ m44).1, (N _ m51).1, (N _ mc).1, (N _ md).1, e1, e2, e3, e4, ⟨?_, ?_, ?_, ?_⟩, lc⟩
  rotate_left
  · exact none_of (N _ mc).2.2 st
  · exact ne_of (N _ mc).2.2 F₀ GS hL
  · exact none_of (N _ md).2.2 st
  · exact ne_of (N _ md).2.2 F₀ GS hL
  by_cases hb : b ∈ ad
  · rcases had b hb with q | q | ⟨o', q1, q2⟩
    · exact absurd q n1
    · exact absurd q n2
    · rw [e] at q2; cases q2
      exact (N _ q1).1
  · exact F.keep b o (GS b o e hb)

end Gy
end

section
open PySem PySem.W PySem.Calls PyProof.Rows
set_option maxRecDepth 100000
namespace Gy
/-- an exact list with nothing beside it -/
abbrev lst (vs : Array Value) (n : Nat) : Obj := { cls := .type "list", data := .seq vs n }
theorem miss_keys : typeLookup (.type "list") "keys" = pure none := by rw [typeLookup_type, builtinLookup_eq_fast]; kernel_rfl
theorem entry_upd_loop : entryFor table "dict.update.loop" = some Builtin.«dict.update.loop» := entryFor_of_tree (by kernel_rfl)
theorem quiet_upd (args : Args) : (Code.builtin "dict.update.loop" args).quiet = true := Code.quiet_builtin _ (by decide +kernel)
section
variable {prog : Program} {w : World} {A : Around} {E : Value → Shared → Prop} {s : Shared}
theorem keys_miss_list {l : Addr} {vs : Array Value} {n : Nat} {Q : Option Value → Shared → Prop} (hl : s.heap.get? l = some (lst vs n)) (hA : A.handled = none)
    (h : ∀ h' tk, (∀ b o, s.heap.get? b = some o → h'.get? b = some o) → Q none { s with heap := h', toks := tk }) :
    wpAny (model prog w) A (getAttr? (.ref l) "keys") Q E s := by
  obtain ⟨hp, g, d, tk, os⟩ := s
  have hT : ∀ tk', (⟨hp, g, d, tk', os⟩ : Shared).TypeIs (.ref l) "list" := fun _ => ⟨_, hl, rfl⟩
  have f1 := sub_AttributeError
  have f3 := F.slot_list_getattribute.lookup
  have f4 := F.slot_list_getattribute.bind (.ref l)
  have f5 := am_list_getattr_none
  unfold getAttr? getAttrBy? getAttrBy
  repeat (any_goals (first | assumption | exact hT _ | ((with_reducible show wpAny _ _ (call (Value.builtin "list.__getattribute__") _ _) _ _ _); refine call_meets F.slot_list_getattribute (hT _) am_entry_list_getattribute (F.args_list_getattribute_2 _ _) (meets_getattribute_miss_list l vs n _ _ _ miss_keys (by decide +kernel)) ⟨hl, hA, fun h' tk' e hx' => ?_⟩) | wp_step))
  obtain ⟨t', u', he⟩ := hx'.there
  show wpAny _ _ (getattributeRaised _ _ _ _ _ _ _) _ _ _
  unfold getattributeRaised
  repeat (any_goals (first | assumption | wp_step))
  exact h _ _ hx'.keeps

theorem pairItems_tuple {T : Addr} {a b : Value} {Q : List Value → Shared → Prop} (hT : s.heap.IsTuple T #[a, b]) (h : Q [a, b] s) : wpAny (model prog w) A (Builtin.Dict.pairItems (.ref T)) Q E s := by
  obtain ⟨o, ho, hc, n, hd⟩ := id hT
  have hty : s.TypeIs (.ref T) "tuple" := ⟨_, ho, hc⟩
  unfold Builtin.Dict.pairItems
  refine wpAny_bind (wpAny_typeOf hty ?_)
  rw [if_pos (by decide)]
  refine wpAny_bind (wpAny_seqItems ho hd ?_)
  exact wpAny_pure h

/-- dict.update's own loop over a list of pairs; the maker of the dict says what each store does -/
theorem upd_loop {R : Result → Shared → Prop} {D it l : Addr} {vs : Array Value} {n : Nat} {base : Heap} (hh : A.handled = none) (J : Nat → Heap → Prop) (hDb : base.get? it = none) (hDit : D ≠ it)
    (hl : base.get? l = some (lst vs n)) (hlD : l ≠ D)
    (jst : ∀ i h h', J i h → (∀ b o, b ≠ it → h.get? b = some o → h'.get? b = some o) → J i h')
    (step : ∀ i (s₁ : Shared) (E : Value → Shared → Prop), i < vs.size → J i s₁.heap → (∀ b o, b ≠ D → base.get? b = some o → s₁.heap.get? b = some o) →
      ∃ T k v, vs[i]? = some (.ref T) ∧ s₁.heap.IsTuple T #[k, v] ∧ ∀ args, wpAny (model prog w) (A.under (.builtin "dict.update.loop" args)) (dictSet D k v) (fun _ s₂ => (∃ h' tk, s₂ = { s₁ with heap := h', toks := tk } ∧ Heap.SameBut D s₁.heap h') ∧ J (i + 1) s₂.heap) E s₁)
    (fin : ∀ (s' : Shared), J vs.size s'.heap → (∃ h' tk, s' = { s with heap := h', toks := tk }) → (∀ b o, b ≠ D → base.get? b = some o → s'.heap.get? b = some o) → R (.ok (.ret .none)) s') :
    ∀ m i (s' : Shared), m + i = vs.size → (∃ h' tk, s' = { s with heap := h', toks := tk }) → J i s'.heap → s'.heap.IsListIter it l i → (∀ b o, b ≠ D → base.get? b = some o → s'.heap.get? b = some o) →
      codeAny (model prog w) A (.builtin "dict.update.loop" ⟨[.ref D, .ref it, rawInt i, .none], []⟩) R s' := by
  intro m
  induction m with
  | zero =>
    rintro i s' hi hs' hJ hit hk
    refine codeAny_builtin entry_upd_loop ?_
    unfold Builtin.«dict.update.loop»
    have hlit : l ≠ it := by rintro rfl; rw [hDb] at hl; cases hl
    have hin : i = vs.size := by omega
    subst hin
    refine wpAny_bind (wpAny_pyNext_list_end (items := vs) hh hit ⟨_, hk l _ hlD hl, rfl, n, rfl⟩ (by simp) fun h₂ hx₂ => ?_)
    replace hx₂ : Heap.ExtBut it s'.heap h₂ := hx₂
    refine wpAny_bind (wpAny_pure ?_)
    refine wpAny_pure (fin _ (jst _ _ _ hJ fun b o hb e => hx₂ b o hb e) ?_ fun b o hb e => hx₂ b o (by rintro rfl; rw [hDb] at e; cases e) (hk b o hb e))
    obtain ⟨h', tk, rfl⟩ := hs'
    exact ⟨_, _, rfl⟩
  | succ m ih =>
    rintro i s' hi hs' hJ hit hk
    refine codeAny_builtin entry_upd_loop ?_
    unfold Builtin.«dict.update.loop»
    have hlit : l ≠ it := by rintro rfl; rw [hDb] at hl; cases hl
    have hlt : i < vs.size := by omega
    have hx : vs[i]? = some vs[i] := Array.getElem?_eq_getElem hlt
    refine wpAny_bind (wpAny_pyNext_list_item (items := vs) hit ⟨_, hk l _ hlD hl, rfl, n, rfl⟩ hx fun h₂ hit₂ hs₂ => ?_)
    replace hs₂ : Heap.SameBut it s'.heap h₂ := hs₂
    have hk₂ : ∀ b o, b ≠ D → base.get? b = some o → h₂.get? b = some o := fun b o hb e => hs₂.extBut b o (by rintro rfl; rw [hDb] at e; cases e) (hk b o hb e)
    have hJ₂ : J i h₂ := jst _ _ _ hJ fun b o hb e => hs₂.extBut b o hb e
    obtain ⟨T, k, v, hv, hT, hset⟩ := step i { s' with heap := h₂ } _ hlt hJ₂ hk₂
    rw [hx] at hv
    rw [Option.some.inj hv]
    refine wpAny_bind (wpAny_holding (wpAny_bind (wpAny_tryCatch (pairItems_tuple hT ?_))))
    refine wpAny_mono (wpAny_holding (hset _)) (fun _ s₃ h₃ => ?_) fun _ _ x => x
    obtain ⟨⟨h₄, tk₄, rfl, hs₄⟩, hJ₄⟩ := h₃
    replace hs₄ : Heap.SameBut D h₂ h₄ := hs₄
    refine wpAny_pure ⟨quiet_upd _, ?_⟩
    have e1 : rawInt ((i : Int) + 1) = rawInt ((i + 1 : Nat) : Int) := by rfl
    rw [e1]
    refine ih (i + 1) _ (by omega) ?_ hJ₄ (hit₂.extBut hs₄.extBut (Ne.symm hDit)) fun b o hb e => hs₄.extBut b o hb (hk₂ b o hb e)
    obtain ⟨h', tk, rfl⟩ := hs'
    exact ⟨_, _, rfl⟩

/-- dict(l) of a list of pairs -/
theorem call_dict_pairs {l : Addr} {vs : Array Value} {n : Nat} {Q : Value → Shared → Prop} (hh : A.handled = none) (hl : s.heap.get? l = some (lst vs n)) (J : Nat → Heap → Prop)
    (h0 : ∀ h, h.get? s.heap.objs.size = some { cls := .type "dict", data := .dict #[] } → J 0 h)
    (jst : ∀ i h h', J i h → (∀ b o, @LT.lt Nat _ b (s.heap.objs.size + 1) → h.get? b = some o → h'.get? b = some o) → J i h')
    (step : ∀ i (s₁ : Shared) (A₁ : Around) (E : Value → Shared → Prop), A₁.units ≤ A.units + 2 → i < vs.size → J i s₁.heap → (∀ b o, s.heap.get? b = some o → s₁.heap.get? b = some o) →
      ∃ T k v, vs[i]? = some (.ref T) ∧ s₁.heap.IsTuple T #[k, v] ∧ wpAny (model prog w) A₁ (dictSet s.heap.objs.size k v) (fun _ s₂ => (∃ h' tk, s₂ = { s₁ with heap := h', toks := tk } ∧ Heap.SameBut s.heap.objs.size s₁.heap h') ∧ J (i + 1) s₂.heap) E s₁)
    (fin : ∀ h' tk, J vs.size h' → (∀ b o, s.heap.get? b = some o → h'.get? b = some o) → Q (.ref s.heap.objs.size) { s with heap := h', toks := tk }) :
    wpAny (model prog w) A (call (.type "dict") [.ref l]) Q E s := by
  refine callType_codes (Q₁ := fun obj s₁ => obj = .ref s.heap.objs.size ∧ s₁ = { s with heap := s.heap.push { cls := .type "dict", data := .dict #[] } }) PySem.F.kt_called_dict (PySem.F.kt_typeCall_dict_1 _) PySem.F.entry_dict_init (kt_code_dict_new _ ⟨rfl, rfl⟩) ?_
  rintro obj s₁ ⟨rfl, rfl⟩
  have hnew : (s.heap.push { cls := .type "dict", data := .dict #[] }).get? s.heap.objs.size = some { cls := .type "dict", data := .dict #[] } := Heap.get?_push_size _ rfl
  have hty : ({ s with heap := s.heap.push { cls := .type "dict", data := .dict #[] } } : Shared).TypeIs (.ref s.heap.objs.size) "dict" := ⟨_, hnew, rfl⟩
  have kk : ∀ b o, s.heap.get? b = some o → (s.heap.push { cls := .type "dict", data := .dict #[] }).get? b = some o := fun b o e => Heap.get?_push_of_some _ e
  refine ⟨hty, PySem.F.args_dict_init_2 _ _, ?_⟩
  unfold Builtin.«dict.__init__»
  refine wpAny_bind ?_
  unfold Builtin.Dict.selfAndRest
  refine wpAny_bind (wpAny_notOrdered_dict hty ?_)
  show wpAny _ _ (pure (s.heap.objs.size, [Value.ref l])) _ _ _
  refine wpAny_pure ?_
  show wpAny _ _ (Builtin.Dict.updateFrom "dict.__init__" s.heap.objs.size (.ref l) [] .none) _ _ _
  unfold Builtin.Dict.updateFrom
  refine wpAny_bind (wpAny_typeOf (T := "list") ⟨_, kk _ _ hl, rfl⟩ ?_)
  rw [if_pos (by decide)]
  refine wpAny_bind (keys_miss_list (kk _ _ hl) hh fun h₂ tk₂ hk₂ => ?_)
  dsimp only at hk₂
  refine wpAny_bind (wpAny_rule (wpAny_bind ?_))
  have hl₂ := hk₂ _ _ (kk _ _ hl)
  have hsz : @LE.le Nat _ (s.heap.objs.size + 1) h₂.objs.size := Heap.lt_size (hk₂ _ _ hnew)
  refine wpAny_pyIter_list (items := vs) ⟨_, hl₂, rfl, n, rfl⟩ ?_
  dsimp only
  have hit : ((h₂.push { cls := .type "list_iterator", data := .fields #[.ref l, .int 0 0] }).IsListIter h₂.objs.size l 0) := ⟨_, Heap.get?_push_size _ rfl, rfl, rfl⟩
  have k₃ : ∀ b o, h₂.get? b = some o → (h₂.push { cls := .type "list_iterator", data := .fields #[.ref l, .int 0 0] }).get? b = some o := fun b o e => Heap.get?_push_of_some _ e
  generalize h₂.push { cls := .type "list_iterator", data := .fields #[.ref l, .int 0 0] } = h₃ at hit k₃
  refine wpAny_bind (wpAny_pure (wpAny_pure ⟨quiet_upd _, ?_⟩))
  have lls : @LT.lt Nat _ l s.heap.objs.size := Heap.lt_size hl
  have none_ge : ∀ b, @LE.le Nat _ s.heap.objs.size b → s.heap.get? b = none := fun b hb => by
    cases q : s.heap.get? b with
    | none => rfl
    | some o =>
      have : @LT.lt Nat _ b s.heap.objs.size := Heap.lt_size q
      omega
  have neD : ∀ b o, s.heap.get? b = some o → @Ne Nat b s.heap.objs.size := fun b o e => Nat.ne_of_lt (Heap.lt_size e)
  refine upd_loop (prog := prog) (w := w) (A := A.in1) (s := { s with heap := h₃, toks := tk₂ }) (base := s.heap) (D := s.heap.objs.size) (n := n) hh J (none_ge _ (by omega)) (show @Ne Nat _ _ by omega) hl (show @Ne Nat _ _ by omega) ?_ ?_ ?_ vs.size 0 _ rfl ⟨_, _, rfl⟩ (h0 _ (k₃ _ _ (hk₂ _ _ hnew))) hit fun b o hb e => k₃ _ _ (hk₂ _ _ (kk _ _ e))
  · exact fun i h h' hj k => jst i h h' hj fun b o hb e => k b o (show @Ne Nat _ _ by omega) e
  · intro i s₁ E' hi hj hk
    obtain ⟨T, k, v, a1, a2, _⟩ := step i s₁ A E' (by omega) hi hj fun b o e => hk b o (neD b o e) e
    refine ⟨T, k, v, a1, a2, fun args => ?_⟩
    obtain ⟨T', k', v', b1, b2, b3⟩ := step i s₁ (A.in1.under (.builtin "dict.update.loop" args)) E' (by rw [Around.under_plainId (by decide +kernel)]; exact Nat.le_refl _) hi hj fun b o e => hk b o (neD b o e) e
    rw [a1] at b1
    cases b1
    obtain ⟨o, ho, _, _, hd⟩ := a2
    obtain ⟨o', ho', _, _, hd'⟩ := b2
    rw [ho] at ho'; cases ho'
    rw [hd] at hd'; cases hd'
    exact b3
  · rintro s' hj ⟨h', tk, rfl⟩ hk
    exact ⟨rfl, fin h' tk hj fun b o e => hk b o (neD b o e) e⟩
end
end Gy
end

section
open PySem PySem.W PySem.Calls PyProof.Rows
set_option maxRecDepth 100000
namespace Gy
section
variable {prog : Program} {w : World} {A : Around} {E : Value → Shared → Prop} {s : Shared} {env : Env}

/-- a comprehension's block is entered: its list D and its frame C are new -/
theorem comp_enter {elt target iter : Expr} {ifs : List Expr} {gs : List Comprehension} {scope : Scope} {pos : Pos} {cl : List (Str × Addr)} {Q : Value → Shared → Prop}
    (h : wpAny (model prog w) A (eval iter env) (fun xv s₁ => wpAny (model prog w) A (pyIter xv) (fun it s₂ => ∀ D C h₃, @LE.le Nat _ s₂.heap.objs.size D → @LT.lt Nat _ D C → h₃.get? D = some (lst #[] 0) → h₃.Ns C (fun _ => none) →
      (∀ b o, s₂.heap.get? b = some o → h₃.get? b = some o) →
      codeAny (model prog w) A (.compStart (.ListComp elt (⟨target, iter, ifs, 0⟩ :: gs) scope pos) 0 it (.ref D) (compEnvC scope cl C env))
        (fun r s' => ∃ f, r = .ok f ∧ ∃ m, s'.heap.Ns C m ∧ ∀ h', Heap.SameBut C s'.heap h' → Q (.ref D) { s' with heap := h' }) { s₂ with heap := h₃ }) E s₁) E s)
    (hclos : closureFor scope env = pure cl) (hcell : ∀ y ∈ scope.names, y.2 ≠ .cell) (hkind : scope.kind = .function)
    (hnames : ∀ y ∈ scope.names, y.2 = .local → scope.names.lookup y.1 = some .local) (hs : ∀ x, foldedSetIterable iter env x = pure x) :
    wpAny (model prog w) A (eval (.ListComp elt (⟨target, iter, ifs, 0⟩ :: gs) scope pos) env) Q E s := by
  rw [eval_ListComp]
  refine wpAny_comprehension_free (e := .ListComp elt (⟨target, iter, ifs, 0⟩ :: gs) scope pos) (gs := gs) (use := none) rfl hs hclos hkind hnames (wpAny_mono h (fun xv s₁ h₁ => wpAny_mono h₁ (fun it s₂ h₂ => ?_) fun _ _ e => e) fun _ _ e => e)
  refine wpAny_newObj_type (wpAny_newFunctionEnv hcell (by intro y hy; simp at hy) (fun h₁ hns₁ hsb₁ => ?_) hkind)
  dsimp only at hns₁ hsb₁ ⊢
  generalize hH2 : s₂.heap.push { cls := .type "list", dict := none, data := .seq ([] : List Value).toArray } = H2 at hns₁ hsb₁ ⊢
  have hC : H2.objs.size = s₂.heap.objs.size + 1 := by rw [← hH2, Heap.size_push]
  have hDC : @Ne Nat s₂.heap.objs.size H2.objs.size := by omega
  refine codeAny_mono (h₂ s₂.heap.objs.size H2.objs.size h₁ (Nat.le_refl _) (show @LT.lt Nat _ _ _ by omega) ?_ hns₁ fun b o e => ?_) fun r s' hr => ?_
  · exact hsb₁.extBut _ _ hDC (Heap.get?_push_of_some _ (hH2 ▸ Heap.get?_push_size _ rfl))
  · have hb : @LT.lt Nat _ b s₂.heap.objs.size := Heap.lt_size e
    exact hsb₁.extBut b o (show @Ne Nat _ _ by omega) (Heap.get?_push_of_some _ (hH2 ▸ Heap.get?_push_of_some _ e))
  · obtain ⟨f, rfl, m, hm, hq⟩ := hr
    exact ⟨m, hm, hq⟩

/-- the clause that lays the elements down: vs is what the list D holds, the frame C is the block's -/
theorem comp_leaf {R : Result → Shared → Prop} {elt iter : Expr} {x : Str} {px : Pos} {ifs : List Expr} {gens : List Comprehension} {scope : Scope} {pos : Pos} {d n : Nat} {it C D : Addr} {fp : Addr → Prop} {P : Nat → Value → Heap → Prop} {St : Nat → Heap → Prop} {cenv : Env}
    (hg : gens[d]? = some ⟨.Name x px, iter, ifs, 0⟩) (hn : gens[d + 1]? = none) (I : Itr prog w A it fp (.Name x px) n P St) (hC : cenv.locals = C) (hx : cenv.kindOf x = some .local) (hk : cenv.scope.kind = .function)
    (W : Addr → Prop) (hWC : W C) (hWD : W D) (hCD : C ≠ D) (hfp : ∀ b, fp b → ¬ W b) (hst : St 0 s.heap) (J : Nat → Array Value → Heap → Prop) {vs₀ : Array Value} {k₀ : Nat} {m₀ : Str → Option Value}
    (hD₀ : s.heap.get? D = some (lst vs₀ k₀)) (hC₀ : s.heap.Ns C m₀) (h0 : J 0 vs₀ s.heap)
    (jst : ∀ i vs h h', J i vs h → (∀ b o, b ≠ it → b ≠ C → b ≠ D → h.get? b = some o → h'.get? b = some o) → J i vs h')
    (hPk : ∀ i v h h', P i v h → (∀ b o, b ≠ C → h.get? b = some o → h'.get? b = some o) → P i v h')
    (step : ∀ i v (s₁ : Shared) (E : Value → Shared → Prop) (vs : Array Value) (k : Nat) (m : Str → Option Value), i < n → P i v s₁.heap → St (i + 1) s₁.heap → J i vs s₁.heap → s₁.heap.get? D = some (lst vs k) → s₁.heap.Ns C (fun y => if y = x then some v else m y) → Ch (fun b => W b ∨ b = it) s s₁ →
      wpAny (model prog w) A (forIn ifs true fun c r => if r = true then do let ok ← isTrue c cenv (eval c cenv); pure (ForInStep.yield ok) else pure (ForInStep.yield r)) (fun ok s₃ =>
        if ok = true then wpAny (model prog w) A (eval elt cenv) (fun y s₄ => Ch W s₁ s₄ ∧ (∃ k m, s₄.heap.get? D = some (lst vs k) ∧ s₄.heap.Ns C m) ∧ J (i + 1) (vs.push y) s₄.heap ∧ vs.size ≤ sizeLine) E s₃
        else Ch W s₁ s₃ ∧ (∃ k m, s₃.heap.get? D = some (lst vs k) ∧ s₃.heap.Ns C m) ∧ J (i + 1) vs s₃.heap) E s₁)
    (fin : ∀ s' vs k m, J n vs s'.heap → s'.heap.get? D = some (lst vs k) → s'.heap.Ns C m → Ch (fun b => W b ∨ b = it) s s' → R (.ok .next) s') :
    codeAny (model prog w) A (.compLoop (.ListComp elt gens scope pos) d (.ref it) (.ref D) cenv) R s := by
  have hp : (cenv.scope.kind == .class || (cenv.scope.kind == .module && cenv.locals != cenv.globals)) = false := by rw [hk]; rfl
  have hitW : ¬ W it := hfp it I.self
  have itC : it ≠ C := fun q => hitW (q ▸ hWC)
  have itD : it ≠ D := fun q => hitW (q ▸ hWD)
  refine compLoop_core I W (fun i h => ∃ vs k m, J i vs h ∧ h.get? D = some (lst vs k) ∧ h.Ns C m) (do let _ ← call (.builtin "list.append") [.ref D, ← eval elt cenv]) (compTurn_leaf hg hn) hfp hst ⟨vs₀, k₀, m₀, h0, hD₀, hC₀⟩ ?_ ?_ ?_
  · rintro i h h' ⟨vs, k, m, hj, hd, hc⟩ kp
    exact ⟨vs, k, m, jst _ _ _ _ hj fun b o hb _ _ e => kp b o hb e, kp _ _ itD.symm hd, hc.at' fun o e => kp _ _ itC.symm e⟩
  · rintro i v s₁ E' hi hP hSt ⟨vs, k, m, hj, hd, hc⟩ hch
    refine wpAny_assign_Name (wpAny_storeName_local hx (hC ▸ hc) (fun h₂ hn₂ hs₂ => ?_) hp)
    rw [hC] at hn₂ hs₂
    replace hs₂ : Heap.SameBut C s₁.heap h₂ := hs₂
    have c₂ : Ch W s₁ { s₁ with heap := h₂, toks := s₁.toks + 1 } := ⟨h₂, _, rfl, fun b o hb e => hs₂.extBut b o (fun q => hb (q ▸ hWC)) e⟩
    refine wpAny_mono (step i v { s₁ with heap := h₂, toks := s₁.toks + 1 } E' vs k m hi (hPk _ _ _ _ hP fun b o hb e => hs₂.extBut b o hb e) (I.frame _ _ _ hSt fun b o hb e => hs₂.extBut b o (fun q => hfp b hb (q ▸ hWC)) e) (jst _ _ _ _ hj fun b o _ hb _ e => hs₂.extBut b o hb e)
      (hs₂.extBut _ _ hCD.symm hd) hn₂ (hch.trans (c₂.mono fun _ => .inl))) (fun ok s₃ h₃ => ?_) fun _ _ e => e
    cases ok with
    | false =>
      simp only [Bool.false_eq_true, if_false] at h₃ ⊢
      obtain ⟨c₃, ⟨k', m', hd', hc'⟩, hj'⟩ := h₃
      exact ⟨c₂.trans c₃, vs, k', m', hj', hd', hc'⟩
    | true =>
      simp only [if_true] at h₃ ⊢
      refine wpAny_bind (wpAny_mono h₃ (fun y s₄ h₄ => ?_) fun _ _ e => e)
      obtain ⟨c₄, ⟨k', m', hd', hc'⟩, hj', hz⟩ := h₄
      refine wpAny_bind (append_at hd' (fun h₅ hs₅ hd₅ => wpAny_pure ?_) hz)
      replace hs₅ : Heap.SameBut D s₄.heap h₅ := hs₅
      refine ⟨(c₂.trans c₄).trans ⟨h₅, s₄.toks, rfl, fun b o hb e => hs₅.extBut b o (fun q => hb (q ▸ hWD)) e⟩, vs.push y, k' + 1, m', jst _ _ _ _ hj' fun b o _ _ hb e => hs₅.extBut b o hb e, hd₅, hc'.at' fun o e => hs₅.extBut _ o hCD e⟩
  · rintro s' ⟨vs, k, m, hj, hd, hc⟩ hch
    exact fin s' vs k m hj hd hc hch
end
end Gy
end

section
open PySem PySem.W PySem.Calls PyProof.Rows
set_option maxRecDepth 100000
namespace Gy
/-- the frame of the law's own call -/
abbrev lawE (L fa : Addr) (cd : Value) : Env := envOfC (Str.ofString "law") (fS 12) L fa cd
/-- what the law reads from the top -/
structure Tops (G : Heap) (mg mb : Str → Option Value) (ac cc : Addr) : Prop where
  base : Base G mg mb
  mac : mg "add_callers" = some (.ref ac)
  mcc : mg "count_calls" = some (.ref cc)
  mdm : mg "int_divmod" = some (.ref 70)
  fac : FnIs G ac 1
  fcc : FnIs G cc 2
  fdm : ∃ o fd, G.get? 70 = some o ∧ o.data = .func fd
  nsorted : mg "sorted" = none
  ndict : mg "dict" = none
  nrange : mg "range" = none
  nlen : mg "len" = none
  bsorted : mb "sorted" = some (.builtin "sorted")
  bdict : mb "dict" = some (.type "dict")
  brange : mb "range" = some (.type "range")
  blen : mb "len" = some (.builtin "len")
/-- an address of the frame or of one of its six cells -/
def own (L b : Addr) : Prop := @LE.le Nat _ L b ∧ @LE.le Nat _ b (L + 6)
/-- the address of the k-th cell -/
abbrev cA (L : Addr) (k : Nat) : Addr := (@HAdd.hAdd Nat Nat Nat instHAdd L k : Nat)
theorem cA_own {L : Addr} {k : Nat} (h : k ≤ 6) : own L (cA L k) := ⟨Nat.le_add_right .., Nat.add_le_add_left h L⟩
theorem cA_L {L : Addr} {k : Nat} (h : 1 ≤ k) : cA L k ≠ L := fun q => by have q' : @Eq Nat (@HAdd.hAdd Nat Nat Nat instHAdd L k) L := q; omega
theorem L_cA {L : Addr} {k : Nat} (h : 1 ≤ k) : L ≠ cA L k := fun q => cA_L h q.symm
theorem cA_ne {L : Addr} {j k : Nat} (h : j ≠ k) : cA L j ≠ cA L k := fun q => by have q' : @Eq Nat (@HAdd.hAdd Nat Nat Nat instHAdd L j) (@HAdd.hAdd Nat Nat Nat instHAdd L k) := q; omega
/-- the law's frame: m its locals, cm its cells by number (1 many, 2 squares, 3 other, 4 beat, 5 calls, 6 lost); what G holds still stands -/
structure LS (G : Heap) (L : Addr) (m : Str → Option Value) (cm : Nat → Option Value) (h : Heap) : Prop where
  ns : h.Ns L m
  cell : ∀ k, 1 ≤ k → k ≤ 6 → h.IsCell (cA L k) (cm k)
  keep : ∀ b o, G.get? b = some o → h.get? b = some o
theorem LS.mono {G : Heap} {L : Addr} {m : Str → Option Value} {cm : Nat → Option Value} {h h' : Heap} (x : LS G L m cm h) (k : ∀ b o, (own L b ∨ ∃ o, G.get? b = some o) → h.get? b = some o → h'.get? b = some o) : LS G L m cm h' where
  ns := x.ns.at' fun o e => k _ _ (.inl ⟨Nat.le_refl _, Nat.le_add_right ..⟩) e
  cell := fun j h1 h2 => let ⟨o, e, r⟩ := x.cell j h1 h2; ⟨o, k _ _ (.inl (cA_own h2)) e, r⟩
  keep := fun b o e => k b o (.inr ⟨o, e⟩) (x.keep b o e)
theorem LS.keeps {G : Heap} {L : Addr} {m : Str → Option Value} {cm : Nat → Option Value} {h h' : Heap} (x : LS G L m cm h) (k : ∀ b o, h.get? b = some o → h'.get? b = some o) : LS G L m cm h' := x.mono fun b o _ e => k b o e
theorem own_ne {L b c : Addr} (hb : own L b) (hc : @LT.lt Nat _ (L + 6) c) : b ≠ c := by
  obtain ⟨h1, h2⟩ := hb
  show @Ne Nat b c
  omega
/-- what changes only above the frame leaves it -/
theorem LS.ch {G : Heap} {L : Addr} {m : Str → Option Value} {cm : Nat → Option Value} {s s' : Shared} {W : Addr → Prop} (x : LS G L m cm s.heap) (c : Ch W s s') (hW : ∀ b, W b → ¬ own L b ∧ G.get? b = none) : LS G L m cm s'.heap :=
  x.mono fun b o q e => c.get (fun hw => q.elim (hW b hw).1 fun ⟨o, e⟩ => by rw [(hW b hw).2] at e; cases e) e
theorem LS.setL {G : Heap} {L : Addr} {m m' : Str → Option Value} {cm : Nat → Option Value} {h h' : Heap} (x : LS G L m cm h) (hL : G.get? L = none) (hn : h'.Ns L m') (hs : Heap.SameBut L h h') : LS G L m' cm h' where
  ns := hn
  cell := fun j h1 h2 => let ⟨o, e, r⟩ := x.cell j h1 h2; ⟨o, hs.extBut _ _ (cA_L h1) e, r⟩
  keep := fun b o e => hs.extBut b o (by rintro rfl; rw [hL] at e; cases e) (x.keep b o e)
theorem LS.setC {G : Heap} {L : Addr} {m : Str → Option Value} {cm : Nat → Option Value} {h h' : Heap} {k : Nat} {v : Option Value} (x : LS G L m cm h) (hk : 1 ≤ k) (hL : G.get? (cA L k) = none) (hn : h'.IsCell (cA L k) v) (hs : Heap.SameBut (cA L k) h h') :
    LS G L m (fun j => if j = k then v else cm j) h' where
  ns := x.ns.at' fun o e => hs.extBut _ _ (L_cA hk) e
  cell := fun j h1 h2 => by
    by_cases e : j = k
    · subst e; rw [if_pos rfl]; exact hn
    · rw [if_neg e]
      obtain ⟨o, e', r⟩ := x.cell j h1 h2
      exact ⟨o, hs.extBut _ _ (cA_ne e) e', r⟩
  keep := fun b o e => hs.extBut b o (by rintro rfl; rw [hL] at e; cases e) (x.keep b o e)

section
variable {prog : Program} {w : World} {A : Around} {E : Value → Shared → Prop} {s : Shared} {env : Env} {m mg mb : Str → Option Value} {x : Str} {px np pos : Pos} {v : Value} {Q : Value → Shared → Prop}
/-- a name that lies in a cell -/
theorem nmC {c : Addr} (hv : s.heap.IsCell c (some v)) (h : Q v s) (hk : env.scope.kind = .function := by rfl) (hl : env.kindOf x = some .cell := by rfl) (hc : env.cells.lookup x = some c := by rfl) (hd : (x == ("__debug__" : Str)) = false := by decide) :
    wpAny (model prog w) A (eval (.Name x px) env) Q E s := wpAny_Name (wpAny_loadName_cell hk hl hc hv h) hd
/-- f(e) of a builtin function, of a type -/
theorem cB1 {id : String} {e : Expr} (hf : ∀ Q : Value → Shared → Prop, Q (.builtin id) s → wpAny (model prog w) A (eval (.Name x np) env) Q E s) (h : wpAny (model prog w) A (eval e env) (fun v s₁ => wpAny (model prog w) A (call (.builtin id) [v]) Q E s₁) E s)
    (hs : starEach [e] env = [(false, eval e env)] := by rfl) : wpAny (model prog w) A (eval (.Call (.Name x np) [e] [] pos) env) Q E s :=
  Call_name1 hs (hf _ (callWith_builtin rfl (evalArgs_plain (spliced_cons (wpAny_mono h (fun _ _ h₁ => spliced_nil h₁) fun _ _ e => e)))))
theorem cT1 {T : String} {e : Expr} (hf : ∀ Q : Value → Shared → Prop, Q (.type T) s → wpAny (model prog w) A (eval (.Name x np) env) Q E s) (h : wpAny (model prog w) A (eval e env) (fun v s₁ => wpAny (model prog w) A (call (.type T) [v]) Q E s₁) E s)
    (hs : starEach [e] env = [(false, eval e env)] := by rfl) : wpAny (model prog w) A (eval (.Call (.Name x np) [e] [] pos) env) Q E s :=
  Call_name1 hs (hf _ (PySem.callWith_type rfl (evalArgs_plain (spliced_cons (wpAny_mono h (fun _ _ h₁ => spliced_nil h₁) fun _ _ e => e)))))
theorem cT2 {T : String} {e e' : Expr} (hf : ∀ Q : Value → Shared → Prop, Q (.type T) s → wpAny (model prog w) A (eval (.Name x np) env) Q E s)
    (h : wpAny (model prog w) A (eval e env) (fun v s₁ => wpAny (model prog w) A (eval e' env) (fun v' s₂ => wpAny (model prog w) A (call (.type T) [v, v']) Q E s₂) E s₁) E s)
    (hs : backTo pos (starEach [e, e'] env) = [(false, eval e env), (false, eval e' env)] := by rfl) : wpAny (model prog w) A (eval (.Call (.Name x np) [e, e'] [] pos) env) Q E s :=
  Call_Name hs (hf _ (PySem.callWith_type rfl (evalArgs_plain (spliced_cons (wpAny_mono h (fun _ _ h₁ => spliced_cons (wpAny_mono h₁ (fun _ _ h₂ => spliced_nil h₂) fun _ _ e => e)) fun _ _ e => e)))))
end
end Gy
end

section
open PySem PySem.W PySem.Calls PyProof.Rows
set_option maxRecDepth 100000
namespace Gy
section
variable {prog : Program} {w : World} {A : Around} {E : Value → Shared → Prop} {s : Shared} {env : Env}
theorem subC {value : Expr} {c : Const} {kd : Nat} {p pos : Pos} {Q : Value → Shared → Prop}
    (h : wpAny (model prog w) A (eval value env) (fun o s₁ => wpAny (model prog w) A (eval (.Constant c kd p) env) (fun i s₂ => SubscriptOn (model prog w) A o i Q E s₂) E s₁) E s) :
    wpAny (model prog w) A (eval (.Subscript value (.Constant c kd p) pos) env) Q E s := by
  rw [eval_Subscript]
  refine wpAny_bind (wpAny_mono h (fun o s₁ h₁ => wpAny_bind (wpAny_holding (wpAny_mono h₁ (fun i s₂ h₂ => wpAny_bind (wpAny_standAt ?_)) fun _ _ x => x)))
    fun _ _ x => x)
  obtain ⟨T, id, hl, hT, hg⟩ := h₂
  refine wpAny_bind ?_
  rw [getitemInPython_of_ne hT.not_modules]
  refine wpAny_bind (wpAny_specialOf hT hl ?_)
  have fin : wpAny (model prog w) A (operate [o, i] (getItem o i)) (fun r s₃ => wpAny (model prog w) A (letTemporaryGo value o r >>= fun _ => pure r) Q E s₃) E s₂ :=
    wpAny_operating (wpAny_mono hg (fun r s₃ h₃ => wpAny_bind (wpAny_letTemporaryGo (wpAny_pure h₃))) fun _ _ x => x)
  first
    | exact wpAny_pure (wpAny_bind fin)
    | exact wpAny_bind (wpAny_pure (wpAny_bind fin))
    | exact wpAny_bind fin
theorem subN {value : Expr} {x : Str} {p pos : Pos} {Q : Value → Shared → Prop}
    (h : wpAny (model prog w) A (eval value env) (fun o s₁ => wpAny (model prog w) A (eval (.Name x p) env) (fun i s₂ => SubscriptOn (model prog w) A o i Q E s₂) E s₁) E s) :
    wpAny (model prog w) A (eval (.Subscript value (.Name x p) pos) env) Q E s := by
  rw [eval_Subscript]
  refine wpAny_bind (wpAny_mono h (fun o s₁ h₁ => wpAny_bind (wpAny_holding (wpAny_mono h₁ (fun i s₂ h₂ => wpAny_bind (wpAny_standAt ?_)) fun _ _ x => x)))
    fun _ _ x => x)
  obtain ⟨T, id, hl, hT, hg⟩ := h₂
  refine wpAny_bind ?_
  rw [getitemInPython_of_ne hT.not_modules]
  refine wpAny_bind (wpAny_specialOf hT hl ?_)
  have fin : wpAny (model prog w) A (operate [o, i] (getItem o i)) (fun r s₃ => wpAny (model prog w) A (letTemporaryGo value o r >>= fun _ => pure r) Q E s₃) E s₂ :=
    wpAny_operating (wpAny_mono hg (fun r s₃ h₃ => wpAny_bind (wpAny_letTemporaryGo (wpAny_pure h₃))) fun _ _ x => x)
  first
    | exact wpAny_pure (wpAny_bind fin)
    | exact wpAny_bind (wpAny_pure (wpAny_bind fin))
    | exact wpAny_bind fin
theorem subT {value : Expr} {es : List Expr} {kd : Nat} {p pos : Pos} {Q : Value → Shared → Prop}
    (h : wpAny (model prog w) A (eval value env) (fun o s₁ => wpAny (model prog w) A (eval (.Tuple es kd p) env) (fun i s₂ => SubscriptOn (model prog w) A o i Q E s₂) E s₁) E s) :
    wpAny (model prog w) A (eval (.Subscript value (.Tuple es kd p) pos) env) Q E s := by
  rw [eval_Subscript]
  refine wpAny_bind (wpAny_mono h (fun o s₁ h₁ => wpAny_bind (wpAny_holding (wpAny_mono h₁ (fun i s₂ h₂ => wpAny_bind (wpAny_standAt ?_)) fun _ _ x => x)))
    fun _ _ x => x)
  obtain ⟨T, id, hl, hT, hg⟩ := h₂
  refine wpAny_bind ?_
  rw [getitemInPython_of_ne hT.not_modules]
  refine wpAny_bind (wpAny_specialOf hT hl ?_)
  have fin : wpAny (model prog w) A (operate [o, i] (getItem o i)) (fun r s₃ => wpAny (model prog w) A (letTemporaryGo value o r >>= fun _ => pure r) Q E s₃) E s₂ :=
    wpAny_operating (wpAny_mono hg (fun r s₃ h₃ => wpAny_bind (wpAny_letTemporaryGo (wpAny_pure h₃))) fun _ _ x => x)
  first
    | exact wpAny_pure (wpAny_bind fin)
    | exact wpAny_bind (wpAny_pure (wpAny_bind fin))
    | exact wpAny_bind fin

/-- a tuple of two -/
theorem tup2 {a b : Expr} {k : Nat} {pos : Pos} {Q : Value → Shared → Prop}
    (h : wpAny (model prog w) A (eval a env) (fun u s₁ => wpAny (model prog w) A (eval b env) (fun v s₂ => Q (.ref s₂.heap.objs.size) { s₂ with heap := s₂.heap.push { cls := .type "tuple", data := .seq #[u, v] } }) E s₁) E s)
    (hs : backTo pos (starEach [a, b] env) = [(false, eval a env), (false, eval b env)] := by rfl) : wpAny (model prog w) A (eval (.Tuple [a, b] k pos) env) Q E s := by
  refine Tuple_ ?_
  rw [hs]
  exact spliced_cons (wpAny_mono h (fun _ _ h₁ => spliced_cons (wpAny_mono h₁ (fun _ _ h₂ => spliced_nil (wpAny_newTuple h₂)) fun _ _ e => e)) fun _ _ e => e)
/-- f(e, e') of a def -/
theorem cF2 {f : Addr} {x : Str} {np pos : Pos} {e e' : Expr} {Q : Value → Shared → Prop} {G : Heap} (hG : ∃ o fd, G.get? f = some o ∧ o.data = .func fd) (hf : ∀ Q : Value → Shared → Prop, Q (.ref f) s → wpAny (model prog w) A (eval (.Name x np) env) Q E s)
    (h : wpAny (model prog w) A (eval e env) (fun v s₁ => wpAny (model prog w) A (eval e' env) (fun v' s₂ => (∀ b o, G.get? b = some o → s₂.heap.get? b = some o) ∧ wpAny (model prog w) A (call (.ref f) [v, v']) Q E s₂) E s₁) E s)
    (hs : backTo pos (starEach [e, e'] env) = [(false, eval e env), (false, eval e' env)] := by rfl) : wpAny (model prog w) A (eval (.Call (.Name x np) [e, e'] [] pos) env) Q E s := by
  obtain ⟨o, fd, ho, hd⟩ := hG
  exact Call_Name hs (hf _ (callWith_function (o := o) (fd := fd) (evalArgs_plain (spliced_cons (wpAny_mono h (fun _ _ h₁ => spliced_cons (wpAny_mono h₁ (fun _ _ h₂ => spliced_nil ⟨⟨h₂.1 _ _ ho, hd⟩, h₂.2⟩) fun _ _ e => e)) fun _ _ e => e)))))
theorem cF1 {f : Addr} {x : Str} {np pos : Pos} {e : Expr} {Q : Value → Shared → Prop} {G : Heap} (hG : ∃ o fd, G.get? f = some o ∧ o.data = .func fd) (hf : ∀ Q : Value → Shared → Prop, Q (.ref f) s → wpAny (model prog w) A (eval (.Name x np) env) Q E s)
    (h : wpAny (model prog w) A (eval e env) (fun v s₁ => (∀ b o, G.get? b = some o → s₁.heap.get? b = some o) ∧ wpAny (model prog w) A (call (.ref f) [v]) Q E s₁) E s)
    (hs : backTo pos (starEach [e] env) = [(false, eval e env)] := by rfl) : wpAny (model prog w) A (eval (.Call (.Name x np) [e] [] pos) env) Q E s := by
  obtain ⟨o, fd, ho, hd⟩ := hG
  exact Call_Name hs (hf _ (callWith_function (o := o) (fd := fd) (evalArgs_plain (spliced_cons (wpAny_mono h (fun _ _ h₁ => spliced_nil ⟨⟨h₁.1 _ _ ho, hd⟩, h₁.2⟩) fun _ _ e => e)))))
end
end Gy
end

section
open PySem PySem.W PySem.Calls PyProof.Rows
set_option maxRecDepth 100000
namespace Gy
/-- the n-th statement of the law -/
def st (n : Nat) : Stmt := match (fB 12)[n]? with | some x => x | none => .Pass ⟨0, 0, 0, 0⟩
/-- the value of an assignment, the arguments of a call, the parts of a comprehension -/
def valOf : Stmt → Expr | .Assign _ v _ => v | _ => .Constant .none 0 ⟨0, 0, 0, 0⟩
def argOf : Expr → Expr | .Call _ (a :: _) _ _ => a | e => e
def scOf : Expr → Scope | .ListComp _ _ s _ => s | _ => default
def elOf : Expr → Expr | .ListComp e _ _ _ => e | e => e
def gnOf : Expr → List Comprehension | .ListComp _ g _ _ => g | _ => []
def lc98 : Expr := argOf (argOf (valOf (st 1)))
theorem stmts : fB 12 = [st 0, st 1, st 2, st 3, st 4, st 5, st 6, st 7, st 8, st 9, st 10, st 11, st 12, st 13] := rfl

section
variable {prog : Program} {w : World} {A : Around} {E : Value → Shared → Prop} {s : Shared}
/-- range(a, b) and its iterator -/
theorem rg2 {a b : Int} {t u : Tok} {K : Value → Shared → Prop} (ha : 0 ≤ a) (hab : a ≤ b) (hb : b < 2 ^ 40)
    (h : ∀ I h tk, @LE.le Nat _ s.heap.objs.size I → @LT.lt Nat _ I h.objs.size → IsRangeIter h I (a + (0 : Nat)) (((b - a).toNat : Int) - (0 : Nat)) 1 → (∀ b o, s.heap.get? b = some o → h.get? b = some o) → K (.ref I) { s with heap := h, toks := tk }) :
    wpAny (model prog w) A (call (.type "range") [.int a t, .int b u]) (fun xv s₁ => wpAny (model prog w) A (pyIter xv) K E s₁) E s := by
  refine call_range_2 (wpAny_pyIter_range (IsRange.new _ _ _ _ _ _ _) (small_one (by omega) (by omega) (by omega) (by omega)) ?_)
  have e : Builtin.Range.rangeSize a b 1 = (((b - a).toNat : Int) - (0 : Nat)) := by rw [rangeSize_one]; split <;> omega
  have e0 : a = a + (0 : Nat) := by omega
  rw [e]
  refine h _ _ _ ?_ ?_ ?_ fun b o e => Heap.get?_push_of_some _ (Heap.get?_push_of_some _ e)
  · show @LE.le Nat _ _ (Heap.push _ _).objs.size
    rw [Heap.size_push]; exact Nat.le_succ _
  · show @LT.lt Nat _ _ (Heap.push _ _).objs.size
    simp only [Heap.size_push]; omega
  · rw [← e0]; exact Heap.get?_push_size _ rfl
theorem rg1 {b : Int} {u : Tok} {K : Value → Shared → Prop} (hab : 0 ≤ b) (hb : b < 2 ^ 40)
    (h : ∀ I h tk, @LE.le Nat _ s.heap.objs.size I → @LT.lt Nat _ I h.objs.size → IsRangeIter h I (0 + (0 : Nat)) ((b.toNat : Int) - (0 : Nat)) 1 → (∀ b o, s.heap.get? b = some o → h.get? b = some o) → K (.ref I) { s with heap := h, toks := tk }) :
    wpAny (model prog w) A (call (.type "range") [.int b u]) (fun xv s₁ => wpAny (model prog w) A (pyIter xv) K E s₁) E s := by
  refine call_range_1 (wpAny_pyIter_range (IsRange.new _ _ _ _ _ _ _) (small_one (by omega) (by omega) (by omega) (by omega)) ?_)
  have e : Builtin.Range.rangeSize 0 b 1 = ((b.toNat : Int) - (0 : Nat)) := by rw [rangeSize_one]; split <;> omega
  have e0 : (0 : Int) = 0 + (0 : Nat) := by omega
  rw [e]
  refine h _ _ _ ?_ ?_ ?_ fun b o e => Heap.get?_push_of_some _ (Heap.get?_push_of_some _ e)
  · show @LE.le Nat _ _ (Heap.push _ _).objs.size
    rw [Heap.size_push]; exact Nat.le_succ _
  · show @LT.lt Nat _ _ (Heap.push _ _).objs.size
    simp only [Heap.size_push]; omega
  · rw [← e0]; exact Heap.get?_push_size _ rfl
/-- a comprehension over a range begins -/
theorem range_start {R : Result → Shared → Prop} {elt : Expr} {gens : List Comprehension} {g : Comprehension} {scope : Scope} {pos : Pos} {d : Nat} {I : Addr} {acc : Value} {env : Env} {a b : Int} (hg : gens[d]? = some g) (ha : g.is_async = 0) (hI : IsRangeIter s.heap I a b 1)
    (h : codeAny (model prog w) A (.compLoop (.ListComp elt gens scope pos) d (.ref I) acc env) R s) : codeAny (model prog w) A (.compStart (.ListComp elt gens scope pos) d (.ref I) acc env) R s :=
  compStart_go hg ha (fun Q E hq => wpAny_pyIter_rangeiter hI hq) h
end
end Gy
end

section
open PySem PySem.W PySem.Calls PyProof.Rows
set_option maxRecDepth 100000
namespace Gy
/-- Grown, with the codes' addresses apart from X -/
inductive GrownOff (X : Addr → Prop) (h G : Heap) (L : Addr) : Prop
  | mk (c d : Addr) (oc od : Obj) (vc vd : Array Value) (tc td : Tok) (e44 : h.get? 44 = some (tabObj #[rawInt 51, rawInt 4, .ref c])) (e51 : h.get? 51 = some (tabObj #[rawInt 66, rawInt 4, .ref d]))
    (ec : h.get? c = some oc) (ed : h.get? d = some od) (r1 : oc.data = .fields vc) (r2 : vc[1]? = some (.str (Str.ofString "_int2digits.<locals>.inner") tc)) (r3 : od.data = .fields vd) (r4 : vd[1]? = some (.str (Str.ofString "_digits2int.<locals>.inner") td))
    (r5 : G.get? c = none ∧ c ≠ L ∧ G.get? d = none ∧ d ≠ L) (r6 : @LT.lt Nat _ 51 c ∧ @LT.lt Nat _ 44 c ∧ @LT.lt Nat _ c d) (xc : ¬ X c) (xd : ¬ X d) : GrownOff X h G L
theorem GrownOff.mono {X : Addr → Prop} {h h' G : Heap} {L : Addr} (x : GrownOff X h G L) (h44 : ¬ X 44) (h51 : ¬ X 51) (k : ∀ b o, ¬ X b → h.get? b = some o → h'.get? b = some o) : GrownOff X h' G L := by
  obtain ⟨c, d, oc, od, vc, vd, tc, td, e1, e2, e3, e4, r1, r2, r3, r4, r5, r6, xc, xd⟩ := x
  exact ⟨c, d, oc, od, vc, vd, tc, td, k _ _ h44 e1, k _ _ h51 e2, k _ _ xc e3, k _ _ xd e4, r1, r2, r3, r4, r5, r6, xc, xd⟩
/-- no iterator of a range, no list, no frame is such a code -/
theorem Grown.off {h G : Heap} {L I C D : Addr} (x : Grown h G L) {a b c : Int} (hI : IsRangeIter h I a b c) {vs : Array Value} {k : Nat} (hD : h.get? D = some (lst vs k)) {m : Str → Option Value} (hC : h.Ns C m) :
    GrownOff (fun y => y = I ∨ y = C ∨ y = D) h G L := by
  obtain ⟨c, d, oc, od, vc, vd, tc, td, e1, e2, e3, e4, r1, r2, r3, r4, r5, r6⟩ := x
  have ne : ∀ {c : Addr} {oc : Obj} {vc : Array Value} {q : Str} {tc : Tok}, h.get? c = some oc → oc.data = .fields vc → vc[1]? = some (.str q tc) → ¬ (c = I ∨ c = C ∨ c = D) := by
    intro c oc vc q tc e r r' hx
    rcases hx with rfl | rfl | rfl
    · rw [hI] at e; cases e; cases r; cases r'
    · obtain ⟨o, es, ep, ho, hd, _⟩ := hC
      rw [ho] at e; cases e; rw [hd] at r; cases r
    · rw [hD] at e; cases e; cases r
  exact ⟨c, d, oc, od, vc, vd, tc, td, e1, e2, e3, e4, r1, r2, r3, r4, r5, r6, ne e3 r1 r2, ne e4 r3 r4⟩
theorem GrownOff.grown {X : Addr → Prop} {h G : Heap} {L : Addr} (x : GrownOff X h G L) : Grown h G L := by
  obtain ⟨c, d, oc, od, vc, vd, tc, td, e1, e2, e3, e4, r1, r2, r3, r4, r5, r6, xc, xd⟩ := x
  exact ⟨c, d, oc, od, vc, vd, tc, td, e1, e2, e3, e4, r1, r2, r3, r4, r5, r6⟩

/-- int_divmod(a, p) whatever the tables -/
structure DmAll (prog : Program) (w : World) (A : Around) (G : Heap) (L : Addr) (p lim hi : Int) : Prop where
  e : DmE prog w A G L p 1 2
  h : DmH prog w A G L p 1 lim
  l : DmH prog w A G L p lim hi
  g51 : G.get? 51 = none
  g44 : G.get? 44 = none
  l51 : @LT.lt Nat _ 51 L
  l44 : @LT.lt Nat _ 44 L
section
variable {prog : Program} {w : World} {A : Around} {E : Value → Shared → Prop} {s : Shared} {G : Heap} {L fa : Addr} {cd : Value} {m mg mb : Str → Option Value} {cm : Nat → Option Value} {ac cc : Addr} {p lim hi : Int}
theorem DmAll.hit (X : DmAll prog w A G L p lim hi) {Q : Value → Shared → Prop} {a : Int} {t u : Tok} (F : Fr G L s.heap m) (g : Grown s.heap G L) (ha : 1 ≤ a) (hb : a < hi) (hQ : ∀ s'' D, DmPost s s'' G L (a % p) D → Q (.ref D) s'') :
    wpAny (model prog w) A (call (.ref 70) [.int a t, .int p u]) Q E s := by
  obtain ⟨c, d, oc, od, vc, vd, tc, td, e1, e2, e3, e4, r1, r2, r3, r4, ⟨gc, cL, gd, dL⟩, r6⟩ := g
  have N : News G L s.heap [(d, od), (c, oc), (51, tabObj #[rawInt 66, rawInt 4, .ref d]), (44, tabObj #[rawInt 51, rawInt 4, .ref c])] := by
    intro q hq
    simp only [List.mem_cons, List.not_mem_nil, or_false] at hq
    rcases hq with rfl | rfl | rfl | rfl
    · exact ⟨e4, dL, gd⟩
    · exact ⟨e3, cL, gc⟩
    · exact ⟨e2, Nat.ne_of_lt X.l51, X.g51⟩
    · exact ⟨e1, Nat.ne_of_lt X.l44, X.g44⟩
  by_cases h : a < lim
  · exact X.h s m Q E a t u c d oc od vc vd tc td F N r1 r2 r3 r4 r6 ha h hQ
  · exact X.l s m Q E a t u c d oc od vc vd tc td F N r1 r2 r3 r4 r6 (by omega) hb hQ
theorem DmAll.miss (X : DmAll prog w A G L p lim hi) {Q : Value → Shared → Prop} {a : Int} {t u : Tok} (F : Fr G L s.heap m) (e51 : s.heap.get? 51 = some (tabObj #[])) (e44 : s.heap.get? 44 = some (tabObj #[])) (ha : 1 ≤ a) (hb : a < 2) (hQ : ∀ s'' D, DmPost s s'' G L (a % p) D → Q (.ref D) s'') :
    wpAny (model prog w) A (call (.ref 70) [.int a t, .int p u]) Q E s := by
  refine X.e s m Q E a t u F (fun q hq => ?_) ha hb hQ
  simp only [List.mem_cons, List.not_mem_nil, or_false] at hq
  rcases hq with rfl | rfl
  · exact ⟨e51, Nat.ne_of_lt X.l51, X.g51⟩
  · exact ⟨e44, Nat.ne_of_lt X.l44, X.g44⟩
end
end Gy
end

section
open PySem PySem.W PySem.Calls PyProof.Rows
set_option maxRecDepth 100000
namespace Gy
section
variable {prog : Program} {w : World} {A : Around} {E : Value → Shared → Prop} {s : Shared} {G : Heap} {L fa : Addr} {cd : Value} {m mg mb : Str → Option Value} {cm : Nat → Option Value} {ac cc : Addr} {p lim hi : Int}
abbrev tupO (a b : Value) : Obj := { cls := .type "tuple", data := .seq #[a, b] }

/-- the pairs that the list of line 98 holds -/
def PSq (L : Addr) (X : Addr → Prop) (p : Int) (h : Heap) (vs : Array Value) (i : Nat) : Prop := ∀ j, j < i → ∃ T t u, vs[j]? = some (.ref T) ∧ h.get? T = some (tupO (.int ((1 + (j : Int)) * (1 + j) % p) t) (.int 1 u)) ∧ ¬ X T ∧ @LT.lt Nat _ L T
/-- the tables of codes after i calls -/
def TabIf (X : Addr → Prop) (h G : Heap) (L : Addr) (i : Nat) : Prop := if i = 0 then h.get? 51 = some (tabObj #[]) ∧ h.get? 44 = some (tabObj #[]) else GrownOff X h G L
set_option maxHeartbeats 1000000 in
theorem comp98 {t : Tok} {Q : Value → Shared → Prop} (hh : A.handled = none) (TP : Tops G mg mb ac cc) (X : DmAll prog w A G L p lim hi) (hGL : @LE.le Nat _ G.objs.size L) (hp : 2 ≤ p) (hp2 : p ≤ 100) (hlim : 1 < lim) (hhi : (p - 1) * (p - 1) < hi)
    (x : LS G L m cm s.heap) (hm : cm 1 = some (.int p t)) (e51 : s.heap.get? 51 = some (tabObj #[])) (e44 : s.heap.get? 44 = some (tabObj #[]))
    (hQ : ∀ h' tk D vs k, LS G L m cm h' → s.heap.get? D = none → h'.get? D = some (lst vs k) → vs.size = (p - 1).toNat → (∀ j, j < (p - 1).toNat → ∃ T t u, vs[j]? = some (.ref T) ∧ h'.get? T = some (tupO (.int ((1 + (j : Int)) * (1 + j) % p) t) (.int 1 u))) →
      Grown h' G L → (∀ b o, b ≠ 51 → b ≠ 44 → s.heap.get? b = some o → h'.get? b = some o) → Q (.ref D) { s with heap := h', toks := tk }) :
    wpAny (model prog w) A (eval lc98 (lawE L fa cd)) Q E s := by
  conv => arg 3; arg 1; whnf
  have c1 : ∀ {h : Heap}, LS G L m cm h → h.IsCell (cA L 1) (some (.int p t)) := fun y => by rw [← hm]; exact y.cell 1 (by decide) (by decide)
  have hLn : @LT.lt Nat _ (L + 6) s.heap.objs.size := let ⟨o, e, _⟩ := x.cell 6 (by decide) (by decide); Heap.lt_size e
  have l51 := X.l51
  have l44 := X.l44
  refine comp_enter (cl := [(Str.ofString "many", cA L 1)]) ?_ rfl (by decide) rfl (by decide) (fun _ => rfl)
  refine cT2 (T := "range") (fun Q hq => nmB (TP.base.keeps x.keep) TP.nrange TP.brange hq) (wpAny_Constant_int (nmC (c := cA L 1) (c1 x) (rg2 (by decide) (by omega) (by omega) fun I h tk hI1 hI2 hit kk => ?_)))
  intro D C h₃ hD hCD hd hc k₃
  dsimp only at hI1 kk hD k₃ ⊢
  have k03 : ∀ b o, s.heap.get? b = some o → h₃.get? b = some o := fun b o e => k₃ b o (kk b o e)
  have none_ge : ∀ b, @LE.le Nat _ s.heap.objs.size b → s.heap.get? b = none := fun b hb => by
    cases q : s.heap.get? b with
    | none => rfl
    | some o =>
      have : @LT.lt Nat _ b s.heap.objs.size := Heap.lt_size q
      omega
  have Lsz : @LT.lt Nat _ L s.heap.objs.size := Nat.lt_of_le_of_lt (Nat.le_add_right L 6) hLn
  have s51 : @LT.lt Nat _ 51 s.heap.objs.size := Nat.lt_trans l51 Lsz
  have s44 : @LT.lt Nat _ 44 s.heap.objs.size := Nat.lt_trans l44 Lsz
  have Dge : @LE.le Nat _ s.heap.objs.size D := Nat.le_trans hI1 (Nat.le_trans (Nat.le_of_lt hI2) hD)
  have Cge : @LE.le Nat _ s.heap.objs.size C := Nat.le_trans Dge (Nat.le_of_lt hCD)
  have up : ∀ b, @LE.le Nat _ s.heap.objs.size b → @LT.lt Nat _ 51 b ∧ @LT.lt Nat _ 44 b := fun b h => ⟨Nat.lt_of_lt_of_le s51 h, Nat.lt_of_lt_of_le s44 h⟩
  have XN : ∀ b, (b = I ∨ b = C ∨ b = D) → @LE.le Nat _ s.heap.objs.size b := by
    rintro b (rfl | rfl | rfl)
    · exact hI1
    · exact Cge
    · exact Dge
  have lo : ∀ b, @LT.lt Nat _ b s.heap.objs.size → ¬ (b = I ∨ b = C ∨ b = D) := fun b hb q => Nat.not_lt_of_le (XN b q) hb
  have Gold : ∀ b o, G.get? b = some o → @LT.lt Nat _ b s.heap.objs.size := fun b o e => Heap.lt_size (x.keep b o e)
  refine range_start rfl rfl (k₃ _ _ hit) ?_
  refine comp_leaf (n := (p - 1).toNat) (d := 0) rfl rfl (itr_range hh I 1 (p - 1).toNat _ _) rfl rfl rfl (fun b => b = C ∨ b = D ∨ b = 51 ∨ b = 44) (.inl rfl) (.inr (.inl rfl)) (Nat.ne_of_gt hCD) ?_ (k₃ _ _ hit)
    (fun i vs h => LS G L m cm h ∧ vs.size = i ∧ PSq L (fun y => y = I ∨ y = C ∨ y = D) p h vs i ∧ TabIf (fun y => y = I ∨ y = C ∨ y = D) h G L i) hd hc ⟨x.keeps k03, rfl, fun j hj => absurd hj (Nat.not_lt_zero _), by unfold TabIf; rw [if_pos rfl]; exact ⟨k03 _ _ e51, k03 _ _ e44⟩⟩ ?_ (fun _ _ _ _ q _ => q) ?_ ?_
  · rintro b rfl hb
    rcases hb with hb | hb | hb | hb
    · exact absurd hb (Nat.ne_of_lt (Nat.lt_of_lt_of_le hI2 (Nat.le_trans hD (Nat.le_of_lt hCD))))
    · exact absurd hb (Nat.ne_of_lt (Nat.lt_of_lt_of_le hI2 hD))
    · exact absurd hb (Nat.ne_of_gt (up _ hI1).1)
    · exact absurd hb (Nat.ne_of_gt (up _ hI1).2)
  · rintro i vs h₁ h₂ ⟨jx, jn, jt, jg⟩ kp
    have kp' : ∀ b o, ¬ (b = I ∨ b = C ∨ b = D) → h₁.get? b = some o → h₂.get? b = some o := fun b o hb e => kp b o (fun q => hb (.inl q)) (fun q => hb (.inr (.inl q))) (fun q => hb (.inr (.inr q))) e
    refine ⟨jx.mono fun b o hb e => kp' b o (lo b ?_) e, jn, fun j hj => ?_, ?_⟩
    · rcases hb with ⟨_, hb⟩ | ⟨o', hb⟩
      · exact Nat.lt_of_le_of_lt hb hLn
      · exact Gold b o' hb
    · obtain ⟨T, t, u, a1, a2, a3, a4⟩ := jt j hj
      exact ⟨T, t, u, a1, kp' _ _ a3 a2, a3, a4⟩
    · unfold TabIf at jg ⊢
      by_cases hi : i = 0
      · rw [if_pos hi] at jg ⊢
        exact ⟨kp' _ _ (lo _ s51) jg.1, kp' _ _ (lo _ s44) jg.2⟩
      · rw [if_neg hi] at jg ⊢
        exact jg.mono (lo _ s44) (lo _ s51) kp'
  · rintro i v s₁ E' vs k m₁ hlt ⟨t₁, rfl⟩ hst ⟨jx, jn, jt, jg⟩ hd₁ hc₁ hch
    refine wpAny_pure ?_
    rw [if_pos rfl]
    have B₁ := TP.base.keeps jx.keep
    refine tup2 (subC (cF2 (f := 70) TP.fdm (fun Q hq => nmG B₁ TP.mdm hq) (wpAny_BinOp (nmL hc₁ (if_pos rfl) (nmL hc₁ (if_pos rfl) (mul_int ?_ (IntMulOk.of_left ?_)))))))
    rotate_left
    · exact intBits_le (by omega)
    refine nmC (c := cA L 1) (c1 jx) ⟨jx.keep, ?_⟩
    have hI₁ : IsRangeIter s₁.heap I _ _ 1 := hst
    have fr : Fr G L s₁.heap m := ⟨jx.ns, jx.keep, hGL⟩
    have q1 : 1 ≤ (1 + (i : Int)) * (1 + i) := Int.mul_pos (by omega) (by omega)
    have q2 : (1 + (i : Int)) * (1 + i) ≤ (p - 1) * (p - 1) := Int.mul_le_mul (by omega) (by omega) (by omega) (by omega)
    have callit : ∀ (Post : Value → Shared → Prop) (tk : Nat) (u v : Tok), (∀ s₂ T, DmPost { s₁ with toks := tk } s₂ G L ((1 + (i : Int)) * (1 + i) % p) T → Post (.ref T) s₂) →
        wpAny (model prog w) A (call (.ref 70) [.int ((1 + (i : Int)) * (1 + i)) u, .int p v]) Post E' { s₁ with toks := tk } := by
      intro Post tk u v hpost
      unfold TabIf at jg
      by_cases h0 : i = 0
      · rw [if_pos h0] at jg
        exact X.miss (s := { s₁ with toks := tk }) fr jg.1 jg.2 q1 (by subst h0; decide) hpost
      · rw [if_neg h0] at jg
        exact X.hit (s := { s₁ with toks := tk }) fr jg.grown q1 (by omega) hpost
    refine callit _ _ _ _ fun s₂ T hP => ?_
    obtain ⟨⟨h₂, tk₂, rfl⟩, kk₂, ⟨q, t₂, u₂, hT⟩, hg⟩ := hP
    dsimp only at kk₂ hT hg
    refine wpAny_Constant_int ⟨"tuple", "tuple.__getitem__", slot_tuple_getitem.lookup, ⟨_, hT, rfl⟩, getItem_tuple (j := 1) ⟨_, hT, rfl, _, rfl⟩ (by decide) (by decide) rfl rfl ?_⟩
    refine wpAny_Constant_int ?_
    dsimp only
    have aI : ∀ {b o}, s₁.heap.get? b = some o → @LT.lt Nat _ 51 b → @LT.lt Nat _ 44 b → h₂.get? b = some o := fun e l1 l2 => kk₂ _ _ (Nat.ne_of_gt l1) (Nat.ne_of_gt l2) e
    have hI₂ := aI hI₁ (up _ hI1).1 (up _ hI1).2
    have hD₂ := aI hd₁ (up _ Dge).1 (up _ Dge).2
    have hC₂ : h₂.Ns C _ := hc₁.at' fun o e => aI e (up _ Cge).1 (up _ Cge).2
    have lI : @LT.lt Nat _ I h₂.objs.size := Heap.lt_size hI₂
    have lD : @LT.lt Nat _ D h₂.objs.size := Heap.lt_size hD₂
    have lC : @LT.lt Nat _ C h₂.objs.size := hC₂.lt
    have kp : ∀ (o' : Obj) b o, h₂.get? b = some o → (h₂.push o').get? b = some o := fun o' b o e => Heap.get?_push_of_some _ e
    have off := hg.off hI₂ hD₂ hC₂
    refine ⟨⟨_, _, rfl, fun b o hb e => kp _ _ _ (kk₂ b o (fun q => hb (.inr (.inr (.inl q)))) (fun q => hb (.inr (.inr (.inr q)))) e)⟩, ⟨k, _, kp _ _ _ hD₂, hC₂.keeps (kp _)⟩, ⟨?_, ?_, ?_, ?_⟩, ?_⟩
    · refine jx.mono fun b o hb e => kp _ _ _ (kk₂ b o ?_ ?_ e)
      · rcases hb with ⟨hb, _⟩ | ⟨o', hb⟩
        · exact Nat.ne_of_gt (Nat.lt_of_lt_of_le l51 hb)
        · rintro rfl; rw [X.g51] at hb; cases hb
      · rcases hb with ⟨hb, _⟩ | ⟨o', hb⟩
        · exact Nat.ne_of_gt (Nat.lt_of_lt_of_le l44 hb)
        · rintro rfl; rw [X.g44] at hb; cases hb
    · rw [Array.size_push, jn]
    · intro j hj
      rcases Nat.lt_succ_iff_lt_or_eq.mp hj with hj | rfl
      · obtain ⟨T', t', u', a1, a2, a3, a4⟩ := jt j hj
        refine ⟨T', t', u', ?_, kp _ _ _ (aI a2 (Nat.lt_trans l51 a4) (Nat.lt_trans l44 a4)), a3, a4⟩
        · rw [Array.getElem?_push_lt (by omega)]
          rw [Array.getElem?_eq_getElem (by omega)] at a1
          exact a1
      · refine ⟨h₂.objs.size, _, _, ?_, Heap.get?_push_size _ rfl, ?_, Nat.lt_trans (Nat.lt_of_lt_of_le Lsz hI1) lI⟩
        · rw [← jn]; exact Array.getElem?_push_size
        · rintro (q | q | q)
          · exact absurd q (Nat.ne_of_gt lI)
          · exact absurd q (Nat.ne_of_gt lC)
          · exact absurd q (Nat.ne_of_gt lD)
    · unfold TabIf
      rw [if_neg (Nat.succ_ne_zero i)]
      exact off.mono (lo _ s44) (lo _ s51) fun b o _ e => kp _ _ _ e
    · rw [jn]
      exact Nat.le_trans (Nat.le_of_lt hlt) (by unfold sizeLine; omega)
  · rintro s' vs k m' ⟨jx, jn, jt, jg⟩ hd' hc' hch
    refine ⟨_, rfl, m', hc', fun h' hs' => ?_⟩
    obtain ⟨h₄, tk₄, rfl, k₄⟩ := hch
    replace hs' : Heap.SameBut C h₄ h' := hs'
    have kx : ∀ b o, b ≠ C → h₄.get? b = some o → h'.get? b = some o := fun b o hb e => hs'.extBut b o hb e
    have n0 : (p - 1).toNat ≠ 0 := by omega
    unfold TabIf at jg
    rw [if_neg n0] at jg
    have hDC : D ≠ C := Nat.ne_of_lt hCD
    refine hQ h' tk₄ D vs k (jx.mono fun b o hb e => kx b o ?_ e) (none_ge D Dge) (kx _ _ hDC hd') jn (fun j hj => ?_) ?_ fun b o h1 h2 e => ?_
    · rcases hb with ⟨_, hb⟩ | ⟨o', hb⟩
      · exact Nat.ne_of_lt (Nat.lt_of_lt_of_le (Nat.lt_of_le_of_lt hb hLn) Cge)
      · exact Nat.ne_of_lt (Nat.lt_of_lt_of_le (Gold b o' hb) Cge)
    · obtain ⟨T, t, u, a1, a2, a3, a4⟩ := jt j hj
      exact ⟨T, t, u, a1, kx _ _ (fun q => a3 (.inr (.inl q))) a2⟩
    · obtain ⟨c, d, oc, od, vc, vd, tc, td, b1, b2, b3, b4, r1, r2, r3, r4, r5, r6, xc, xd⟩ := jg
      exact ⟨c, d, oc, od, vc, vd, tc, td, kx _ _ (Nat.ne_of_lt (up _ Cge).2) b1, kx _ _ (Nat.ne_of_lt (up _ Cge).1) b2, kx _ _ (fun q => xc (.inr (.inl q))) b3, kx _ _ (fun q => xd (.inr (.inl q))) b4, r1, r2, r3, r4, r5, r6⟩
    · have hb : @LT.lt Nat _ b s.heap.objs.size := Heap.lt_size e
      refine kx b o (Nat.ne_of_lt (Nat.lt_of_lt_of_le hb Cge)) (k₄ b o ?_ (k03 b o e))
      rintro ((q | q | q | q) | q)
      · exact lo b hb (.inr (.inl q))
      · exact lo b hb (.inr (.inr q))
      · exact h1 q
      · exact h2 q
      · exact lo b hb (.inl q)
end
end Gy
end

section
open PySem PySem.W PySem.Calls PyProof.Rows
set_option maxRecDepth 100000
namespace Gy
section
variable {prog : Program} {w : World} {K : Type} [DecidableEq K] {knd : KeyKind prog w K} {A : Around} {E : Value → Shared → Prop} {s : Shared}
theorem iadd_dict {S d : Addr} {kvs : List (K × Value)} {ep c₀ : Nat} {R : Result → Shared → Prop} (lo : (d == sysModules) = false) (hh : A.handled = none) (hm : s.heap.DictAt knd d kvs ep) (hsz : kvs.length ≤ sizeLine) (hne : S ≠ d)
    (hS : s.heap.get? S = some (seqObj "list" #[] c₀))
    (hR : ∀ h' tk (acc' : Array Value) c', (∀ b o, b ≠ S → s.heap.get? b = some o → h'.get? b = some o) → h'.get? S = some (seqObj "list" acc' c') → ItemsOf (fun i v => ∃ k x, kvs[i]? = some (k, x) ∧ knd.is k v = true) acc' kvs.length → R (.ok (.ret (.ref S))) { s with heap := h', toks := tk }) :
    codeAny (model prog w) A (.builtin "list.__iadd__" ⟨[.ref S, .ref d], []⟩) R s := by
  refine codeAny_builtin entry_list_iadd' ?_
  show wpAny _ _ (Builtin.List.listExtendWith (.ref S) (.ref d) (.ref S)) _ _ s
  rw [Around.under_plainId (by decide +kernel)]
  exact kdl_extend (kdl_dict (knd := knd) (kvs := kvs) (ep := ep) lo) hh hm S hne hne _ c₀ hS hR hsz
theorem collect_dict {d : Addr} {kvs : List (K × Value)} {ep : Nat} {Q : List Value → Shared → Prop} (lo : (d == sysModules) = false) (hh : A.handled = none) (hm : s.heap.DictAt knd d kvs ep) (hsz : kvs.length ≤ sizeLine)
    (hQ : ∀ h' tk (vs : List Value), vs.length = kvs.length → (∀ (j : Nat) (v : Value), vs[j]? = some v → ∃ k x, kvs[j]? = some (k, x) ∧ knd.is k v = true) → (∀ b o, s.heap.get? b = some o → h'.get? b = some o) → Q vs { s with heap := h', toks := tk }) :
    wpAny (model prog w) A (collect (.ref d)) Q E s := by
  unfold collect
  refine wpAny_bind (wpAny_runValue (codeAny_builtin entry_proto_collect' ?_))
  show wpAny _ _ (do again (.builtin "list.__iadd__" ⟨[← newList [], .ref d], []⟩)) _ _ s
  have hS : (s.heap.push (seqObj "list" #[] 0)).get? s.heap.objs.size = some (seqObj "list" #[] 0) := Heap.get?_push_size _ rfl
  have hne : @Ne Nat s.heap.objs.size d := Nat.ne_of_gt hm.lt_size
  have kp : ∀ b o, s.heap.get? b = some o → (s.heap.push (seqObj "list" #[] 0)).get? b = some o := fun b o e => Heap.get?_push_of_some _ e
  refine wpAny_bind (wpAny_newList (wpAny_pure ⟨Code.quiet_builtin _ (by decide +kernel), iadd_dict (s := { s with heap := s.heap.push (seqObj "list" #[] 0) }) (knd := knd) (kvs := kvs) (ep := ep) (c₀ := 0) lo hh (hm.push _) hsz hne hS fun h' tk acc' c' hk hS' hacc => ?_⟩))
  dsimp only at hk
  refine wpAny_bind (wpAny_load hS' ?_)
  refine wpAny_pure (hQ h' tk acc'.toList ?_ (fun j v e => ?_) fun b o e => hk b o (Nat.ne_of_lt (Heap.lt_size e)) (kp b o e))
  · rw [Array.length_toList]; exact hacc.1
  · exact hacc.2 j v (by rw [← Array.getElem?_toList]; exact e)

theorem ints_of {prog : Program} {w : World} : ∀ {kvs : List (Int × Value)} {vs : List Value}, vs.length = kvs.length → (∀ (j : Nat) (v : Value), vs[j]? = some v → ∃ k x, kvs[j]? = some (k, x) ∧ (intKind prog w).is k v = true) → IntsAre vs (kvs.map (·.1))
  | [], [], _, _ => .nil
  | (k, x) :: kvs, v :: vs, hl, h => by
    obtain ⟨k', x', e, hv⟩ := h 0 v rfl
    cases e
    have ih := ints_of (kvs := kvs) (vs := vs) (by simpa using hl) fun j v hj => h (j + 1) v hj
    obtain ⟨t, rfl⟩ := Value.isInt_shape (show Value.isInt k v = true from hv)
    exact .cons _ _ ih
  | [], _ :: _, hl, _ => by simp at hl
  | _ :: _, [], hl, _ => by simp at hl
/-- sorted(d) of a dict of ints: a new list of its keys in order -/
theorem sorted_dict {d : Addr} {kvs : List (Int × Value)} {Q : Value → Shared → Prop} (lo : (d == sysModules) = false) (hh : A.handled = none) (hm : s.heap.DictOf (intKind prog w) d kvs) (h64 : kvs.length < 64)
    (hQ : ∀ h' tk D (out : Array Value) k (ns : List Int), IntsAre out.toList ns → ns.Perm (kvs.map (·.1)) → ns.Pairwise (· ≤ ·) → (∀ b o, s.heap.get? b = some o → @LT.lt Nat _ b D) → h'.get? D = some (lst out k) → (∀ b o, s.heap.get? b = some o → h'.get? b = some o) → Q (.ref D) { s with heap := h', toks := tk }) :
    wpAny (model prog w) A (call (.builtin "sorted") [.ref d]) Q E s := by
  obtain ⟨ep, hm⟩ : ∃ ep, s.heap.DictAt (intKind prog w) d kvs ep := let ⟨o, es, ep, r⟩ := hm; ⟨ep, o, es, r⟩
  refine Calls.call_function_entry kind_sorted plain_sorted entry_sorted (args_sorted1 _) ?_
  unfold Builtin.«sorted»
  refine wpAny_bind (m := checkCount "sorted" 1 1 _) (wpAny_pure ?_)
  refine wpAny_bind (collect_dict lo hh hm (Nat.le_trans (Nat.le_of_lt h64) (by decide)) fun h₁ tk vs hlen hvs hk => ?_)
  have hI : IntsAre vs (kvs.map (·.1)) := by
    exact ints_of hlen hvs
  refine wpAny_bind (wpAny_newList ?_)
  have hoL : (h₁.push (seqObj "list" vs.toArray 0)).get? h₁.objs.size = some (seqObj "list" vs.toArray 0) := Heap.get?_push_size _ rfl
  refine wpAny_bind (wpAny_holding (wpAny_call_entry slot_list_sort ⟨_, hoL, rfl⟩ entry_list_sort (list_sort_tree hoL hI (by omega) fun out ns' a1 a2 a3 => ⟨_, rfl, ?_⟩) (args_list_sort _)))
  refine wpAny_pure ⟨_, rfl, ?_⟩
  obtain ⟨e, he⟩ := sortedHeap_at (out := out) hoL
  refine hQ _ tk _ out e ns' a1 a2 a3 ?_ he fun b o eb => ?_
  · exact fun b o eb => Heap.lt_size (hk b o eb)
  · have hb : @LT.lt Nat _ b h₁.objs.size := Heap.lt_size (hk b o eb)
    show Heap.get? (sortedHeap _ _ _ _) b = some o
    rw [sortedHeap_old (Nat.ne_of_lt hb) (by rw [size_push']; exact Nat.lt_succ_of_lt hb)]
    exact Heap.get?_push_of_some _ (hk b o eb)
end
end Gy
end

section
open PySem PySem.W PySem.Calls PyProof.Rows
set_option maxRecDepth 100000
namespace Gy
def addKey (ks : List Int) (k : Int) : List Int := if ks.any (fun x => decide (x = k)) then ks else ks ++ [k]
/-- the rests of the squares, and the numbers that squares leave, in order -/
def rests (p : Int) : List Int := (List.range (p - 1).toNat).map fun (j : Nat) => (1 + (j : Int)) * (1 + j) % p
def sq (p : Int) : List Int := if p = 7 then [1, 2, 4] else [1, 3, 4, 5, 9]
theorem sq_perm (p : Int) (hp : p = 7 ∨ p = 11) : (sq p).Perm ((rests p).foldl addKey []) ∧ (sq p).Pairwise (· ≤ ·) := by
  rcases hp with rfl | rfl <;> exact ⟨by decide +kernel, by decide +kernel⟩
theorem stored_keys (kvs : List (Int × Value)) (k : Int) (v : Value) : (stored kvs k v).map (·.1) = addKey (kvs.map (·.1)) k := by
  unfold stored addKey
  have e : (kvs.map (·.1)).any (fun x => decide (x = k)) = kvs.any (fun kv => decide (kv.1 = k)) := by rw [List.any_map]; rfl
  rw [e]
  split
  · rw [List.map_map]
    refine List.map_congr_left fun y _ => ?_
    show (if y.1 = k then (y.1, v) else y).1 = y.1
    split <;> rfl
  · rw [List.map_append]; rfl
theorem isInt_self {prog : Program} {w : World} (k : Int) (t : Tok) : (intKind prog w).is k (.int k t) = true := by show Value.isInt k (.int k t) = true; simp [Value.isInt]
/-- a list of ints -/
def IntsAt (h : Heap) (D : Addr) (ns : List Int) : Prop := ∃ vs k, h.get? D = some (lst vs k) ∧ IntsAre vs.toList ns
theorem IntsAt.at' {h h' : Heap} {D : Addr} {ns : List Int} (x : IntsAt h D ns) (k : ∀ o, h.get? D = some o → h'.get? D = some o) : IntsAt h' D ns := let ⟨vs, n, e, r⟩ := x; ⟨vs, n, k _ e, r⟩

section
variable {prog : Program} {w : World} {A : Around} {E : Value → Shared → Prop} {s : Shared} {G : Heap} {L fa : Addr} {cd : Value} {m mg mb : Str → Option Value} {cm : Nat → Option Value} {ac cc : Addr} {p lim hi : Int}
set_option maxHeartbeats 1000000 in
theorem line98 {t : Tok} {Q : Flow → Shared → Prop} (hh : A.handled = none) (TP : Tops G mg mb ac cc) (X : DmAll prog w A G L p lim hi) (hGL : @LE.le Nat _ G.objs.size L) (hp : p = 7 ∨ p = 11) (hlim : 1 < lim) (hhi : (p - 1) * (p - 1) < hi)
    (x : LS G L m cm s.heap) (hm : cm 1 = some (.int p t)) (e51 : s.heap.get? 51 = some (tabObj #[])) (e44 : s.heap.get? 44 = some (tabObj #[]))
    (hQ : ∀ h' tk S, LS G L m (fun j => if j = 2 then some (.ref S) else cm j) h' → @LT.lt Nat _ (L + 6) S → IntsAt h' S (sq p) → (∃ ps, h'.get? 51 = some (tabObj ps)) → (∃ ps, h'.get? 44 = some (tabObj ps)) → (∀ b o, b ≠ 51 → b ≠ 44 → b ≠ cA L 2 → s.heap.get? b = some o → h'.get? b = some o) → Q .next { s with heap := h', toks := tk }) :
    wpAny (model prog w) A (exec (st 1) (lawE L fa cd)) Q E s := by
  conv => arg 3; arg 1; whnf
  have hp2 : 2 ≤ p := by rcases hp with rfl | rfl <;> decide
  have hp3 : p ≤ 100 := by rcases hp with rfl | rfl <;> decide
  have B₀ := TP.base.keeps x.keep
  have hLn : @LT.lt Nat _ (L + 6) s.heap.objs.size := let ⟨o, e, _⟩ := x.cell 6 (by decide) (by decide); Heap.lt_size e
  refine wpAny_Assign_Name (cB1 (id := "sorted") (fun Q hq => nmB B₀ TP.nsorted TP.bsorted hq) (cT1 (T := "dict") (fun Q hq => nmB B₀ TP.ndict TP.bdict hq) ?_))
  refine comp98 hh TP X hGL hp2 hp3 hlim hhi x hm e51 e44 fun h₁ tk₁ D vs k x₁ hDn hD hsz hvs hg k₁ => ?_
  refine call_dict_pairs (s := { s with heap := h₁, toks := tk₁ }) hh hD (fun i h => ∃ kvs, h.DictOf (intKind prog w) h₁.objs.size kvs ∧ kvs.map (·.1) = ((rests p).take i).foldl addKey [] ∧ kvs.length ≤ i) ?_ ?_ ?_ ?_
  · intro h e
    exact ⟨[], ⟨_, #[], 0, e, ⟨rfl, rfl, rfl⟩, rfl, fun _ he => by simp at he, Pairs.nil, List.nodup_nil⟩, rfl, Nat.le_refl _⟩
  · rintro i h h' ⟨kvs, ⟨o, es, ep, ho, r⟩, e, hz⟩ kk
    exact ⟨kvs, ⟨o, es, ep, kk _ _ (Nat.lt_succ_self _) ho, r⟩, e, hz⟩
  · rintro i s₁ A₁ E' hu hi ⟨kvs, hd, e, hz⟩ kk
    obtain ⟨T, t', u', hT, hTo⟩ := hvs i (by omega)
    dsimp only at kk
    refine ⟨T, _, _, hT, ⟨_, kk _ _ hTo, rfl, _, rfl⟩, wpAny_dictSet_pairs (knd := intKind prog w) (k := (1 + (i : Int)) * (1 + i) % p) (isInt_self _ _) hd (fun h₂ hd₂ hs₂ => ⟨⟨h₂, _, rfl, hs₂⟩, _, hd₂, ?_, ?_⟩) (by unfold sizeLine; omega)⟩
    · rw [stored_keys, e, List.take_add_one, List.foldl_append]
      have hr : (rests p)[i]? = some ((1 + (i : Int)) * (1 + i) % p) := by
        unfold rests
        rw [List.getElem?_map, List.getElem?_range (by omega)]
        rfl
      rw [hr]; rfl
    · have := stored_length_le kvs ((1 + (i : Int)) * (1 + i) % p) (.int 1 u')
      omega
  · rintro h₂ tk₂ ⟨kvs, hd, e, hz⟩ kk
    dsimp only at kk
    have hrl : (rests p).length = (p - 1).toNat := by unfold rests; rw [List.length_map, List.length_range]
    rw [hsz, List.take_of_length_le (Nat.le_of_eq hrl)] at e
    have lsz : @LT.lt Nat _ 1 h₁.objs.size := by
      have : @LT.lt Nat _ D h₁.objs.size := Heap.lt_size hD
      have : @LT.lt Nat _ (L + 6) h₁.objs.size := let ⟨o, e, _⟩ := x₁.cell 6 (by decide) (by decide); Heap.lt_size e
      have l51 := X.l51
      omega
    refine sorted_dict (s := { s with heap := h₂, toks := tk₂ }) (beq_eq_false_iff_ne.mpr (Nat.ne_of_gt lsz)) hh hd (by omega) fun h₃ tk₃ S out k' ns hI hpm hpw hSn hS k₃ => ?_
    dsimp only at hSn k₃
    rw [e] at hpm
    have hns : ns = sq p := ksm_same (hpm.trans (sq_perm p hp).1.symm) hpw (sq_perm p hp).2
    subst hns
    have x₂ : LS G L m cm h₂ := x₁.keeps kk
    have x₃ : LS G L m cm h₃ := x₂.keeps k₃
    obtain ⟨oc, eoc, roc⟩ := x₃.cell 2 (by decide) (by decide)
    refine wpAny_storeName_cell (c := cA L 2) rfl rfl rfl ⟨oc, eoc, roc⟩ fun h₄ hc₄ hs₄ => ?_
    replace hs₄ : Heap.SameBut (cA L 2) h₃ h₄ := hs₄
    have hSL : @LT.lt Nat _ (L + 6) S := let ⟨o, e, _⟩ := x₂.cell 6 (by decide) (by decide); hSn _ _ e
    have gcell : G.get? (cA L 2) = none := by
      cases q : G.get? (cA L 2) with
      | none => rfl
      | some o =>
        have h1 : @LT.lt Nat _ (cA L 2) G.objs.size := Heap.lt_size q
        have h2 : @LE.le Nat _ L (cA L 2) := Nat.le_add_right ..
        omega
    refine hQ h₄ _ S (x₃.setC (by decide) gcell hc₄ hs₄) hSL ⟨out, k', hs₄.extBut _ _ (fun q => absurd (show @LE.le Nat _ S (L + 6) from q ▸ (cA_own (by decide)).2) (Nat.not_le_of_gt hSL)) hS, hI⟩ ?_ ?_ fun b o n1 n2 n3 e => ?_
    · obtain ⟨c, d, oc, od, vc, vd, tc, td, b1, b2, _⟩ := hg
      have l51 := X.l51
      exact ⟨_, hs₄.extBut _ _ (fun q => absurd (show @LE.le Nat _ L 51 from q ▸ (Nat.le_add_right ..)) (Nat.not_le_of_gt l51)) (k₃ _ _ (kk _ _ b2))⟩
    · obtain ⟨c, d, oc, od, vc, vd, tc, td, b1, b2, _⟩ := hg
      have l44 := X.l44
      exact ⟨_, hs₄.extBut _ _ (fun q => absurd (show @LE.le Nat _ L 44 from q ▸ (Nat.le_add_right ..)) (Nat.not_le_of_gt l44)) (k₃ _ _ (kk _ _ b1))⟩
    · exact hs₄.extBut b o n3 (k₃ _ _ (kk _ _ (k₁ b o n1 n2 e)))
end
end Gy
end

section
open PySem PySem.W PySem.Calls PyProof.Rows
set_option maxRecDepth 100000
namespace Gy
/-- s' is s with more on its heap -/
abbrev Kp (s s' : Shared) : Prop := Ch (fun _ => False) s s'
theorem Kp.get {s s' : Shared} (x : Kp s s') {b : Addr} {o : Obj} (e : s.heap.get? b = some o) : s'.heap.get? b = some o := Ch.get x (fun q => q) e
theorem Kp.all {s s' : Shared} (x : Kp s s') : ∀ b o, s.heap.get? b = some o → s'.heap.get? b = some o := fun _ _ e => x.get e
theorem Kp.of {s : Shared} {h' : Heap} {tk : Nat} (k : ∀ b o, s.heap.get? b = some o → h'.get? b = some o) : Kp s { s with heap := h', toks := tk } := ⟨h', tk, rfl, fun b o _ e => k b o e⟩
section
variable {prog : Program} {w : World} {A : Around} {E : Value → Shared → Prop} {s : Shared} {env : Env}

set_option maxHeartbeats 1000000 in
/-- a list comprehension of one clause whose turns only make new objects -/
theorem comp_one {elt iter : Expr} {x : Str} {px : Pos} {ifs : List Expr} {scope : Scope} {pos : Pos} {cl : List (Str × Addr)} {n : Nat} {fp : Addr → Addr → Prop} {P : Nat → Value → Prop} {St : Addr → Nat → Heap → Prop} {Q : Value → Shared → Prop}
    (I₀ : ∀ I, s.heap.get? I = none → Itr prog w A I (fp I) (.Name x px) n (fun i v _ => P i v) (St I)) (hfp : ∀ I b, fp I b → b = I ∨ ∃ o, s.heap.get? b = some o)
    (hthere : ∀ I i h, St I i h → ∃ o, h.get? I = some o)
    (hself : ∀ I (s₁ : Shared) (Q : Value → Shared → Prop) (E : Value → Shared → Prop), St I 0 s₁.heap → Q (.ref I) s₁ → wpAny (model prog w) A (pyIter (.ref I)) Q E s₁)
    (hit : wpAny (model prog w) A (eval iter env) (fun xv s₁ => wpAny (model prog w) A (pyIter xv) (fun it s₂ => ∃ I, it = .ref I ∧ s.heap.get? I = none ∧ (∃ o, s₂.heap.get? I = some o) ∧ St I 0 s₂.heap ∧ Kp s s₂) E s₁) E s)
    (hclos : closureFor scope env = pure cl) (hcell : ∀ y ∈ scope.names, y.2 ≠ .cell) (hkind : scope.kind = .function)
    (hnames : ∀ y ∈ scope.names, y.2 = .local → scope.names.lookup y.1 = some .local) (hs : ∀ x, foldedSetIterable iter env x = pure x)
    (hx : ∀ C, (compEnvC scope cl C env).kindOf x = some .local)
    (J : (Addr → Prop) → Nat → Array Value → Heap → Prop)
    (h0 : ∀ X h, (∀ b o, s.heap.get? b = some o → h.get? b = some o) → J X 0 #[] h)
    (jst : ∀ X i vs h h', (∀ b, X b → s.heap.get? b = none) → J X i vs h → (∀ b o, ¬ X b → h.get? b = some o → h'.get? b = some o) → J X i vs h')
    (hsz : ∀ X i vs h, J X i vs h → vs.size ≤ sizeLine)
    (step : ∀ X i v (s₁ : Shared) C vs (m : Str → Option Value) (E : Value → Shared → Prop), i < n → P i v → (∀ b, X b → s.heap.get? b = none ∧ ∃ o, s₁.heap.get? b = some o) → J X i vs s₁.heap → Kp s s₁ → s₁.heap.Ns C (fun y => if y = x then some v else m y) →
      wpAny (model prog w) A (forIn ifs true fun c r => if r = true then do let ok ← isTrue c (compEnvC scope cl C env) (eval c (compEnvC scope cl C env)); pure (ForInStep.yield ok) else pure (ForInStep.yield r)) (fun ok s₃ =>
        if ok = true then wpAny (model prog w) A (eval elt (compEnvC scope cl C env)) (fun y s₄ => Kp s₁ s₄ ∧ J X (i + 1) (vs.push y) s₄.heap) E s₃ else Kp s₁ s₃ ∧ J X (i + 1) vs s₃.heap) E s₁)
    (hQ : ∀ X h' tk D vs k, (∀ b, X b → s.heap.get? b = none) → J X n vs h' → s.heap.get? D = none → (∀ b o, s.heap.get? b = some o → @LT.lt Nat _ b D) → h'.get? D = some (lst vs k) → (∀ b o, s.heap.get? b = some o → h'.get? b = some o) → Q (.ref D) { s with heap := h', toks := tk }) :
    wpAny (model prog w) A (eval (.ListComp elt [⟨.Name x px, iter, ifs, 0⟩] scope pos) env) Q E s := by
  refine comp_enter (cl := cl) (wpAny_mono hit (fun xv s₁ h₁ => wpAny_mono h₁ (fun it s₂ h₂ => ?_) fun _ _ e => e) fun _ _ e => e) hclos hcell hkind hnames hs
  obtain ⟨I, rfl, hIn, ⟨oI, hoI⟩, hst, hk⟩ := h₂
  intro D C h₃ hD hCD hd hc k₃
  obtain ⟨h₂, tk₂, rfl, _⟩ := id hk
  have k02 : ∀ b o, s.heap.get? b = some o → h₂.get? b = some o := hk.all
  dsimp only at hoI hst hD k₃ ⊢
  have k03 : ∀ b o, s.heap.get? b = some o → h₃.get? b = some o := fun b o e => k₃ b o (k02 b o e)
  have lt2 : ∀ b o, s.heap.get? b = some o → @LT.lt Nat _ b h₂.objs.size := fun b o e => Heap.lt_size (k02 b o e)
  have lI : @LT.lt Nat _ I h₂.objs.size := Heap.lt_size hoI
  have nge : ∀ b, @LE.le Nat _ h₂.objs.size b → s.heap.get? b = none := fun b hb => by
    cases q : s.heap.get? b with
    | none => rfl
    | some o => have := lt2 b o q; omega
  have XN : ∀ b, (b = I ∨ b = C ∨ b = D) → s.heap.get? b = none := by
    rintro b (rfl | rfl | rfl)
    · exact hIn
    · exact nge _ (by omega)
    · exact nge _ hD
  have neX : ∀ b o, s.heap.get? b = some o → ¬ (b = I ∨ b = C ∨ b = D) := fun b o e q => by rw [XN b q] at e; cases e
  have hk₀ : (compEnvC scope cl C env).scope.kind = .function := hkind
  have st₃ : St I 0 h₃ := (I₀ I hIn).frame _ _ _ hst fun b o _ e => k₃ b o e
  refine compStart_go (g := ⟨.Name x px, iter, ifs, 0⟩) rfl rfl (fun Q E hq => hself I _ Q E st₃ hq) ?_
  refine comp_leaf (d := 0) rfl rfl (I₀ I hIn) rfl (hx C) hk₀ (fun b => b = C ∨ b = D) (.inl rfl) (.inr rfl) (Nat.ne_of_gt hCD) ?_ st₃ (J fun b => b = I ∨ b = C ∨ b = D) hd hc (h0 _ _ k03) ?_ (fun _ _ _ _ q _ => q) ?_ ?_
  · rintro b hb hw
    rcases hfp I b hb with q | ⟨o, q⟩
    · rcases hw with hw | hw
      · exact absurd (q.symm.trans hw) (show @Ne Nat _ _ by omega)
      · exact absurd (q.symm.trans hw) (show @Ne Nat _ _ by omega)
    · exact neX b o q (.inr hw)
  · intro i vs h h' hj kp
    exact jst _ i vs h h' XN hj fun b o hb e => kp b o (fun q => hb (.inl q)) (fun q => hb (.inr (.inl q))) (fun q => hb (.inr (.inr q))) e
  · intro i v s₁ E' vs k m₁ hi hP hSt hj hd₁ hc₁ hch
    have kp₁ : Kp s s₁ := by
      obtain ⟨h₄, tk₄, rfl, k₄⟩ := hch
      exact Kp.of fun b o e => k₄ b o (fun q => by
        rcases q with (q | q) | q
        · exact neX b o e (.inr (.inl q))
        · exact neX b o e (.inr (.inr q))
        · exact neX b o e (.inl q)) (k03 b o e)
    have ex : ∀ b, (b = I ∨ b = C ∨ b = D) → s.heap.get? b = none ∧ ∃ o, s₁.heap.get? b = some o := fun b hb => ⟨XN b hb, by
      rcases hb with rfl | rfl | rfl
      · exact hthere _ _ _ hSt
      · obtain ⟨o, _, _, ho, _⟩ := hc₁; exact ⟨o, ho⟩
      · exact ⟨_, hd₁⟩⟩
    refine wpAny_mono (step _ i v s₁ C vs m₁ E' hi hP ex hj kp₁ hc₁) (fun ok s₃ h₃ => ?_) fun _ _ e => e
    cases ok with
    | false =>
      simp only [Bool.false_eq_true, if_false] at h₃ ⊢
      obtain ⟨kp, hj'⟩ := h₃
      exact ⟨kp.mono fun _ q => q.elim, ⟨k, _, kp.get hd₁, hc₁.at' fun o e => kp.get e⟩, hj'⟩
    | true =>
      simp only [if_true] at h₃ ⊢
      refine wpAny_mono h₃ (fun y s₄ h₄ => ?_) fun _ _ e => e
      obtain ⟨kp, hj'⟩ := h₄
      exact ⟨kp.mono fun _ q => q.elim, ⟨k, _, kp.get hd₁, hc₁.at' fun o e => kp.get e⟩, hj', hsz _ _ _ _ hj⟩
  · intro s' vs k m' hj hd' hc' hch
    refine ⟨_, rfl, m', hc', fun h' hs' => ?_⟩
    obtain ⟨h₄, tk₄, rfl, k₄⟩ := hch
    replace hs' : Heap.SameBut C h₄ h' := hs'
    refine hQ _ h' tk₄ D vs k XN (jst _ _ _ _ _ XN hj fun b o hb e => hs'.extBut b o (fun q => hb (.inr (.inl q))) e) (nge _ hD) (fun b o e => Nat.lt_of_lt_of_le (lt2 b o e) hD) (hs'.extBut _ _ (Nat.ne_of_lt hCD) hd') fun b o e => ?_
    refine hs'.extBut b o (fun q => neX b o e (.inr (.inl q))) (k₄ b o (fun q => ?_) (k03 b o e))
    rcases q with (q | q) | q
    · exact neX b o e (.inr (.inl q))
    · exact neX b o e (.inr (.inr q))
    · exact neX b o e (.inl q)

/-- the same over range(b), range(a, b) -/
theorem range_hit1 {x np pos : _} {e : Expr} {mg mb : Str → Option Value} {b : Int} (B : Base s.heap mg mb) (hm : mg x = none) (hv : mb x = some (.type "range")) (hk : env.scope.kind = .function) (hl : env.kindOf x = some .globalImplicit) (hd : (x == ("__debug__" : Str)) = false)
    (hg : env.globals = mainGlobals) (hb : env.builtins = builtinsNs) (he : ∀ Q : Value → Shared → Prop, (∀ t, Q (.int b t) s) → wpAny (model prog w) A (eval e env) Q E s) (h0 : 0 ≤ b) (h1 : b < 2 ^ 40) (hs : starEach [e] env = [(false, eval e env)] := by rfl) :
    wpAny (model prog w) A (eval (.Call (.Name x np) [e] [] pos) env) (fun xv s₁ => wpAny (model prog w) A (pyIter xv) (fun it s₂ => ∃ I, it = .ref I ∧ s.heap.get? I = none ∧ (∃ o, s₂.heap.get? I = some o) ∧ IsRangeIter s₂.heap I (0 + (0 : Nat)) ((b.toNat : Int) - (0 : Nat)) 1 ∧ Kp s s₂) E s₁) E s := by
  refine cT1 (T := "range") (fun Q hq => nmB B hm hv hq hg hb hk hl hd) (he _ fun t => rg1 h0 h1 fun I h tk hI1 hI2 hit kk => ⟨I, rfl, ?_, ⟨_, hit⟩, hit, Kp.of kk⟩) hs
  cases q : s.heap.get? I with
  | none => rfl
  | some o => exact absurd (Heap.lt_size q) (Nat.not_lt_of_le hI1)
end
end Gy
end

section
open PySem PySem.W PySem.Calls PyProof.Rows
set_option maxRecDepth 100000
namespace Gy
section
variable {prog : Program} {w : World} {A : Around} {E : Value → Shared → Prop} {s : Shared} {env : Env}
theorem no_test {Q : Bool → Shared → Prop} (h : Q true s) : wpAny (model prog w) A (forIn ([] : List Expr) true fun c r => if r = true then do let ok ← isTrue c env (eval c env); pure (ForInStep.yield ok) else pure (ForInStep.yield r)) Q E s := wpAny_pure h
theorem one_test {c : Expr} {Q : Bool → Shared → Prop} (h : wpAny (model prog w) A (isTrue c env (eval c env)) Q E s) :
    wpAny (model prog w) A (forIn [c] true fun c r => if r = true then do let ok ← isTrue c env (eval c env); pure (ForInStep.yield ok) else pure (ForInStep.yield r)) Q E s := by
  rw [List.forIn_cons]
  rw [if_pos rfl]
  exact wpAny_bind (wpAny_bind (wpAny_mono h (fun b s' h' => wpAny_pure (wpAny_pure h')) fun _ _ e => e))
end
section
variable {prog : Program} {w : World} {A : Around} {E : Value → Shared → Prop} {s : Shared} {G : Heap} {L fa : Addr} {cd : Value} {m mg mb : Str → Option Value} {cm : Nat → Option Value} {ac cc : Addr} {p : Int}
theorem sq_facts (p : Int) (hp : p = 7 ∨ p = 11) : (((sq p).length : Int) != p.fdiv 2) = false ∧ ∀ i : Nat, i < (p - 1).toNat → ((sq p).any (· == 1 + (i : Int)) == (sq p).any (· == p - (1 + (i : Int)))) = false := by
  rcases hp with rfl | rfl <;> exact ⟨by decide +kernel, by decide +kernel⟩
theorem LS.c {h : Heap} (x : LS G L m cm h) {k : Nat} {v : Value} (h1 : 1 ≤ k) (h2 : k ≤ 6) (e : cm k = some v) : h.IsCell (cA L k) (some v) := by rw [← e]; exact x.cell k h1 h2
theorem IntsAt.isList {h : Heap} {D : Addr} {ns : List Int} (x : IntsAt h D ns) : ∃ vs : List Value, h.IsList D vs.toArray ∧ IntsAre vs ns := let ⟨vs, n, e, r⟩ := x; ⟨vs.toList, ⟨_, e, rfl, n, by simp⟩, r⟩

def lc99 : Expr := match st 2 with | .If (.BoolOp _ [_, .Compare l _ _ _] _) _ _ _ => l | _ => .Constant .none 0 ⟨0, 0, 0, 0⟩
set_option maxHeartbeats 1000000 in
theorem comp99 {t : Tok} {S : Addr} {Q : Value → Shared → Prop} (hh : A.handled = none) (TP : Tops G mg mb ac cc) (hp : p = 7 ∨ p = 11)
    (x : LS G L m cm s.heap) (hm : cm 1 = some (.int p t)) (hS : cm 2 = some (.ref S)) (hI : IntsAt s.heap S (sq p))
    (hQ : ∀ h' tk D k, (∀ b o, s.heap.get? b = some o → h'.get? b = some o) → h'.get? D = some (lst #[] k) → Q (.ref D) { s with heap := h', toks := tk }) :
    wpAny (model prog w) A (eval lc99 (lawE L fa cd)) Q E s := by
  conv => arg 3; arg 1; whnf
  have hp2 : 2 ≤ p := by rcases hp with rfl | rfl <;> decide
  have hp3 : p ≤ 100 := by rcases hp with rfl | rfl <;> decide
  have B₀ := TP.base.keeps x.keep
  refine comp_one (n := (p - 1).toNat) (cl := [(Str.ofString "squares", cA L 2), (Str.ofString "many", cA L 1)]) (fp := fun I b => b = I) (St := fun I i h => IsRangeIter h I (1 + i) ((p - 1).toNat - i) 1) (P := fun i v => ∃ t, v = .int (1 + i) t)
    (fun I _ => itr_range hh I 1 _ _ _) (fun I b q => .inl q) (fun I i h q => ⟨_, q⟩) (fun I s₁ Q E st hq => wpAny_pyIter_rangeiter st hq) ?_ rfl (by decide) rfl (by decide) (fun _ => rfl) (fun _ => rfl)
    (fun _ _ vs _ => vs = #[]) (fun _ _ _ => rfl) (fun _ _ _ _ _ _ q _ => q) (fun _ _ vs _ q => by rw [q]; decide) ?_ ?_
  · refine cT2 (T := "range") (fun Q hq => nmB B₀ TP.nrange TP.brange hq) (wpAny_Constant_int (nmC (c := cA L 1) (x.c (by decide) (by decide) hm) (rg2 (by decide) (by omega) (by omega) fun I h tk hI1 hI2 hit kk => ⟨I, rfl, ?_, ⟨_, hit⟩, hit, Kp.of kk⟩)))
    cases q : s.heap.get? I with
    | none => rfl
    | some o => exact absurd (Heap.lt_size q) (Nat.not_lt_of_le hI1)
  · rintro X i v s₁ C vs m₁ E' hi ⟨t₁, rfl⟩ hX rfl hk hc₁
    have x₁ := x.keeps hk.all
    obtain ⟨is, hil, hia⟩ := (hI.at' fun o e => hk.get e).isList
    refine one_test (wpAny_isTrue_Compare1 (wpAny_Compare1 (nmL hc₁ (if_pos rfl) (nmC (c := cA L 2) (x₁.c (by decide) (by decide) hS) (in_list_ints hil hia ?_)))))
    refine wpAny_Compare1 (wpAny_BinOp (nmC (c := cA L 1) (x₁.c (by decide) (by decide) hm) (nmL hc₁ (if_pos rfl) (sub_int ?_))))
    refine nmC (c := cA L 2) (x₁.c (by decide) (by decide) hS) (in_list_ints (s := { s₁ with toks := s₁.toks + 1 }) hil hia (eq_bool (wpAny_truthy_bool ?_)))
    rw [(sq_facts p hp).2 i hi]
    exact ⟨Kp.of fun _ _ e => e, rfl⟩
  · rintro X h' tk D vs k hX rfl hDn hDl hD kk
    exact hQ h' tk D k kk hD

set_option maxHeartbeats 1000000 in
theorem line99 {t : Tok} {S : Addr} {Q : Flow → Shared → Prop} (hh : A.handled = none) (hu : A.units + 64 < cLine) (TP : Tops G mg mb ac cc) (hp : p = 7 ∨ p = 11)
    (x : LS G L m cm s.heap) (hm : cm 1 = some (.int p t)) (hS : cm 2 = some (.ref S)) (hI : IntsAt s.heap S (sq p)) (hQ : ∀ s', Kp s s' → Q .next s') :
    wpAny (model prog w) A (exec (st 2) (lawE L fa cd)) Q E s := by
  conv => arg 3; arg 1; whnf
  have B₀ := TP.base.keeps x.keep
  obtain ⟨is, hil, hia⟩ := hI.isList
  have hp3 : 2 ≤ p ∧ p ≤ 100 := by rcases hp with rfl | rfl <;> decide
  have hlen := IntsAre.length hia
  have hl5 : (sq p).length ≤ 5 := by rcases hp with rfl | rfl <;> decide
  refine wpAny_If (wpAny_isTrue_BoolOp (wpAny_allTrue_Or_cons (wpAny_isTrue_Compare1 (cB1 (id := "len") (fun Q hq => nmB B₀ TP.nlen TP.blen hq) (nmC (c := cA L 2) (x.c (by decide) (by decide) hS) (call_len_list hil (by rw [List.size_toArray]; omega) ?_))))))
  refine wpAny_BinOp (nmC (c := cA L 1) (x.c (by decide) (by decide) hm) (wpAny_Constant_int (floordiv_int (by decide) (ne_int (wpAny_truthy_bool ?_)) (.inl (PyProof.noPylong_small (by decide))))))
  have e1 : ((is.toArray.size : Int) != p.fdiv 2) = false := by rw [List.size_toArray, hlen]; exact (sq_facts p hp).1
  rw [e1]
  show wpAny _ _ (allTrue .Or _ _) _ _ _
  refine wpAny_allTrue_Or_cons (wpAny_isTrue_Compare1 (comp99 hh TP hp x hm hS hI fun h' tk D k kk hD => ?_))
  refine List_ (show wpAny _ _ (spliced []) _ _ _ from spliced_nil (wpAny_newList (hsz := Nat.zero_le _) ?_))
  refine ke_ne_ints (xs := []) (ys := []) (ns := []) (ms := []) ⟨_, Heap.get?_push_of_some _ hD, rfl, k, rfl⟩ ⟨_, Heap.get?_push_size _ rfl, rfl, 0, rfl⟩ .nil .nil hu (wpAny_truthy_bool ?_)
  show wpAny _ _ (allTrue .Or [] _) _ _ _
  refine wpAny_allTrue_Or_nil ?_
  show wpAny _ _ (execs [] _) _ _ _
  exact wpAny_execs_nil (hQ _ (Kp.of fun b o e => Heap.get?_push_of_some _ (kk b o e)))
end
end Gy
end

section
open PySem PySem.W PySem.Calls PyProof.Rows
set_option maxRecDepth 100000
namespace Gy
section
variable {prog : Program} {w : World} {A : Around} {E : Value → Shared → Prop} {s : Shared} {env : Env}
/-- a clause that has another behind it -/
theorem comp_outer {R : Result → Shared → Prop} {elt iter t' i' : Expr} {x : Str} {px : Pos} {ifs ifs' : List Expr} {gens : List Comprehension} {scope : Scope} {pos : Pos} {d n : Nat} {it C D : Addr} {fp : Addr → Prop} {P : Nat → Value → Heap → Prop} {St : Nat → Heap → Prop} {cenv : Env}
    (hg : gens[d]? = some ⟨.Name x px, iter, ifs, 0⟩) (hn : gens[d + 1]? = some ⟨t', i', ifs', 0⟩) (hfs : ∀ x, foldedSetIterable i' cenv x = pure x) (I : Itr prog w A it fp (.Name x px) n P St) (hC : cenv.locals = C) (hx : cenv.kindOf x = some .local) (hk : cenv.scope.kind = .function)
    (W : Addr → Prop) (hWC : W C) (hWD : W D) (hCD : C ≠ D) (hfp : ∀ b, fp b → ¬ W b) (hst : St 0 s.heap) (J : Nat → Array Value → (Str → Option Value) → Heap → Prop) {vs₀ : Array Value} {k₀ : Nat} {m₀ : Str → Option Value}
    (hD₀ : s.heap.get? D = some (lst vs₀ k₀)) (hC₀ : s.heap.Ns C m₀) (h0 : J 0 vs₀ m₀ s.heap)
    (jst : ∀ i vs m m' h h', J i vs m h → (∀ y, y ≠ x → m y = m' y) → (∀ b o, b ≠ it → b ≠ C → b ≠ D → h.get? b = some o → h'.get? b = some o) → J i vs m' h')
    (hPk : ∀ i v h h', P i v h → (∀ b o, b ≠ C → h.get? b = some o → h'.get? b = some o) → P i v h')
    (step : ∀ i v (s₁ : Shared) (E : Value → Shared → Prop) (vs : Array Value) (k : Nat) (m : Str → Option Value), i < n → P i v s₁.heap → St (i + 1) s₁.heap → J i vs m s₁.heap → m x = some v → s₁.heap.get? D = some (lst vs k) → s₁.heap.Ns C m → Ch (fun b => W b ∨ b = it) s s₁ →
      wpAny (model prog w) A (forIn ifs true fun c r => if r = true then do let ok ← isTrue c cenv (eval c cenv); pure (ForInStep.yield ok) else pure (ForInStep.yield r)) (fun ok s₃ =>
        if ok = true then wpAny (model prog w) A (eval i' cenv) (fun xv s₄ => wpAny (model prog w) A (pyIter xv) (fun itv s₅ => codeAny (model prog w) A (.compStart (.ListComp elt gens scope pos) (d + 1) itv (.ref D) cenv)
            (fun r s₆ => r = .ok .next ∧ Ch W s₁ s₆ ∧ ∃ vs' k m, s₆.heap.get? D = some (lst vs' k) ∧ s₆.heap.Ns C m ∧ J (i + 1) vs' m s₆.heap) s₅) E s₄) E s₃
        else Ch W s₁ s₃ ∧ ∃ k m, s₃.heap.get? D = some (lst vs k) ∧ s₃.heap.Ns C m ∧ J (i + 1) vs m s₃.heap) E s₁)
    (fin : ∀ s' vs k m, J n vs m s'.heap → s'.heap.get? D = some (lst vs k) → s'.heap.Ns C m → Ch (fun b => W b ∨ b = it) s s' → R (.ok .next) s') :
    codeAny (model prog w) A (.compLoop (.ListComp elt gens scope pos) d (.ref it) (.ref D) cenv) R s := by
  have hp : (cenv.scope.kind == .class || (cenv.scope.kind == .module && cenv.locals != cenv.globals)) = false := by rw [hk]; rfl
  have hitW : ¬ W it := hfp it I.self
  have itC : it ≠ C := fun q => hitW (q ▸ hWC)
  have itD : it ≠ D := fun q => hitW (q ▸ hWD)
  refine compLoop_core I W (fun i h => ∃ vs k m, J i vs m h ∧ h.get? D = some (lst vs k) ∧ h.Ns C m) (do
            let x ← eval i' cenv
            standAt i'.pos
            let _ ← runOwn (.compStart (.ListComp elt gens scope pos) (d + 1) (← holding [x] (pyIter x)) (.ref D) cenv) cenv) (compTurn_inner hg hn hfs) hfp hst ⟨vs₀, k₀, m₀, h0, hD₀, hC₀⟩ ?_ ?_ ?_
  · rintro i h h' ⟨vs, k, m, hj, hd, hc⟩ kp
    exact ⟨vs, k, m, jst _ _ _ _ _ _ hj (fun _ _ => rfl) fun b o hb _ _ e => kp b o hb e, kp _ _ itD.symm hd, hc.at' fun o e => kp _ _ itC.symm e⟩
  · rintro i v s₁ E' hi hP hSt ⟨vs, k, m, hj, hd, hc⟩ hch
    refine wpAny_assign_Name (wpAny_storeName_local hx (hC ▸ hc) (fun h₂ hn₂ hs₂ => ?_) hp)
    rw [hC] at hn₂ hs₂
    replace hs₂ : Heap.SameBut C s₁.heap h₂ := hs₂
    have c₂ : Ch W s₁ { s₁ with heap := h₂, toks := s₁.toks + 1 } := ⟨h₂, _, rfl, fun b o hb e => hs₂.extBut b o (fun q => hb (q ▸ hWC)) e⟩
    refine wpAny_mono (step i v { s₁ with heap := h₂, toks := s₁.toks + 1 } E' vs k _ hi (hPk _ _ _ _ hP fun b o hb e => hs₂.extBut b o hb e) (I.frame _ _ _ hSt fun b o hb e => hs₂.extBut b o (fun q => hfp b hb (q ▸ hWC)) e)
      (jst _ _ _ _ _ _ hj (fun y hy => (if_neg hy).symm) fun b o _ hb _ e => hs₂.extBut b o hb e) (if_pos rfl)
      (hs₂.extBut _ _ hCD.symm hd) hn₂ (hch.trans (c₂.mono fun _ => .inl))) (fun ok s₃ h₃ => ?_) fun _ _ e => e
    cases ok with
    | false =>
      simp only [Bool.false_eq_true, if_false] at h₃ ⊢
      obtain ⟨c₃, k', m', hd', hc', hj'⟩ := h₃
      exact ⟨c₂.trans c₃, vs, k', m', hj', hd', hc'⟩
    | true =>
      simp only [if_true] at h₃ ⊢
      refine wpAny_bind (wpAny_mono h₃ (fun xv s₄ h₄ => wpAny_bind (wpAny_standAt (wpAny_bind (wpAny_holding (wpAny_mono h₄ (fun itv s₅ h₅ => ?_) fun _ _ e => e))))) fun _ _ e => e)
      refine wpAny_bind (wpAny_runOwn (codeAny_mono h₅ fun r s₆ h₆ => ?_))
      obtain ⟨rfl, c₆, vs', k', m', hd', hc', hj'⟩ := h₆
      exact wpAny_pure ⟨c₂.trans c₆, vs', k', m', hj', hd', hc'⟩
  · rintro s' ⟨vs, k, m, hj, hd, hc⟩ hch
    exact fin s' vs k m hj hd hc hch

/-- comp_leaf, with the block's own names told -/
theorem comp_leafM {R : Result → Shared → Prop} {elt iter : Expr} {x : Str} {px : Pos} {ifs : List Expr} {gens : List Comprehension} {scope : Scope} {pos : Pos} {d n : Nat} {it C D : Addr} {fp : Addr → Prop} {P : Nat → Value → Heap → Prop} {St : Nat → Heap → Prop} {cenv : Env}
    (hg : gens[d]? = some ⟨.Name x px, iter, ifs, 0⟩) (hn : gens[d + 1]? = none) (I : Itr prog w A it fp (.Name x px) n P St) (hC : cenv.locals = C) (hx : cenv.kindOf x = some .local) (hk : cenv.scope.kind = .function)
    (W : Addr → Prop) (hWC : W C) (hWD : W D) (hCD : C ≠ D) (hfp : ∀ b, fp b → ¬ W b) (hst : St 0 s.heap) (J : Nat → Array Value → (Str → Option Value) → Heap → Prop) {vs₀ : Array Value} {k₀ : Nat} {m₀ : Str → Option Value}
    (hD₀ : s.heap.get? D = some (lst vs₀ k₀)) (hC₀ : s.heap.Ns C m₀) (h0 : J 0 vs₀ m₀ s.heap)
    (jst : ∀ i vs m m' h h', J i vs m h → (∀ y, y ≠ x → m y = m' y) → (∀ b o, b ≠ it → b ≠ C → b ≠ D → h.get? b = some o → h'.get? b = some o) → J i vs m' h')
    (hPk : ∀ i v h h', P i v h → (∀ b o, b ≠ C → h.get? b = some o → h'.get? b = some o) → P i v h')
    (step : ∀ i v (s₁ : Shared) (E : Value → Shared → Prop) (vs : Array Value) (k : Nat) (m : Str → Option Value), i < n → P i v s₁.heap → St (i + 1) s₁.heap → J i vs m s₁.heap → m x = some v → s₁.heap.get? D = some (lst vs k) → s₁.heap.Ns C m → Ch (fun b => W b ∨ b = it) s s₁ →
      wpAny (model prog w) A (forIn ifs true fun c r => if r = true then do let ok ← isTrue c cenv (eval c cenv); pure (ForInStep.yield ok) else pure (ForInStep.yield r)) (fun ok s₃ =>
        if ok = true then wpAny (model prog w) A (eval elt cenv) (fun y s₄ => Ch W s₁ s₄ ∧ (s₄.heap.get? D = some (lst vs k) ∧ s₄.heap.Ns C m) ∧ J (i + 1) (vs.push y) m s₄.heap ∧ vs.size ≤ sizeLine) E s₃
        else Ch W s₁ s₃ ∧ (s₃.heap.get? D = some (lst vs k) ∧ s₃.heap.Ns C m) ∧ J (i + 1) vs m s₃.heap) E s₁)
    (fin : ∀ s' vs k m, J n vs m s'.heap → s'.heap.get? D = some (lst vs k) → s'.heap.Ns C m → Ch (fun b => W b ∨ b = it) s s' → R (.ok .next) s') :
    codeAny (model prog w) A (.compLoop (.ListComp elt gens scope pos) d (.ref it) (.ref D) cenv) R s := by
  have hp : (cenv.scope.kind == .class || (cenv.scope.kind == .module && cenv.locals != cenv.globals)) = false := by rw [hk]; rfl
  have hitW : ¬ W it := hfp it I.self
  have itC : it ≠ C := fun q => hitW (q ▸ hWC)
  have itD : it ≠ D := fun q => hitW (q ▸ hWD)
  refine compLoop_core I W (fun i h => ∃ vs k m, J i vs m h ∧ h.get? D = some (lst vs k) ∧ h.Ns C m) (do let _ ← call (.builtin "list.append") [.ref D, ← eval elt cenv]) (compTurn_leaf hg hn) hfp hst ⟨vs₀, k₀, m₀, h0, hD₀, hC₀⟩ ?_ ?_ ?_
  · rintro i h h' ⟨vs, k, m, hj, hd, hc⟩ kp
    exact ⟨vs, k, m, jst _ _ _ _ _ _ hj (fun _ _ => rfl) fun b o hb _ _ e => kp b o hb e, kp _ _ itD.symm hd, hc.at' fun o e => kp _ _ itC.symm e⟩
  · rintro i v s₁ E' hi hP hSt ⟨vs, k, m, hj, hd, hc⟩ hch
    refine wpAny_assign_Name (wpAny_storeName_local hx (hC ▸ hc) (fun h₂ hn₂ hs₂ => ?_) hp)
    rw [hC] at hn₂ hs₂
    replace hs₂ : Heap.SameBut C s₁.heap h₂ := hs₂
    have c₂ : Ch W s₁ { s₁ with heap := h₂, toks := s₁.toks + 1 } := ⟨h₂, _, rfl, fun b o hb e => hs₂.extBut b o (fun q => hb (q ▸ hWC)) e⟩
    refine wpAny_mono (step i v { s₁ with heap := h₂, toks := s₁.toks + 1 } E' vs k _ hi (hPk _ _ _ _ hP fun b o hb e => hs₂.extBut b o hb e) (I.frame _ _ _ hSt fun b o hb e => hs₂.extBut b o (fun q => hfp b hb (q ▸ hWC)) e)
      (jst _ _ _ _ _ _ hj (fun y hy => (if_neg hy).symm) fun b o _ hb _ e => hs₂.extBut b o hb e) (if_pos rfl)
      (hs₂.extBut _ _ hCD.symm hd) hn₂ (hch.trans (c₂.mono fun _ => .inl))) (fun ok s₃ h₃ => ?_) fun _ _ e => e
    cases ok with
    | false =>
      simp only [Bool.false_eq_true, if_false] at h₃ ⊢
      obtain ⟨c₃, ⟨hd', hc'⟩, hj'⟩ := h₃
      exact ⟨c₂.trans c₃, vs, k, _, hj', hd', hc'⟩
    | true =>
      simp only [if_true] at h₃ ⊢
      refine wpAny_bind (wpAny_mono h₃ (fun y s₄ h₄ => ?_) fun _ _ e => e)
      obtain ⟨c₄, ⟨hd', hc'⟩, hj', hz⟩ := h₄
      refine wpAny_bind (append_at hd' (fun h₅ hs₅ hd₅ => wpAny_pure ?_) hz)
      replace hs₅ : Heap.SameBut D s₄.heap h₅ := hs₅
      refine ⟨(c₂.trans c₄).trans ⟨h₅, s₄.toks, rfl, fun b o hb e => hs₅.extBut b o (fun q => hb (q ▸ hWD)) e⟩, vs.push y, k + 1, _, jst _ _ _ _ _ _ hj' (fun _ _ => rfl) fun b o _ _ hb e => hs₅.extBut b o hb e, hd₅, hc'.at' fun o e => hs₅.extBut _ o hCD e⟩
  · rintro s' ⟨vs, k, m, hj, hd, hc⟩ hch
    exact fin s' vs k m hj hd hc hch
end
end Gy
end

section
open PySem PySem.W PySem.Calls PyProof.Rows
set_option maxRecDepth 100000
namespace Gy
/-- does a beat b -/
def bt (p : Int) (a b : Nat) : Bool := (sq p).any (· == ((b : Int) - (a : Int)).fmod p)
/-- the r-th pair of the list that beat is made of -/
def PairsTo (X : Addr → Prop) (p : Int) (h : Heap) (vs : Array Value) (N : Nat) : Prop := ∀ r, r < N → ∃ T K t u, vs[r]? = some (.ref T) ∧ h.get? T = some (tupO (.ref K) (.bool (bt p (r / p.toNat) (r % p.toNat)))) ∧
  h.get? K = some (tupO (.int ((r / p.toNat : Nat) : Int) t) (.int ((r % p.toNat : Nat) : Int) u)) ∧ ¬ X T ∧ ¬ X K
theorem PairsTo.mono {X : Addr → Prop} {p : Int} {h h' : Heap} {vs : Array Value} {N : Nat} (x : PairsTo X p h vs N) (k : ∀ b o, ¬ X b → h.get? b = some o → h'.get? b = some o) : PairsTo X p h' vs N := fun r hr =>
  let ⟨T, K, t, u, e1, e2, e3, e4, e5⟩ := x r hr; ⟨T, K, t, u, e1, k _ _ e4 e2, k _ _ e5 e3, e4, e5⟩
theorem PairsTo.x {X Y : Addr → Prop} {p : Int} {h : Heap} {vs : Array Value} {N : Nat} (x : PairsTo X p h vs N) (k : ∀ b o, h.get? b = some o → ¬ X b → ¬ Y b) : PairsTo Y p h vs N := fun r hr =>
  let ⟨T, K, t, u, e1, e2, e3, e4, e5⟩ := x r hr; ⟨T, K, t, u, e1, e2, e3, k _ _ e2 e4, k _ _ e3 e5⟩
section
variable {prog : Program} {w : World} {A : Around} {E : Value → Shared → Prop} {s : Shared} {G : Heap} {L fa : Addr} {cd : Value} {m mg mb : Str → Option Value} {cm : Nat → Option Value} {ac cc : Addr} {p : Int}
def lc101 : Expr := argOf (valOf (st 3))
set_option maxHeartbeats 1000000 in
theorem comp101 {t : Tok} {S : Addr} {Q : Value → Shared → Prop} (hh : A.handled = none) (TP : Tops G mg mb ac cc) (hp : p = 7 ∨ p = 11)
    (x : LS G L m cm s.heap) (hm : cm 1 = some (.int p t)) (hS : cm 2 = some (.ref S)) (hI : IntsAt s.heap S (sq p))
    (hQ : ∀ X h' tk D vs k, (∀ b, X b → s.heap.get? b = none) → (∀ b o, s.heap.get? b = some o → h'.get? b = some o) → h'.get? D = some (lst vs k) → vs.size = p.toNat * p.toNat → PairsTo X p h' vs (p.toNat * p.toNat) → Q (.ref D) { s with heap := h', toks := tk }) :
    wpAny (model prog w) A (eval lc101 (lawE L fa cd)) Q E s := by
  conv => arg 3; arg 1; whnf
  have hp2 : 2 ≤ p ∧ p ≤ 100 := by rcases hp with rfl | rfl <;> decide
  have B₀ := TP.base.keeps x.keep
  refine comp_enter (cl := [(Str.ofString "squares", cA L 2), (Str.ofString "many", cA L 1)]) (wpAny_mono (range_hit1 (b := p) B₀ TP.nrange TP.brange rfl rfl rfl rfl rfl (fun Q hq => nmC (c := cA L 1) (x.c (by decide) (by decide) hm) (hq _)) (by omega) (by omega)) (fun xv s₁ h₁ => wpAny_mono h₁ (fun it s₂ h₂ => ?_) fun _ _ e => e) fun _ _ e => e) rfl (by decide) rfl (by decide) (fun _ => rfl)
  obtain ⟨I, rfl, hIn, ⟨oI, hoI⟩, hst, hk⟩ := h₂
  intro D C h₃ hD hCD hd hc k₃
  obtain ⟨h₂, tk₂, rfl, _⟩ := id hk
  have k02 : ∀ b o, s.heap.get? b = some o → h₂.get? b = some o := hk.all
  dsimp only at hoI hst hD k₃ ⊢
  have k03 : ∀ b o, s.heap.get? b = some o → h₃.get? b = some o := fun b o e => k₃ b o (k02 b o e)
  have lt2 : ∀ b o, s.heap.get? b = some o → @LT.lt Nat _ b h₂.objs.size := fun b o e => Heap.lt_size (k02 b o e)
  have lI : @LT.lt Nat _ I h₂.objs.size := Heap.lt_size hoI
  have nge : ∀ b, @LE.le Nat _ h₂.objs.size b → s.heap.get? b = none := fun b hb => by
    cases q : s.heap.get? b with
    | none => rfl
    | some o => exact absurd (lt2 b o q) (Nat.not_lt_of_le hb)
  have hC : @LE.le Nat _ h₂.objs.size C := Nat.le_trans hD (Nat.le_of_lt hCD)
  have p0 : 0 ≤ p := Int.le_trans (by decide) hp2.1
  have p40 : p < 2 ^ 40 := Int.lt_of_le_of_lt hp2.2 (by decide)
  have XN : ∀ b, (b = I ∨ b = C ∨ b = D) → s.heap.get? b = none := by
    rintro b (rfl | rfl | rfl)
    · exact hIn
    · exact nge _ hC
    · exact nge _ hD
  have neX : ∀ b o, s.heap.get? b = some o → ¬ (b = I ∨ b = C ∨ b = D) := fun b o e q => by rw [XN b q] at e; cases e
  refine range_start (g := ⟨_, _, _, 0⟩) rfl rfl (k₃ _ _ hst) ?_
  refine comp_outer (d := 0) rfl rfl (fun _ => rfl) (itr_range hh I 0 p.toNat _ _) rfl rfl rfl (fun b => b = C ∨ b = D) (.inl rfl) (.inr rfl) (Nat.ne_of_gt hCD) ?_ (k₃ _ _ hst)
    (fun i vs _ h => vs.size = p.toNat * i ∧ PairsTo (fun b => b = I ∨ b = C ∨ b = D) p h vs (p.toNat * i)) hd hc ⟨rfl, fun r hr => absurd hr (Nat.not_lt_zero _)⟩ ?_ (fun _ _ _ _ q _ => q) ?_ ?_
  · rintro b rfl hw
    rcases hw with hw | hw
    · exact absurd hw (Nat.ne_of_lt (Nat.lt_of_lt_of_le lI hC))
    · exact absurd hw (Nat.ne_of_lt (Nat.lt_of_lt_of_le lI hD))
  · rintro i vs _ _ h h' ⟨j1, j2⟩ _ kp
    exact ⟨j1, j2.mono fun b o hb e => kp b o (fun q => hb (.inl q)) (fun q => hb (.inr (.inl q))) (fun q => hb (.inr (.inr q))) e⟩
  · rintro i v s₁ E' vs k m₁ hi ⟨t₁, rfl⟩ hSt ⟨j1, j2⟩ hmx hd₁ hc₁ hch
    have kp₁ : Kp s s₁ := by
      obtain ⟨h₄, tk₄, rfl, k₄⟩ := hch
      exact Kp.of fun b o e => k₄ b o (fun q => by
        rcases q with (q | q) | q
        · exact neX b o e (.inr (.inl q))
        · exact neX b o e (.inr (.inr q))
        · exact neX b o e (.inl q)) (k03 b o e)
    have x₁ := x.keeps kp₁.all
    refine no_test ?_
    rw [if_pos rfl]
    refine cT1 (T := "range") (fun Q hq => nmB (TP.base.keeps x₁.keep) TP.nrange TP.brange hq) (nmC (c := cA L 1) (x₁.c (by decide) (by decide) hm) (rg1 p0 p40 fun I' h₄ tk₄ hI1 hI2 hit kk => ?_))
    refine range_start (g := ⟨_, _, _, 0⟩) rfl rfl hit ?_
    have I'n : ∀ b o, s₁.heap.get? b = some o → b ≠ I' := fun b o e => Nat.ne_of_lt (Nat.lt_of_lt_of_le (Heap.lt_size e) hI1)
    have exI : ∃ o, s₁.heap.get? I = some o := ⟨_, hSt⟩
    have hCI : C ≠ I' := let ⟨o, _, _, ho, _⟩ := hc₁; I'n _ o ho
    have hDI : D ≠ I' := I'n _ _ hd₁
    refine comp_leafM (d := 1) (n := p.toNat) rfl rfl (itr_range hh I' 0 p.toNat _ _) rfl rfl rfl (fun b => b = C ∨ b = D) (.inl rfl) (.inr rfl) (Nat.ne_of_gt hCD) ?_ hit
      (fun j vs m h => m (Str.ofString "one") = some (.int (0 + (i : Int)) t₁) ∧ vs.size = p.toNat * i + j ∧ PairsTo (fun b => (b = I ∨ b = C ∨ b = D) ∨ b = I') p h vs (p.toNat * i + j)) (kk _ _ hd₁) (hc₁.keeps kk)
      ⟨hmx, j1, (j2.x fun b o e hb q => q.elim hb (I'n b o e)).mono fun b o _ e => kk b o e⟩ ?_ (fun _ _ _ _ q _ => q) ?_ ?_
    · rintro b rfl hw
      rcases hw with hw | hw
      · exact hCI hw.symm
      · exact hDI hw.symm
    · rintro j vs m m' h h' ⟨a1, a2, a3⟩ hmm kp
      exact ⟨(hmm (Str.ofString "one") (by decide)).symm.trans a1, a2, a3.mono fun b o hb e => kp b o (fun q => hb (.inr q)) (fun q => hb (.inl (.inr (.inl q)))) (fun q => hb (.inl (.inr (.inr q)))) e⟩
    · rintro j v s₂ E₂ vs₂ k₂ m₂ hj ⟨t₂, rfl⟩ hSt₂ ⟨a1, a2, a3⟩ hmo hd₂ hc₂ hch₂
      have k14 : ∀ b o, ¬ (b = C ∨ b = D) → s₁.heap.get? b = some o → s₂.heap.get? b = some o := fun b o hb e => hch₂.get (fun q => q.elim hb (I'n b o e)) (kk b o e)
      have ks₂ : ∀ b o, s.heap.get? b = some o → s₂.heap.get? b = some o := fun b o e => k14 b o (fun q => neX b o e (.inr q)) (kp₁.get e)
      have x₂ : LS G L m cm s₂.heap := x.keeps ks₂
      refine no_test ?_
      rw [if_pos rfl]
      refine tup2 (tup2 (nmL hc₂ a1 (nmL hc₂ hmo ?_)))
      obtain ⟨is, hil, hia⟩ := (hI.at' fun o e => ks₂ _ _ e).isList
      have kq : ∀ (o' : Obj) b o, s₂.heap.get? b = some o → (s₂.heap.push o').get? b = some o := fun o' b o e => Heap.get?_push_of_some _ e
      dsimp only
      refine wpAny_Compare1 (wpAny_BinOp (wpAny_BinOp (nmL (hc₂.keeps (kq _)) hmo (nmL (hc₂.keeps (kq _)) a1 (sub_int ?_)))))
      refine nmC (c := cA L 1) ((x₂.keeps (kq _)).c (by decide) (by decide) hm) (mod_int (by omega) ?_)
      refine nmC (c := cA L 2) ((x₂.keeps (kq _)).c (by decide) (by decide) hS) (in_list_ints (vs := is) (let ⟨o, e, r⟩ := hil; ⟨o, kq _ _ _ e, r⟩) hia ?_)
      have eb : (sq p).any (· == (0 + (j : Int) - (0 + (i : Int))).fmod p) = bt p i j := by unfold bt; rw [Int.zero_add, Int.zero_add]
      rw [eb]
      have ei : (0 + (i : Int)) = i := Int.zero_add _
      have ej : (0 + (j : Int)) = j := Int.zero_add _
      rw [ei, ej]
      dsimp only
      have gK : (s₂.heap.push (tupO (.int i t₁) (.int j t₂))).get? s₂.heap.objs.size = some (tupO (.int i t₁) (.int j t₂)) := Heap.get?_push_size _ rfl
      have hz : (s₂.heap.push (tupO (.int i t₁) (.int j t₂))).objs.size = s₂.heap.objs.size + 1 := Heap.size_push ..
      have ltx : ∀ b, ((b = I ∨ b = C ∨ b = D) ∨ b = I') → @LT.lt Nat _ b s₂.heap.objs.size := by
        obtain ⟨oi, hoi⟩ := exI
        rintro b ((rfl | rfl | rfl) | rfl)
        · exact Heap.lt_size (k14 _ _ (fun q => by
            rcases q with q | q
            · exact absurd q (show @Ne Nat _ _ by omega)
            · exact absurd q (show @Ne Nat _ _ by omega)) hoi)
        · exact hc₂.lt
        · exact Heap.lt_size hd₂
        · exact Heap.lt_size hSt₂
      generalize hH : s₂.heap.push (tupO (.int i t₁) (.int j t₂)) = H at gK hz kq ⊢
      have kH : ∀ b o, s₂.heap.get? b = some o → H.get? b = some o := fun b o e => hH ▸ Heap.get?_push_of_some _ e
      have kT : ∀ (o' : Obj) b o, H.get? b = some o → (H.push o').get? b = some o := fun o' b o e => Heap.get?_push_of_some _ e
      have hpn : 0 < p.toNat := by omega
      refine ⟨⟨_, _, rfl, fun b o _ e => kT _ b o (kH b o e)⟩, ⟨kT _ _ _ (kH _ _ hd₂), (hc₂.keeps kH).keeps (kT _)⟩, ⟨(by rw [ei] at a1; exact a1), by rw [Array.size_push, a2]; rfl, fun r hr => ?_⟩, ?_⟩
      · by_cases hr' : r < p.toNat * i + j
        · obtain ⟨T, K, t, u, e1, e2, e3, e4, e5⟩ := a3 r hr'
          refine ⟨T, K, t, u, ?_, kT _ _ _ (kH _ _ e2), kT _ _ _ (kH _ _ e3), e4, e5⟩
          rw [Array.getElem?_push_lt (by rw [a2]; exact hr')]
          rw [Array.getElem?_eq_getElem (by rw [a2]; exact hr')] at e1
          exact e1
        · have er : r = p.toNat * i + j := by omega
          have e1 : r / p.toNat = i := by rw [er, Nat.mul_add_div hpn, Nat.div_eq_of_lt hj, Nat.add_zero]
          have e2 : r % p.toNat = j := by rw [er, Nat.mul_add_mod, Nat.mod_eq_of_lt hj]
          refine ⟨H.objs.size, s₂.heap.objs.size, t₁, t₂, ?_, ?_, ?_, fun q => ?_, fun q => ?_⟩
          · rw [er, ← a2]; exact Array.getElem?_push_size
          · rw [e1, e2]; exact Heap.get?_push_size _ rfl
          · rw [e1, e2]; exact kT _ _ _ gK
          · have := ltx _ q; omega
          · have := ltx _ q; omega
      · have h1 : p.toNat * i + j ≤ 100 * 100 := by
          have : p.toNat * (i + 1) ≤ 100 * 100 := Nat.mul_le_mul (by omega) (by omega)
          rw [Nat.mul_add] at this
          omega
        rw [a2]
        exact Nat.le_trans h1 (by decide)
    · rintro s' vs' k' m' ⟨a1, a2, a3⟩ hd' hc' hch'
      obtain ⟨h₅, tk₅, rfl, k₅⟩ := hch'
      refine ⟨rfl, ⟨h₅, tk₅, rfl, fun b o hb e => k₅ b o (fun q => q.elim hb (I'n b o e)) (kk b o e)⟩, vs', k', m', hd', hc', ?_, a3.x fun b o _ hb q => hb (.inl q)⟩
      exact a2
  · rintro s' vs k m' ⟨j1, j2⟩ hd' hc' hch
    refine ⟨_, rfl, m', hc', fun h' hs' => ?_⟩
    obtain ⟨h₄, tk₄, rfl, k₄⟩ := hch
    replace hs' : Heap.SameBut C h₄ h' := hs'
    refine hQ (fun b => b = I ∨ b = C ∨ b = D) h' tk₄ D vs k XN (fun b o e => ?_) (hs'.extBut _ _ (Nat.ne_of_lt hCD) hd') j1 (j2.mono fun b o hb e => hs'.extBut b o (fun q => hb (.inr (.inl q))) e)
    refine hs'.extBut b o (fun q => neX b o e (.inr (.inl q))) (k₄ b o (fun q => ?_) (k03 b o e))
    rcases q with (q | q) | q
    · exact neX b o e (.inr (.inl q))
    · exact neX b o e (.inr (.inr q))
    · exact neX b o e (.inl q)
end
end Gy
end

section
open PySem PySem.W PySem.Calls PyProof.Rows
set_option maxRecDepth 100000
namespace Gy
/-- the r-th key of beat -/
def bk (p : Int) (r : Nat) : List Int := [((r / p.toNat : Nat) : Int), ((r % p.toNat : Nat) : Int)]
theorem bk_inj {p : Int} {r r' : Nat} (h : bk p r = bk p r') : r = r' := by
  unfold bk at h
  have h1 : r / p.toNat = r' / p.toNat := by have := (List.cons.inj h).1; omega
  have h2 : r % p.toNat = r' % p.toNat := by have := (List.cons.inj (List.cons.inj h).2).1; omega
  rw [← Nat.div_add_mod r p.toNat, ← Nat.div_add_mod r' p.toNat, h1, h2]
/-- the first N entries of beat -/
def Ents (p : Int) (xs : List (List Int × Addr × Value)) (N : Nat) : Prop := xs.length = N ∧ ∀ r, r < N → ∃ K, xs[r]? = some (bk p r, K, .bool (bt p (r / p.toNat) (r % p.toNat)))
theorem Ents.new {p : Int} {xs : List (List Int × Addr × Value)} {N : Nat} (x : Ents p xs N) : bk p N ∉ xs.map (·.1) := by
  intro hm
  obtain ⟨y, hy, e⟩ := List.mem_map.mp hm
  obtain ⟨j, hj⟩ := List.mem_iff_getElem?.mp hy
  have hjN : j < N := by
    rw [← x.1]
    rcases Nat.lt_or_ge j xs.length with q | q
    · exact q
    · rw [List.getElem?_eq_none q] at hj; cases hj
  obtain ⟨K, hK⟩ := x.2 j hjN
  rw [hj] at hK
  have : y.1 = bk p j := by rw [Option.some.inj hK]
  have := bk_inj (this.symm.trans e)
  omega
theorem Ents.push {p : Int} {xs : List (List Int × Addr × Value)} {N : Nat} (x : Ents p xs N) (K : Addr) : Ents p (xs ++ [(bk p N, K, .bool (bt p (N / p.toNat) (N % p.toNat)))]) (N + 1) := by
  refine ⟨by rw [List.length_append, x.1]; rfl, fun r hr => ?_⟩
  rcases Nat.lt_succ_iff_lt_or_eq.mp hr with h | rfl
  · obtain ⟨K', e⟩ := x.2 r h
    exact ⟨K', by rw [List.getElem?_append_left (by rw [x.1]; exact h)]; exact e⟩
  · exact ⟨K, by rw [List.getElem?_append_right (by rw [x.1]; exact Nat.le_refl _), x.1, Nat.sub_self]; rfl⟩
/-- the dict beat -/
def BeatAt (prog : Program) (w : World) (p : Int) (h : Heap) (B : Addr) : Prop := ∃ xs, h.DictOfH (tupleKind (intKind prog w)) B xs ∧ Ents p xs (p.toNat * p.toNat)
theorem pairKey {prog : Program} {w : World} {h : Heap} {K : Addr} {a b : Int} {t u : Tok} (e : h.get? K = some (tupO (.int a t) (.int b u))) : IsTupleKey (intKind prog w) h [a, b] K :=
  ⟨_, _, _, e, rfl, rfl, .cons (isInt_self _ _) (.cons (isInt_self _ _) .nil)⟩
section
variable {prog : Program} {w : World} {A : Around} {E : Value → Shared → Prop} {s : Shared} {G : Heap} {L fa : Addr} {cd : Value} {m mg mb : Str → Option Value} {cm : Nat → Option Value} {ac cc : Addr} {p : Int}
theorem BeatAt.keeps {h h' : Heap} {B : Addr} (x : BeatAt prog w p h B) (k : ∀ b o, h.get? b = some o → h'.get? b = some o) : BeatAt prog w p h' B :=
  let ⟨xs, ⟨o, es, ep, ho, hc, hd, he, hi, hn⟩, r⟩ := x; ⟨xs, ⟨o, es, ep, k _ _ ho, hc, hd, he, fun y hy => tk_at (hi y hy) fun o e => k _ o e, hn⟩, r⟩
set_option maxHeartbeats 1000000 in
theorem line101 {t : Tok} {S : Addr} {Q : Flow → Shared → Prop} (hh : A.handled = none) (hu : A.units + 64 < cLine) (TP : Tops G mg mb ac cc) (hp : p = 7 ∨ p = 11) (hGL : @LE.le Nat _ G.objs.size L)
    (x : LS G L m cm s.heap) (hm : cm 1 = some (.int p t)) (hS : cm 2 = some (.ref S)) (hI : IntsAt s.heap S (sq p))
    (hQ : ∀ h' tk B, LS G L m (fun j => if j = 4 then some (.ref B) else cm j) h' → @LT.lt Nat _ (L + 6) B → BeatAt prog w p h' B → (∀ b o, b ≠ cA L 4 → s.heap.get? b = some o → h'.get? b = some o) → Q .next { s with heap := h', toks := tk }) :
    wpAny (model prog w) A (exec (st 3) (lawE L fa cd)) Q E s := by
  conv => arg 3; arg 1; whnf
  have B₀ := TP.base.keeps x.keep
  have hp2 : 2 ≤ p ∧ p ≤ 100 := by rcases hp with rfl | rfl <;> decide
  refine wpAny_Assign_Name (cT1 (T := "dict") (fun Q hq => nmB B₀ TP.ndict TP.bdict hq) ?_)
  refine comp101 hh TP hp x hm hS hI fun X h₁ tk₁ D vs k hX k₁ hD hsz hvs => ?_
  refine call_dict_pairs (s := { s with heap := h₁, toks := tk₁ }) hh hD (fun i h => ∃ xs, h.DictOfH (tupleKind (intKind prog w)) h₁.objs.size xs ∧ Ents p xs i ∧ ∀ y ∈ xs, @LT.lt Nat _ y.2.1 h₁.objs.size) ?_ ?_ ?_ ?_
  · intro h e
    exact ⟨[], ⟨_, #[], 0, e, ⟨rfl, rfl, rfl⟩, rfl, rfl, fun _ he => by simp at he, List.nodup_nil⟩, ⟨rfl, fun r hr => absurd hr (Nat.not_lt_zero _)⟩, fun _ hy => by simp at hy⟩
  · rintro i h h' ⟨xs, ⟨o, es, ep, ho, hc, hd, he, hi, hn⟩, he2, hl⟩ kk
    exact ⟨xs, ⟨o, es, ep, kk _ _ (Nat.lt_succ_self _) ho, hc, hd, he, fun y hy => tk_at (hi y hy) fun o e => kk _ o (Nat.lt_succ_of_lt (hl y hy)) e, hn⟩, he2, hl⟩
  · rintro i s₁ A₁ E' hu₁ hi ⟨xs, hd, he, hl⟩ kk
    dsimp only at kk
    obtain ⟨T, K, t', u', hT, hTo, hKo, _, _⟩ := hvs i (by omega)
    refine ⟨T, _, _, hT, ⟨_, kk _ _ hTo, rfl, _, rfl⟩, wpAny_dictSet_heap (knd := tupleKind (intKind prog w)) (k := bk p i) (show A₁.units < cLine by omega) (pairKey (kk _ _ hKo)) hd (fun h₂ hd₂ hs₂ => ⟨⟨h₂, _, rfl, hs₂⟩, xs ++ [(bk p i, K, .bool (bt p (i / p.toNat) (i % p.toNat)))], ?_, he.push K, ?_⟩) ?_⟩
    · rw [storedH_new (atKey_none he.new)] at hd₂
      exact hd₂
    · intro y hy
      rcases List.mem_append.mp hy with h | h
      · exact hl y h
      · rw [List.mem_singleton.mp h]
        exact Heap.lt_size hKo
    · have : p.toNat * p.toNat ≤ 100 * 100 := Nat.mul_le_mul (by omega) (by omega)
      rw [he.1]
      unfold sizeLine
      omega
  · rintro h₂ tk₂ ⟨xs, hd, he, hl⟩ kk
    dsimp only at kk
    have x₁ : LS G L m cm h₁ := x.keeps k₁
    have x₂ : LS G L m cm h₂ := x₁.keeps kk
    obtain ⟨oc, eoc, roc⟩ := x₂.cell 4 (by decide) (by decide)
    refine wpAny_storeName_cell (c := cA L 4) rfl rfl rfl ⟨oc, eoc, roc⟩ fun h₄ hc₄ hs₄ => ?_
    replace hs₄ : Heap.SameBut (cA L 4) h₂ h₄ := hs₄
    have hSL : @LT.lt Nat _ (L + 6) h₁.objs.size := let ⟨o, e, _⟩ := x₁.cell 6 (by decide) (by decide); Heap.lt_size e
    have gcell : G.get? (cA L 4) = none := by
      cases q : G.get? (cA L 4) with
      | none => rfl
      | some o =>
        have h1 : @LT.lt Nat _ (cA L 4) G.objs.size := Heap.lt_size q
        have h2 : @LE.le Nat _ L (cA L 4) := Nat.le_add_right ..
        omega
    have nx : ∀ y o, h₂.get? y = some o → (∀ v, o.data ≠ .cell v) → h₄.get? y = some o := fun y o e hn => hs₄.extBut y o (by rintro rfl; rw [eoc] at e; cases e; exact hn _ roc) e
    refine hQ h₄ _ _ (x₂.setC (by decide) gcell hc₄ hs₄) hSL ⟨xs, ?_, by rw [hsz] at he; exact he⟩ fun b o n1 e => hs₄.extBut b o n1 (kk _ _ (k₁ b o e))
    obtain ⟨o, es, ep, ho, hc, hd', he', hi, hn⟩ := hd
    refine ⟨o, es, ep, nx _ _ ho (fun v q => by rw [hd'] at q; cases q), hc, hd', he', fun y hy => tk_at (hi y hy) fun o e => nx _ _ e fun v q => ?_, hn⟩
    obtain ⟨o', its, n', e', _, e'', _⟩ := hi y hy
    rw [e] at e'; cases e'
    rw [e''] at q; cases q
end
end Gy
end

section
open PySem PySem.W PySem.Calls PyProof.Rows
set_option maxRecDepth 100000
namespace Gy
/-- lists, tuples and all that lies above lo stand -/
def Stab (lo : Nat) (h h' : Heap) : Prop := ∀ b o, ((∃ its n, o.data = .seq its n) ∨ ((∃ es n, o.data = .dict es n) ∧ @LT.lt Nat _ lo b)) → h.get? b = some o → h'.get? b = some o
theorem Stab.all {lo : Nat} {h h' : Heap} (k : ∀ b o, h.get? b = some o → h'.get? b = some o) : Stab lo h h' := fun b o _ e => k b o e
theorem Stab.trans {lo : Nat} {a b c : Heap} (x : Stab lo a b) (y : Stab lo b c) : Stab lo a c := fun d o h e => y d o h (x d o h e)
theorem Stab.frame {L : Addr} {m : Str → Option Value} {h h' : Heap} (n : h.Ns L m) (s : Heap.SameBut L h h') : Stab (L + 6) h h' := fun b o hb e => s.extBut b o (by
  rintro rfl
  obtain ⟨o', es, ep, e', hd, _⟩ := n
  rw [e] at e'; cases e'
  rcases hb with ⟨its, n, q⟩ | ⟨_, q⟩
  · rw [hd] at q; cases q
  · exact absurd q (Nat.not_lt_of_le (Nat.le_add_right ..))) e
theorem Stab.cell {L : Addr} {k : Nat} {v : Option Value} {h h' : Heap} (hk : k ≤ 6) (n : h.IsCell (cA L k) v) (s : Heap.SameBut (cA L k) h h') : Stab (L + 6) h h' := fun b o hb e => s.extBut b o (by
  rintro rfl
  obtain ⟨o', e', hd⟩ := n
  rw [e] at e'; cases e'
  rcases hb with ⟨its, n, q⟩ | ⟨_, q⟩
  · rw [hd] at q; cases q
  · exact absurd q (Nat.not_lt_of_le (Nat.add_le_add_left hk L))) e
theorem IntsAt.stab {lo : Nat} {h h' : Heap} {D : Addr} {ns : List Int} (x : IntsAt h D ns) (k : Stab lo h h') : IntsAt h' D ns := let ⟨vs, n, e, r⟩ := x; ⟨vs, n, k _ _ (.inl ⟨_, _, rfl⟩) e, r⟩
section
variable {prog : Program} {w : World}
theorem dict_stab {K : Type} [DecidableEq K] {knd : KeyKind prog w K} {lo : Nat} {h h' : Heap} {d : Addr} {xs : List (List K × Addr × Value)} (x : h.DictOfH (tupleKind knd) d xs) (hd : @LT.lt Nat _ lo d) (k : Stab lo h h') : h'.DictOfH (tupleKind knd) d xs := by
  obtain ⟨o, es, ep, ho, hc, hdt, he, hi, hn⟩ := x
  refine ⟨o, es, ep, k _ _ (.inr ⟨⟨_, _, hdt⟩, hd⟩) ho, hc, hdt, he, fun y hy => ?_, hn⟩
  obtain ⟨o', its, n, e, hc', hdat, r⟩ := hi y hy
  exact ⟨o', its, n, k _ _ (.inl ⟨_, _, hdat⟩) e, hc', hdat, r⟩
theorem BeatAt.stab {p : Int} {lo : Nat} {h h' : Heap} {B : Addr} (x : BeatAt prog w p h B) (hB : @LT.lt Nat _ lo B) (k : Stab lo h h') : BeatAt prog w p h' B := let ⟨xs, hd, r⟩ := x; ⟨xs, dict_stab hd hB k, r⟩
theorem empty_at {h h' : Heap} {d : Addr} (x : h.DictOfH (mk prog w) d []) (k : ∀ o, h.get? d = some o → h'.get? d = some o) : h'.DictOfH (mk prog w) d [] :=
  let ⟨o, es, ep, ho, hc, hdt, he, hi, hn⟩ := x; ⟨o, es, ep, k _ ho, hc, hdt, he, fun y hy => absurd hy List.not_mem_nil, hn⟩
/-- a list of n dicts of calls, the j-th with keys ks j, each with the value 1 -/
def RowsAt (prog : Program) (w : World) (lo : Nat) (h : Heap) (D : Addr) (n : Nat) (ks : Nat → List MK) : Prop :=
  ∃ vs : Array Value, h.IsList D vs ∧ vs.size = n ∧ ∀ j, j < n → ∃ d xs, vs[j]? = some (.ref d) ∧ h.DictOfH (mk prog w) d xs ∧ xs.map (·.1) = ks j ∧ (∀ y ∈ xs, ∃ t, y.2.2 = .int 1 t) ∧ @LT.lt Nat _ lo d
theorem RowsAt.stab {lo : Nat} {h h' : Heap} {D : Addr} {n : Nat} {ks : Nat → List MK} (x : RowsAt prog w lo h D n ks) (k : Stab lo h h') : RowsAt prog w lo h' D n ks :=
  let ⟨vs, ⟨o, e, hc, nn, hd⟩, hz, r⟩ := x; ⟨vs, ⟨o, k _ _ (.inl ⟨_, _, hd⟩) e, hc, nn, hd⟩, hz, fun j hj => let ⟨d, xs, a1, a2, a3, a4, a5⟩ := r j hj; ⟨d, xs, a1, dict_stab a2 a5 k, a3, a4, a5⟩⟩
end

section
variable {prog : Program} {w : World} {A : Around} {E : Value → Shared → Prop} {s : Shared} {G : Heap} {L fa : Addr} {cd : Value} {m mg mb : Str → Option Value} {cm : Nat → Option Value} {ac cc : Addr} {p : Int}
def lc102 (b : Bool) : Expr := match valOf (st 4) with | .Tuple [x, y] _ _ => if b then x else y | e => e
set_option maxHeartbeats 1000000 in
theorem comp102 (b : Bool) {t : Tok} {Q : Value → Shared → Prop} (hh : A.handled = none) (TP : Tops G mg mb ac cc) (hp : p = 7 ∨ p = 11)
    (x : LS G L m cm s.heap) (hm : cm 1 = some (.int p t))
    (hQ : ∀ h' tk D, (∀ b o, s.heap.get? b = some o → h'.get? b = some o) → (∀ b o, s.heap.get? b = some o → @LT.lt Nat _ b D) → RowsAt prog w (L + 6) h' D p.toNat (fun _ => []) → Q (.ref D) { s with heap := h', toks := tk }) :
    wpAny (model prog w) A (eval (lc102 b) (lawE L fa cd)) Q E s := by
  have hp2 : 2 ≤ p ∧ p ≤ 100 := by rcases hp with rfl | rfl <;> decide
  have B₀ := TP.base.keeps x.keep
  have hL6 : ∃ o, s.heap.get? (cA L 6) = some o := let ⟨o, e, _⟩ := x.cell 6 (by decide) (by decide); ⟨o, e⟩
  obtain ⟨o6, e6⟩ := hL6
  cases b
  all_goals
    conv => arg 3; arg 1; whnf
    refine comp_one (n := p.toNat) (cl := []) (fp := fun I b => b = I) (St := fun I i h => IsRangeIter h I (0 + i) (p.toNat - i) 1) (P := fun i v => ∃ t, v = .int (0 + i) t)
      (fun I _ => itr_range hh I 0 _ _ _) (fun I b q => .inl q) (fun I i h q => ⟨_, q⟩) (fun I s₁ Q E st hq => wpAny_pyIter_rangeiter st hq) (range_hit1 (b := p) B₀ TP.nrange TP.brange rfl rfl rfl rfl rfl (fun Q hq => nmC (c := cA L 1) (x.c (by decide) (by decide) hm) (hq _)) (by omega) (by omega)) rfl (by decide) rfl (by decide) (fun _ => rfl) (fun _ => rfl)
      (fun X i vs h => vs.size = i ∧ i ≤ p.toNat ∧ ∀ j, j < i → ∃ d, vs[j]? = some (.ref d) ∧ h.DictOfH (mk prog w) d [] ∧ ¬ X d ∧ @LT.lt Nat _ (L + 6) d) (fun _ _ _ => ⟨rfl, Nat.zero_le _, fun j hj => absurd hj (Nat.not_lt_zero _)⟩)
      (fun X i vs h h' hX hj k => ⟨hj.1, hj.2.1, fun j hj' => let ⟨d, e1, e2, e3, e4⟩ := hj.2.2 j hj'; ⟨d, e1, empty_at e2 fun o e => k _ o e3 e, e3, e4⟩⟩) (fun _ _ vs _ q => by rw [q.1]; exact Nat.le_trans q.2.1 (by unfold sizeLine; omega)) ?_ ?_
    · rintro X i v s₁ C vs m₁ E' hi ⟨t₁, rfl⟩ hX ⟨j1, j2, j3⟩ hk hc₁
      refine no_test ?_
      rw [if_pos rfl]
      refine wpAny_Dict_empty ?_
      dsimp only
      have kq : ∀ (o' : Obj) b o, s₁.heap.get? b = some o → (s₁.heap.push o').get? b = some o := fun o' b o e => Heap.get?_push_of_some _ e
      refine ⟨Kp.of (tk := s₁.toks) (kq _), by rw [Array.size_push, j1], hi, fun j hj => ?_⟩
      rcases Nat.lt_succ_iff_lt_or_eq.mp hj with hj | rfl
      · obtain ⟨d, a1, a2, a3, a4⟩ := j3 j hj
        refine ⟨d, ?_, empty_at a2 fun o e => kq _ _ _ e, a3, a4⟩
        rw [Array.getElem?_push_lt (by omega)]
        rw [Array.getElem?_eq_getElem (by omega)] at a1
        exact a1
      · refine ⟨s₁.heap.objs.size, ?_, Heap.DictOfH.new s₁.heap, fun q => ?_, Heap.lt_size (hk.get e6)⟩
        · rw [← j1]; exact Array.getElem?_push_size
        · obtain ⟨_, o, e⟩ := hX _ q
          exact absurd (Heap.lt_size e) (Nat.lt_irrefl _)
    · rintro X h' tk D vs k hX ⟨j1, j2, j3⟩ hDn hDl hD kk
      refine hQ h' tk D kk hDl ⟨vs, ⟨_, hD, rfl, k, rfl⟩, j1, fun j hj => ?_⟩
      obtain ⟨d, a1, a2, a3, a4⟩ := j3 j hj
      exact ⟨d, [], a1, a2, rfl, fun y hy => absurd hy List.not_mem_nil, a4⟩
end
end Gy
end

section
open PySem PySem.W PySem.Calls PyProof.Rows
set_option maxRecDepth 100000
namespace Gy
section
variable {prog : Program} {w : World} {A : Around} {E : Value → Shared → Prop} {s : Shared} {G : Heap} {L fa : Addr} {cd : Value} {m mg mb : Str → Option Value} {cm : Nat → Option Value} {ac cc : Addr} {p : Int}
theorem gcell {k : Nat} (hGL : @LE.le Nat _ G.objs.size L) : G.get? (cA L k) = none := by
  cases q : G.get? (cA L k) with
  | none => rfl
  | some o =>
    have h1 : @LT.lt Nat _ (cA L k) G.objs.size := Heap.lt_size q
    have h2 : @LE.le Nat _ L (cA L k) := Nat.le_add_right ..
    omega
theorem gL (hGL : @LE.le Nat _ G.objs.size L) : G.get? L = none := by
  cases q : G.get? L with
  | none => rfl
  | some o =>
    have h1 : @LT.lt Nat _ L G.objs.size := Heap.lt_size q
    omega
/-- a store to the k-th cell -/
theorem stC {x : Str} {k : Nat} {v : Value} {Q : Unit → Shared → Prop} (hGL : @LE.le Nat _ G.objs.size L) (y : LS G L m cm s.heap) (h1 : 1 ≤ k) (h2 : k ≤ 6)
    (h : ∀ h', LS G L m (fun j => if j = k then some v else cm j) h' → Stab (L + 6) s.heap h' → (∀ b o, b ≠ cA L k → s.heap.get? b = some o → h'.get? b = some o) → Q () { s with heap := h' })
    (hl : (lawE L fa cd).kindOf x = some .cell := by rfl) (hc : (lawE L fa cd).cells.lookup x = some (cA L k) := by rfl) : wpAny (model prog w) A (storeName (lawE L fa cd) x v) Q E s := by
  refine wpAny_storeName_cell (c := cA L k) rfl hl hc (y.cell k h1 h2) fun h₄ hc₄ hs₄ => ?_
  exact h h₄ (y.setC h1 (gcell hGL) hc₄ hs₄) (Stab.cell h2 (y.cell k h1 h2) hs₄) fun b o hb e => Heap.SameBut.extBut hs₄ b o hb e
/-- a store to a local -/
theorem stF {x : Str} {v : Value} {Q : Unit → Shared → Prop} (hGL : @LE.le Nat _ G.objs.size L) (y : LS G L m cm s.heap)
    (h : ∀ h', LS G L (fun z => if z = x then some v else m z) cm h' → Stab (L + 6) s.heap h' → (∀ b o, b ≠ L → s.heap.get? b = some o → h'.get? b = some o) → Q () { s with heap := h', toks := s.toks + 1 })
    (hl : (lawE L fa cd).kindOf x = some .local := by rfl) : wpAny (model prog w) A (storeName (lawE L fa cd) x v) Q E s := by
  refine wpAny_storeName_local hl y.ns (fun h₅ hn₅ hs₅ => ?_) rfl
  exact h h₅ (y.setL (gL hGL) hn₅ hs₅) (Stab.frame y.ns hs₅) fun b o hb e => Heap.SameBut.extBut hs₅ b o hb e
set_option maxHeartbeats 1000000 in
theorem line102 {t : Tok} {Q : Flow → Shared → Prop} (hh : A.handled = none) (TP : Tops G mg mb ac cc) (hp : p = 7 ∨ p = 11) (hGL : @LE.le Nat _ G.objs.size L)
    (x : LS G L m cm s.heap) (hm : cm 1 = some (.int p t))
    (hQ : ∀ h' tk C1 C2, LS G L m (fun j => if j = 6 then some (.ref C2) else if j = 5 then some (.ref C1) else cm j) h' → @LT.lt Nat _ (L + 6) C1 → @LT.lt Nat _ C1 C2 → RowsAt prog w (L + 6) h' C1 p.toNat (fun _ => []) → RowsAt prog w (L + 6) h' C2 p.toNat (fun _ => []) →
      (∀ b o, s.heap.get? b = some o → @LT.lt Nat _ b C1) → Stab (L + 6) s.heap h' → (∀ b o, ¬ own L b → s.heap.get? b = some o → h'.get? b = some o) → Q .next { s with heap := h', toks := tk }) :
    wpAny (model prog w) A (exec (st 4) (lawE L fa cd)) Q E s := by
  conv => arg 3; arg 1; whnf
  obtain ⟨o6, e6, _⟩ := x.cell 6 (by decide) (by decide)
  refine Assign_Tuple (tup2 ?_) rfl rfl
  refine comp102 true hh TP hp x hm fun h₁ tk₁ C1 k₁ l₁ R1 => ?_
  have x₁ : LS G L m cm h₁ := x.keeps k₁
  refine comp102 false (s := { s with heap := h₁, toks := tk₁ }) hh TP hp x₁ hm fun h₂ tk₂ C2 k₂ l₂ R2 => ?_
  dsimp only at k₂ l₂
  have x₂ : LS G L m cm h₂ := x₁.keeps k₂
  have gT : (h₂.push (tupO (.ref C1) (.ref C2))).get? h₂.objs.size = some (tupO (.ref C1) (.ref C2)) := Heap.get?_push_size _ rfl
  refine wpAny_assign_Tuple hh (items := #[.ref C1, .ref C2]) ⟨_, gT, rfl, 0, rfl⟩ rfl rfl fun h₃ hx₃ => ?_
  dsimp only at hx₃
  have k₃ : ∀ b o, h₂.get? b = some o → h₃.get? b = some o := fun b o e => hx₃ b o (fun q => by
    have : @LT.lt Nat _ b h₂.objs.size := Heap.lt_size e
    rw [q, Heap.size_push] at this
    omega) (Heap.get?_push_of_some _ e)
  have x₃ : LS G L m cm h₃ := x₂.keeps k₃
  show wpAny _ _ (do holding [Value.ref C2] (assign _ (lawE L fa cd) (Value.ref C1)); do holding [] (assign _ (lawE L fa cd) (Value.ref C2)); pure ()) _ _ _
  refine wpAny_bind (wpAny_holding (wpAny_assign_Name (stC hGL x₃ (k := 5) (by decide) (by decide) fun h₄ x₄ st₄ k₄ => ?_)))
  refine wpAny_bind (wpAny_holding (wpAny_assign_Name (stC hGL x₄ (k := 6) (by decide) (by decide) fun h₅ x₅ st₅ k₅ => wpAny_pure ?_)))
  dsimp only at st₄ st₅ k₄ k₅
  have S35 : Stab (L + 6) h₃ h₅ := st₄.trans st₅
  obtain ⟨vs1, ⟨o1, e1, _⟩, _⟩ := id R1
  refine hQ h₅ _ C1 C2 x₅ (l₁ _ _ e6) (l₂ _ _ e1) (((R1.stab (Stab.all k₂)).stab (Stab.all k₃)).stab S35) ((R2.stab (Stab.all k₃)).stab S35) l₁ ((Stab.all fun b o e => k₃ _ _ (k₂ _ _ (k₁ b o e))).trans S35) fun b o hb e => ?_
  exact k₅ b o (fun q => hb (q ▸ cA_own (by decide))) (k₄ b o (fun q => hb (q ▸ cA_own (by decide))) (k₃ _ _ (k₂ _ _ (k₁ b o e))))
end
end Gy
end

section
open PySem PySem.W PySem.Calls PyProof.Rows
set_option maxRecDepth 100000
namespace Gy
section
variable {prog : Program} {w : World} {A : Around} {E : Value → Shared → Prop} {s : Shared} {env : Env} {K : Type} [DecidableEq K] {knd : HeapKind prog w K}
/-- {k: v} with a key told by the heap -/
theorem dict1 {ke ve : Expr} {pos : Pos} {Q : Value → Shared → Prop}
    (h : wpAny (model prog w) A (eval ke env) (fun kv s₁ => wpAny (model prog w) A (eval ve env) (fun vv s₂ => ∃ a k, kv = .ref a ∧ knd.is s₂.heap k a ∧ knd.room A ∧ s₂.heap.get? s.heap.objs.size = some { cls := .type "dict", data := .dict #[] } ∧
      ∀ h' tk, h'.DictOfH knd s.heap.objs.size [(k, a, vv)] → Heap.SameBut s.heap.objs.size s₂.heap h' → Q (.ref s.heap.objs.size) { s₂ with heap := h', toks := tk }) E s₁) E { s with heap := s.heap.push { cls := .type "dict", data := .dict #[] } }) :
    wpAny (model prog w) A (eval (.Dict [some ke] [ve] pos) env) Q E s := by
  have hshape : (evalEachOpt [some ke] env).zip ((evalEach [ve] env).map fun v => do let x ← v; standAt pos; pure x) = [(eval ke env, do let x ← eval ve env; standAt pos; pure x)].map fun p => (some p.1, p.2) := rfl
  rw [arm_eval_Dict, hshape, dictDisplay_pairs _ (by simp) (by simp)]
  refine wpAny_bind (wpAny_standAt (wpAny_bind ?_))
  unfold subDict
  refine wpAny_bind (wpAny_alloc ?_)
  refine wpAny_bind (wpAny_holding ?_)
  rw [if_pos (by simp)]
  refine wpAny_bind ?_
  show wpAny _ _ (do let kv ← eval ke env; let vv ← holding [kv] (do let x ← eval ve env; standAt pos; pure x); return (kv, vv) :: (← holding [kv, vv] (evalPairs []))) _ _ _
  refine wpAny_bind (wpAny_mono h (fun kv s₁ h₁ => wpAny_bind (wpAny_holding (wpAny_bind (wpAny_mono h₁ (fun vv s₂ h₂ => wpAny_bind (wpAny_standAt (wpAny_pure ?_))) fun _ _ e => e)))) fun _ _ e => e)
  refine wpAny_bind (wpAny_holding (wpAny_pure (wpAny_pure ?_)))
  obtain ⟨a, k, rfl, hk, hr, hd, hQ⟩ := h₂
  refine wpAny_holding (wpAny_bind ?_)
  rw [List.forIn_cons]
  have hD : s₂.heap.DictOfH knd s.heap.objs.size [] := ⟨_, #[], 0, hd, ⟨rfl, rfl, rfl⟩, rfl, rfl, fun _ he => absurd he List.not_mem_nil, List.nodup_nil⟩
  refine wpAny_bind (wpAny_bind (wpAny_dictSet_heap hr hk hD (fun h' hd' hs' => wpAny_pure (wpAny_pure (wpAny_pure (wpAny_pure ?_)))) (Nat.zero_le _)))
  rw [storedH_new (by rfl)] at hd'
  exact wpAny_pure (hQ h' _ hd' hs')
end
section
variable {prog : Program} {w : World} {A : Around} {E : Value → Shared → Prop} {s : Shared} {env : Env}
/-- a tuple of three -/
theorem tup3 {a b c : Expr} {k : Nat} {pos : Pos} {Q : Value → Shared → Prop}
    (h : wpAny (model prog w) A (eval a env) (fun u s₁ => wpAny (model prog w) A (eval b env) (fun v s₂ => wpAny (model prog w) A (eval c env) (fun x s₃ => Q (.ref s₃.heap.objs.size) { s₃ with heap := s₃.heap.push { cls := .type "tuple", data := .seq #[u, v, x] } }) E s₂) E s₁) E s)
    (hs : backTo pos (starEach [a, b, c] env) = [(false, eval a env), (false, eval b env), (false, eval c env)] := by rfl) : wpAny (model prog w) A (eval (.Tuple [a, b, c] k pos) env) Q E s := by
  refine Tuple_ ?_
  rw [hs]
  exact spliced_cons (wpAny_mono h (fun _ _ h₁ => spliced_cons (wpAny_mono h₁ (fun _ _ h₂ => spliced_cons (wpAny_mono h₂ (fun _ _ h₃ => spliced_nil (wpAny_newTuple h₃)) fun _ _ e => e)) fun _ _ e => e)) fun _ _ e => e)
abbrev tup3O (a b c : Value) : Obj := { cls := .type "tuple", data := .seq #[a, b, c] }
theorem wordKey {h : Heap} {K : Addr} {x y : Str} {b : Int} {t u v : Tok} (e : h.get? K = some (tup3O (.str x t) (.int b u) (.str y v))) : IsTupleKey (mixKind prog w) h [.inl x, .inr b, .inl y] K :=
  ⟨_, _, _, e, rfl, rfl, .cons (show Value.isStrOf x (.str x t) = true by simp [Value.isStrOf]) (.cons (show Value.isInt b (.int b u) = true by simp [Value.isInt]) (.cons (show Value.isStrOf y (.str y v) = true by simp [Value.isStrOf]) .nil))⟩
/-- the keys of the dicts of calls: («beat» | «by», x, «once») -/
def wk (x : Str) (b : Nat) : MK := [.inl x, .inr (b : Int), .inl (Str.ofString "once")]
/-- {(word, name, 'once'): 1} -/
theorem dictWord {x : Str} {nm : Expr} {b : Nat} {k1 k2 k3 : Nat} {p1 p2 p3 p4 p5 : Pos} {Q : Value → Shared → Prop} (hr : A.units + 64 < cLine)
    (hn : ∀ (s₁ : Shared) (Q : Value → Shared → Prop) E, Kp s s₁ → (∀ t, Q (.int b t) s₁) → wpAny (model prog w) A (eval nm env) Q E s₁)
    (hQ : ∀ h' tk D (xs : List (MK × Addr × Value)), (∀ b o, s.heap.get? b = some o → h'.get? b = some o) → (∀ b o, s.heap.get? b = some o → @LT.lt Nat _ b D) → h'.DictOfH (mk prog w) D xs → xs.map (·.1) = [wk x b] → (∀ y ∈ xs, ∃ t, y.2.2 = .int 1 t) → Q (.ref D) { s with heap := h', toks := tk })
    (hs : starEach [.Constant (.str x) k1 p1, nm, .Constant (.str (Str.ofString "once")) k2 p2] env = [(false, eval (.Constant (.str x) k1 p1) env), (false, eval nm env), (false, eval (.Constant (.str (Str.ofString "once")) k2 p2) env)] := by rfl) :
    wpAny (model prog w) A (eval (.Dict [some (.Tuple [.Constant (.str x) k1 p1, nm, .Constant (.str (Str.ofString "once")) k2 p2] k3 p3)] [.Constant (.int 1) 0 p4] p5) env) Q E s := by
  refine dict1 (knd := mk prog w) (tup3 (wpAny_Constant_str (hn _ _ _ (Kp.of fun b o e => Heap.get?_push_of_some _ e) fun t => wpAny_Constant_str ?_)) ?_)
  · dsimp only
    have k1 : ∀ b o, s.heap.get? b = some o → (s.heap.push { cls := .type "dict", data := .dict #[] }).get? b = some o := fun b o e => Heap.get?_push_of_some _ e
    have gD : (s.heap.push { cls := .type "dict", data := .dict #[] }).get? s.heap.objs.size = some { cls := .type "dict", data := .dict #[] } := Heap.get?_push_size _ rfl
    generalize s.heap.push { cls := .type "dict", data := .dict #[] } = H at k1 gD ⊢
    refine wpAny_Constant_int ⟨H.objs.size, wk x b, rfl, wordKey (Heap.get?_push_size _ rfl), show A.units < cLine by omega, Heap.get?_push_of_some _ gD, fun h' tk hd hs' => ?_⟩
    dsimp only at hs'
    replace hs' : Heap.SameBut s.heap.objs.size (H.push _) h' := hs'
    refine hQ h' tk _ _ (fun b o e => hs'.extBut b o (Nat.ne_of_lt (Heap.lt_size e)) (Heap.get?_push_of_some _ (k1 b o e))) (fun b o e => Heap.lt_size e) hd rfl fun y hy => ?_
    rw [List.mem_singleton.mp hy]
    exact ⟨_, rfl⟩
  · rw [hs]; rfl
end
end Gy
end

section
open PySem PySem.W PySem.Calls PyProof.Rows
set_option maxRecDepth 100000
namespace Gy
section
variable {prog : Program} {w : World} {A : Around} {E : Value → Shared → Prop} {s : Shared} {env : Env} {G : Heap} {mg mb : Str → Option Value} {ac cc : Addr}
theorem FnIs.fn {h : Heap} {f : Addr} {n : Nat} (x : FnIs h f n) : ∃ o fd, h.get? f = some o ∧ o.data = .func fd := by obtain ⟨o, fd, e, d, _⟩ := x; exact ⟨o, fd, e, d⟩
set_option maxHeartbeats 1000000 in
/-- rows[i] = add_callers(rows[i], {(word, b, 'once'): 1}) -/
theorem row_add {lname iname word : Str} {nm : Expr} {CL : Addr} {i b n lo : Nat} {ks : Nat → List MK} {k1 k2 k3 : Nat} {q1 q2 q3 q4 q5 q6 q7 q8 q9 p1 p2 p3 p4 p5 : Pos} {Q : Flow → Shared → Prop}
    (hd : A.depth < recursionLimit) (hu : A.units + 64 < cLine) (hh : A.handled = none) (TP : Tops G mg mb ac cc) (hG : ∀ b o, G.get? b = some o → s.heap.get? b = some o) (hlo : 1 ≤ lo)
    (hL : ∀ (s₁ : Shared) (Q : Value → Shared → Prop) E, Kp s s₁ → Q (.ref CL) s₁ → wpAny (model prog w) A (eval (.Name lname q2) env) Q E s₁)
    (hL' : ∀ (s₁ : Shared) (Q : Value → Shared → Prop) E, Kp s s₁ → Q (.ref CL) s₁ → wpAny (model prog w) A (eval (.Name lname q6) env) Q E s₁)
    (hi : ∀ (s₁ : Shared) (Q : Value → Shared → Prop) E, Kp s s₁ → (∀ t, Q (.int i t) s₁) → wpAny (model prog w) A (eval (.Name iname q3) env) Q E s₁)
    (hi' : ∀ (s₁ : Shared) (Q : Value → Shared → Prop) E, Kp s s₁ → (∀ t, Q (.int i t) s₁) → wpAny (model prog w) A (eval (.Name iname q7) env) Q E s₁)
    (hn : ∀ (s₁ : Shared) (Q : Value → Shared → Prop) E, Kp s s₁ → (∀ t, Q (.int b t) s₁) → wpAny (model prog w) A (eval nm env) Q E s₁)
    (R : RowsAt prog w lo s.heap CL n ks) (hin : i < n) (hn2 : n < 2 ^ 40) (hnew : wk word b ∉ ks i) (hsz : (ks i).length ≤ 1000) (hlos : ∃ c o, s.heap.get? c = some o ∧ lo ≤ c)
    (hQ : ∀ h' tk, RowsAt prog w lo h' CL n (fun j => if j = i then ks i ++ [wk word b] else ks j) → (∀ b o, b ≠ CL → s.heap.get? b = some o → h'.get? b = some o) → Q .next { s with heap := h', toks := tk })
    (hac : ∀ (s₁ : Shared) (Q : Value → Shared → Prop) E, Kp s s₁ → Q (.ref ac) s₁ → wpAny (model prog w) A (eval (.Name (Str.ofString "add_callers") q4) env) Q E s₁)
    (hs : starEach [.Constant (.str word) k1 p1, nm, .Constant (.str (Str.ofString "once")) k2 p2] env = [(false, eval (.Constant (.str word) k1 p1) env), (false, eval nm env), (false, eval (.Constant (.str (Str.ofString "once")) k2 p2) env)] := by rfl) :
    wpAny (model prog w) A (exec (.Assign [.Subscript (.Name lname q2) (.Name iname q3) q1] (.Call (.Name (Str.ofString "add_callers") q4) [.Subscript (.Name lname q6) (.Name iname q7) q5, .Dict [some (.Tuple [.Constant (.str word) k1 p1, nm, .Constant (.str (Str.ofString "once")) k2 p2] k3 p3)] [.Constant (.int 1) 0 p4] p5] [] q8) q9) env) Q E s := by
  obtain ⟨vs, hl, hvs, hr⟩ := id R
  obtain ⟨d, xs, e1, e2, e3, e4, e5⟩ := hr i hin
  have k0 : Kp s s := Ch.refl _ _
  have hid : ((i : Int)).toNat = i := Int.toNat_natCast i
  refine wpAny_Assign_Subscript (cF2 (f := ac) TP.fac.fn (fun Q hq => hac s Q _ k0 hq) ?_)
  refine subN (hL' s _ _ k0 (hi' s _ _ k0 fun t => ⟨"list", "list.__getitem__", slot_list_getitem.lookup, let ⟨o, ho, hc, _⟩ := hl; ⟨o, ho, hc⟩, wpAny_getItem_list hl (by omega) (by omega) (x := .ref d) (by rw [hid]; exact e1) ?_⟩))
  refine dictWord hu hn (fun h₁ tk₁ d2 ys k₁ l₁ hd2 hk2 hv2 => ⟨fun b o e => k₁ b o (hG b o e), ?_⟩) hs
  have kx := k0
  have k01 : Kp s { s with heap := h₁, toks := tk₁ } := Kp.of k₁
  have hd1 : h₁.DictOfH (mk prog w) d xs := dict_keeps e2 k₁
  have nd := (keys_of hd1).2
  have hd2s : (d2 == sysModules) = false := by
    obtain ⟨c, o, e, hc⟩ := hlos
    have : @LT.lt Nat _ c d2 := l₁ _ _ e
    exact beq_eq_false_iff_ne.mpr (Nat.ne_of_gt (show @LT.lt Nat _ 1 d2 by omega))
  have hd1s : (d == sysModules) = false := beq_eq_false_iff_ne.mpr (Nat.ne_of_gt (show @LT.lt Nat _ 1 d by omega))
  have ly : ys.length = 1 := by have := congrArg List.length hk2; simpa using this
  have lx : xs.length ≤ 1000 := by have := congrArg List.length e3; rw [List.length_map] at this; omega
  refine add_callers_call (s := { s with heap := h₁, toks := tk₁ }) hd (by omega) hh (TP.fac.keeps fun b o e => k₁ b o (hG b o e)) (TP.base.keeps fun b o e => k₁ b o (hG b o e)) hd1 hd2 ?_ hd1s hd2s (by rw [ly]; unfold sizeLine; omega) fun h₂ tk₂ D k₂ hDn hD => ?_
  · rw [List.map_append, e3, hk2, List.nodup_append]
    refine ⟨e3 ▸ nd, by simp, fun a ha b' hb q => ?_⟩
    rw [List.mem_singleton.mp hb] at q
    exact hnew (q ▸ ha)
  dsimp only at k₂ hDn
  have k02 : ∀ b o, s.heap.get? b = some o → h₂.get? b = some o := fun b o e => k₂ b o (k₁ b o e)
  have K02 : Kp s { s with heap := h₂, toks := tk₂ } := Kp.of k02
  refine hL _ _ _ K02 (hi _ _ _ K02 fun t => ?_)
  have hl₂ : h₂.IsList CL vs := let ⟨o, e, r⟩ := hl; ⟨o, k02 _ _ e, r⟩
  refine wpAny_setItem_list (s := { s with heap := h₂, toks := tk₂ }) hl₂ (by omega) (by omega) (by rw [hvs]; omega) fun h₃ hl₃ hs₃ => ?_
  replace hs₃ : Heap.SameBut CL h₂ h₃ := hs₃
  have k₃ : ∀ b o, b ≠ CL → h₂.get? b = some o → h₃.get? b = some o := fun b o hb e => hs₃.extBut b o hb e
  refine hQ h₃ tk₂ ⟨vs.setIfInBounds (i : Int).toNat (.ref D), hl₃, by rw [Array.size_setIfInBounds]; exact hvs, fun j hj => ?_⟩ fun b o hb e => k₃ b o hb (k02 b o e)
  have bf : ∀ {d' : Addr} {zs : List (MK × Addr × Value)}, h₂.DictOfH (mk prog w) d' zs → h₃.DictOfH (mk prog w) d' zs := fun {d' zs} y => dict_but y (· = CL) (fun a ha o e => by
    subst ha
    obtain ⟨ol, el, cl, _⟩ := hl₂
    rw [e] at el; cases el
    refine ⟨?_, by rw [cl]; decide⟩
    rintro rfl
    obtain ⟨od, _, _, eod, hcd, _⟩ := y
    rw [e] at eod; cases eod
    rw [hcd.1] at cl; exact absurd cl (by decide)) fun b o hb e => k₃ b o hb e
  by_cases hji : j = i
  · subst hji
    obtain ⟨c, oc, ec, hc⟩ := hlos
    have : @LT.lt Nat _ c D := hDn _ _ (k₁ _ _ ec)
    refine ⟨D, xs ++ ys, ?_, bf hD, ?_, fun y hy => (List.mem_append.mp hy).elim (e4 y) (hv2 y), show @LT.lt Nat _ lo D by omega⟩
    · rw [hid, Array.getElem?_setIfInBounds_self_of_lt (by omega)]
    · show _ = if _ then _ else _
      rw [if_pos rfl, List.map_append, e3, hk2]
  · obtain ⟨d', zs, a1, a2, a3, a4, a5⟩ := hr j hj
    refine ⟨d', zs, ?_, bf (dict_keeps a2 k02), ?_, a4, a5⟩
    · rw [hid, Array.getElem?_setIfInBounds_ne (fun q => hji q.symm)]; exact a1
    · show _ = if _ then _ else _
      rw [if_neg hji]; exact a3
end
end Gy
end

section
open PySem PySem.W PySem.Calls PyProof.Rows
set_option maxRecDepth 100000
namespace Gy
/-- the keys of calls[j] and of lost[j] after r pairs of beat -/
def cKs (p : Int) : Nat → Nat → List MK
  | 0 => fun _ => []
  | r + 1 => if bt p (r / p.toNat) (r % p.toNat) then fun j => if j = r / p.toNat then cKs p r (r / p.toNat) ++ [wk (Str.ofString "beat") (r % p.toNat)] else cKs p r j else cKs p r
def lKs (p : Int) : Nat → Nat → List MK
  | 0 => fun _ => []
  | r + 1 => if bt p (r / p.toNat) (r % p.toNat) then fun j => if j = r % p.toNat then lKs p r (r % p.toNat) ++ [wk (Str.ofString "by") (r / p.toNat)] else lKs p r j else lKs p r
theorem wk_inj {x : Str} {a b : Nat} (h : wk x a = wk x b) : a = b := by
  unfold wk at h
  have h2 := (List.cons.inj (List.cons.inj h).2).1
  have h3 : (a : Int) = b := Sum.inr.inj h2
  omega
theorem cKs_mem {p : Int} : ∀ (r j : Nat) (k : MK), k ∈ cKs p r j → ∃ b, k = wk (Str.ofString "beat") b ∧ j * p.toNat + b < r
  | 0, _, _, h => absurd h List.not_mem_nil
  | r + 1, j, k, h => by
    unfold cKs at h
    split at h
    · dsimp only at h
      split at h
      · rename_i hj
        rcases List.mem_append.mp h with h | h
        · obtain ⟨b, e, hb⟩ := cKs_mem r _ k h
          exact ⟨b, e, by rw [hj]; omega⟩
        · refine ⟨_, List.mem_singleton.mp h, ?_⟩
          have := Nat.div_add_mod r p.toNat
          rw [hj, Nat.mul_comm]; omega
      · obtain ⟨b, e, hb⟩ := cKs_mem r _ k h
        exact ⟨b, e, by omega⟩
    · obtain ⟨b, e, hb⟩ := cKs_mem r _ k h
      exact ⟨b, e, by omega⟩
theorem lKs_mem {p : Int} : ∀ (r j : Nat) (k : MK), k ∈ lKs p r j → ∃ a, k = wk (Str.ofString "by") a ∧ a * p.toNat + j < r
  | 0, _, _, h => absurd h List.not_mem_nil
  | r + 1, j, k, h => by
    unfold lKs at h
    split at h
    · dsimp only at h
      split at h
      · rename_i hj
        rcases List.mem_append.mp h with h | h
        · obtain ⟨b, e, hb⟩ := lKs_mem r _ k h
          exact ⟨b, e, by rw [hj]; omega⟩
        · refine ⟨_, List.mem_singleton.mp h, ?_⟩
          have := Nat.div_add_mod r p.toNat
          rw [hj, Nat.mul_comm]; omega
      · obtain ⟨b, e, hb⟩ := lKs_mem r _ k h
        exact ⟨b, e, by omega⟩
    · obtain ⟨b, e, hb⟩ := lKs_mem r _ k h
      exact ⟨b, e, by omega⟩
theorem cKs_new {p : Int} (r : Nat) : wk (Str.ofString "beat") (r % p.toNat) ∉ cKs p r (r / p.toNat) := fun h => by
  obtain ⟨b, e, hb⟩ := cKs_mem r _ _ h
  rw [← wk_inj e] at hb
  have := Nat.div_add_mod r p.toNat
  rw [Nat.mul_comm] at this
  omega
theorem lKs_new {p : Int} (r : Nat) : wk (Str.ofString "by") (r / p.toNat) ∉ lKs p r (r % p.toNat) := fun h => by
  obtain ⟨b, e, hb⟩ := lKs_mem r _ _ h
  rw [← wk_inj e] at hb
  have := Nat.div_add_mod r p.toNat
  rw [Nat.mul_comm] at this
  omega
theorem cKs_len {p : Int} : ∀ r j, (cKs p r j).length ≤ r
  | 0, _ => Nat.le_refl _
  | r + 1, j => by
    unfold cKs
    split
    · dsimp only
      split
      · rw [List.length_append]; have := cKs_len (p := p) r (r / p.toNat); simp; omega
      · have := cKs_len (p := p) r j; omega
    · have := cKs_len (p := p) r j; omega
theorem lKs_len {p : Int} : ∀ r j, (lKs p r j).length ≤ r
  | 0, _ => Nat.le_refl _
  | r + 1, j => by
    unfold lKs
    split
    · dsimp only
      split
      · rw [List.length_append]; have := lKs_len (p := p) r (r % p.toNat); simp; omega
      · have := lKs_len (p := p) r j; omega
    · have := lKs_len (p := p) r j; omega
end Gy
end

section
open PySem PySem.W PySem.Calls PyProof.Rows
set_option maxRecDepth 100000
namespace Gy
theorem key2 {prog : Program} {w : World} {h : Heap} {K : Addr} {a b : Int} (x : IsTupleKey (intKind prog w) h [a, b] K) : ∃ t u, h.IsTuple K #[.int a t, .int b u] := by
  obtain ⟨o, its, n, e, hc, hd, hi⟩ := x
  have : ∃ t u, its.toList = [.int a t, .int b u] := by
    generalize its.toList = l at hi
    cases hi with
    | cons h1 r =>
      cases r with
      | cons h2 r2 =>
        cases r2
        obtain ⟨t, rfl⟩ := Value.isInt_shape (show Value.isInt a _ = true from h1)
        obtain ⟨u, rfl⟩ := Value.isInt_shape (show Value.isInt b _ = true from h2)
        exact ⟨t, u, rfl⟩
  obtain ⟨t, u, hl⟩ := this
  exact ⟨t, u, o, e, hc, n, by rw [hd, ← hl]⟩
theorem Ents.at {p : Int} {prog : Program} {w : World} {h : Heap} {B : Addr} {xs : List (List Int × Addr × Value)} {N r : Nat} (x : Ents p xs N) (hd : h.DictOfH (tupleKind (intKind prog w)) B xs) (hr : r < N) :
    ∃ K, atKey xs (bk p r) = some (K, .bool (bt p (r / p.toNat) (r % p.toNat))) := by
  obtain ⟨K, e⟩ := x.2 r hr
  exact ⟨K, atKey_of_get (keys_of hd).2 e⟩
theorem bk_of {p : Int} {a b : Nat} (hb : b < p.toNat) : bk p (a * p.toNat + b) = [(a : Int), (b : Int)] := by
  unfold bk
  have h : 0 < p.toNat := by omega
  rw [Nat.mul_comm a, Nat.mul_add_div h, Nat.mul_add_mod, Nat.div_eq_of_lt hb, Nat.mod_eq_of_lt hb, Nat.add_zero]
section
variable {prog : Program} {w : World} {A : Around} {E : Value → Shared → Prop} {s : Shared} {env : Env} {p : Int}
/-- beat[a, b] -/
theorem beat_get {B : Addr} {ve ae be : Expr} {k : Nat} {p1 p2 : Pos} {a b : Nat} {Q : Value → Shared → Prop} (hu : A.units + 64 < cLine) (X : BeatAt prog w p s.heap B) (ha : a < p.toNat) (hb : b < p.toNat)
    (hv : ∀ Q : Value → Shared → Prop, Q (.ref B) s → wpAny (model prog w) A (eval ve env) Q E s)
    (hae : ∀ Q : Value → Shared → Prop, (∀ t, Q (.int a t) s) → wpAny (model prog w) A (eval ae env) Q E s)
    (hbe : ∀ Q : Value → Shared → Prop, (∀ t, Q (.int b t) s) → wpAny (model prog w) A (eval be env) Q E s)
    (hQ : ∀ s', Kp s s' → Q (.bool (bt p a b)) s')
    (hs : backTo p1 (starEach [ae, be] env) = [(false, eval ae env), (false, eval be env)] := by rfl) :
    wpAny (model prog w) A (eval (.Subscript ve (.Tuple [ae, be] k p1) p2) env) Q E s := by
  obtain ⟨xs, hd, he⟩ := id X
  have hN : a * p.toNat + b < p.toNat * p.toNat := by
    have : (a + 1) * p.toNat ≤ p.toNat * p.toNat := Nat.mul_le_mul_right _ ha
    rw [Nat.add_mul] at this
    omega
  obtain ⟨K, hK⟩ := he.at hd hN
  rw [bk_of hb] at hK
  have h0 : 0 < p.toNat := by omega
  have e1 : (a * p.toNat + b) / p.toNat = a := by rw [Nat.mul_comm a, Nat.mul_add_div h0, Nat.div_eq_of_lt hb, Nat.add_zero]
  have e2 : (a * p.toNat + b) % p.toNat = b := by rw [Nat.mul_comm a, Nat.mul_add_mod, Nat.mod_eq_of_lt hb]
  rw [e1, e2] at hK
  refine subT (hv _ (tup2 (hae _ fun t => hbe _ fun u => ?_) hs))
  have kq : ∀ (o' : Obj) b o, s.heap.get? b = some o → (s.heap.push o').get? b = some o := fun o' b o e => Heap.get?_push_of_some _ e
  have hd' := dict_keeps hd (kq (tupO (.int a t) (.int b u)))
  exact ⟨"dict", "dict.__getitem__", slot_dict_getitem.lookup, hd'.typeIs, wpAny_getItem_heap (knd := tupleKind (intKind prog w)) (show A.in1.units < cLine from by show A.units + 1 < cLine; omega) (pairKey (Heap.get?_push_size _ rfl)) hd' hK (hQ _ (Kp.of (kq _)))⟩
end
end Gy
end

section
open PySem PySem.W PySem.Calls PyProof.Rows
set_option maxRecDepth 100000
namespace Gy
section
variable {prog : Program} {w : World} {h h' : Heap} {C X B : Addr} {n lo : Nat} {ks : Nat → List MK} {p : Int}
theorem RowsAt.lst (R : RowsAt prog w lo h C n ks) : ∃ o, h.get? C = some o ∧ o.cls = .type "list" := let ⟨_, ⟨o, e, c, _⟩, _⟩ := R; ⟨o, e, c⟩
theorem dict_off {K : Type} [DecidableEq K] {knd : KeyKind prog w K} {d : Addr} {xs : List (List K × Addr × Value)} (x : h.DictOfH (tupleKind knd) d xs) (hX : ∃ o, h.get? X = some o ∧ o.cls = .type "list") (k : ∀ b o, b ≠ X → h.get? b = some o → h'.get? b = some o) :
    h'.DictOfH (tupleKind knd) d xs := dict_but x (· = X) (fun a ha o e => by
  subst ha
  obtain ⟨o', e', c'⟩ := hX
  rw [e] at e'; cases e'
  refine ⟨?_, by rw [c']; decide⟩
  rintro rfl
  obtain ⟨od, _, _, eod, hcd, _⟩ := x
  rw [e] at eod; cases eod
  rw [hcd.1] at c'; exact absurd c' (by decide)) fun b o hb e => k b o hb e
theorem RowsAt.but (R : RowsAt prog w lo h C n ks) (hX : ∃ o, h.get? X = some o ∧ o.cls = .type "list") (hne : C ≠ X) (k : ∀ b o, b ≠ X → h.get? b = some o → h'.get? b = some o) : RowsAt prog w lo h' C n ks :=
  let ⟨vs, ⟨o, e, r⟩, hz, rr⟩ := R; ⟨vs, ⟨o, k _ _ hne e, r⟩, hz, fun j hj => let ⟨d, zs, a1, a2, a3, a4, a5⟩ := rr j hj; ⟨d, zs, a1, dict_off a2 hX k, a3, a4, a5⟩⟩
theorem BeatAt.but (R : BeatAt prog w p h B) (hX : ∃ o, h.get? X = some o ∧ o.cls = .type "list") (k : ∀ b o, b ≠ X → h.get? b = some o → h'.get? b = some o) : BeatAt prog w p h' B :=
  let ⟨xs, hd, r⟩ := R; ⟨xs, dict_off hd hX k, r⟩
end
section
variable {prog : Program} {w : World} {A : Around} {E : Value → Shared → Prop} {s : Shared} {G : Heap} {L fa : Addr} {cd : Value} {m mg mb : Str → Option Value} {cm : Nat → Option Value} {ac cc : Addr} {p : Int}
set_option maxHeartbeats 1000000 in
theorem line103 {B C1 C2 : Addr} {Q : Flow → Shared → Prop} (hd : A.depth < recursionLimit) (hu : A.units + 64 < cLine) (hh : A.handled = none) (TP : Tops G mg mb ac cc) (hp : p = 7 ∨ p = 11) (hGL : @LE.le Nat _ G.objs.size L)
    (x : LS G L m cm s.heap) (h4 : cm 4 = some (.ref B)) (h5 : cm 5 = some (.ref C1)) (h6 : cm 6 = some (.ref C2)) (lB : @LT.lt Nat _ (L + 6) B) (lC1 : @LT.lt Nat _ B C1) (lC2 : @LT.lt Nat _ C1 C2)
    (X : BeatAt prog w p s.heap B) (R1 : RowsAt prog w (L + 6) s.heap C1 p.toNat (fun _ => [])) (R2 : RowsAt prog w (L + 6) s.heap C2 p.toNat (fun _ => []))
    (hQ : ∀ s' m' v3, LS G L m' (fun j => if j = 3 then v3 else cm j) s'.heap → BeatAt prog w p s'.heap B → RowsAt prog w (L + 6) s'.heap C1 p.toNat (cKs p (p.toNat * p.toNat)) → RowsAt prog w (L + 6) s'.heap C2 p.toNat (lKs p (p.toNat * p.toNat)) →
      Ch (fun b => own L b ∨ b = C1 ∨ b = C2) s s' → m' "script" = m "script" → Q .next s') :
    wpAny (model prog w) A (exec (st 5) (lawE L fa cd)) Q E s := by
  conv => arg 3; arg 1; whnf
  have hp2 : 2 ≤ p ∧ p ≤ 100 := by rcases hp with rfl | rfl <;> decide
  have hlo : 1 ≤ L + 6 := Nat.le_trans (show 1 ≤ 6 by decide) (Nat.le_add_left 6 L)
  have p40 : p.toNat < 2 ^ 40 := Nat.lt_of_le_of_lt (show p.toNat ≤ 100 from Int.toNat_le.mpr hp2.2) (by decide)
  obtain ⟨xs, hdB, he⟩ := id X
  obtain ⟨ep, rB⟩ := raw_of hdB
  have hBs : (B == sysModules) = false := beq_eq_false_iff_ne.mpr (Nat.ne_of_gt (Nat.lt_of_le_of_lt (Nat.le_trans (show 1 ≤ 6 by decide) (Nat.le_add_left 6 L)) lB))
  refine wpAny_For (nmC (c := cA L 4) (x.c (by decide) (by decide) h4) ?_) (fun _ => rfl)
  refine pyIter_raw hBs rB ?_
  have kk : ∀ b o, s.heap.get? b = some o → (s.heap.push { cls := .type "dict_keyiterator", data := .fields #[.ref B, .int 0 0, .int (xs.map (entryOfKey (tupleKind (intKind prog w)))).toArray.size 0, .int ep 0] }).get? b = some o := fun b o e => Heap.get?_push_of_some _ e
  have hit : (s.heap.push { cls := .type "dict_keyiterator", data := .fields #[.ref B, .int 0 0, .int (xs.map (entryOfKey (tupleKind (intKind prog w)))).toArray.size 0, .int ep 0] }).IsKeyIter s.heap.objs.size B 0 (xs.map (entryOfKey (tupleKind (intKind prog w)))).toArray.size ep := ⟨_, Heap.get?_push_size _ rfl, rfl, rfl⟩
  have hBI : @Ne Nat B s.heap.objs.size := Nat.ne_of_lt rB.lt
  have lC : ∀ {C : Addr} {ks}, RowsAt prog w (L + 6) s.heap C p.toNat ks → @LT.lt Nat _ C s.heap.objs.size := fun ⟨_, ⟨_, e, _⟩, _⟩ => Heap.lt_size e
  have hL6 : @LT.lt Nat _ (L + 6) s.heap.objs.size := let ⟨_, e, _⟩ := x.cell 6 (by decide) (by decide); Heap.lt_size e
  have LC1 : @LT.lt Nat _ (L + 6) C1 := Nat.lt_trans lB lC1
  have LC2 : @LT.lt Nat _ (L + 6) C2 := Nat.lt_trans LC1 lC2
  have l1 := lC R1
  have l2 := lC R2
  generalize s.heap.push { cls := .type "dict_keyiterator", data := .fields #[.ref B, .int 0 0, .int (xs.map (entryOfKey (tupleKind (intKind prog w)))).toArray.size 0, .int ep 0] } = H at kk hit ⊢
  refine forLoop_core (s := { s with heap := H }) (itr_keys hh s.heap.objs.size B hBI _ ep _) (fun b => own L b ∨ b = C1 ∨ b = C2)
    (fun i h => ∃ m' v3, LS G L m' (fun j => if j = 3 then v3 else cm j) h ∧ m' (Str.ofString "script") = m (Str.ofString "script") ∧ BeatAt prog w p h B ∧ RowsAt prog w (L + 6) h C1 p.toNat (cKs p i) ∧ RowsAt prog w (L + 6) h C2 p.toNat (lKs p i)) ?_ ⟨hit, rB.at fun o e => kk _ o e⟩ ?_ ?_ ?_ ?_
  · rintro b (rfl | rfl) hb
    · rcases hb with ⟨_, hb⟩ | hb | hb
      · exact Nat.not_lt_of_le hb hL6
      · exact absurd hb (Nat.ne_of_gt l1)
      · exact absurd hb (Nat.ne_of_gt l2)
    · rcases hb with ⟨_, hb⟩ | hb | hb
      · exact Nat.not_lt_of_le hb lB
      · exact absurd hb (Nat.ne_of_lt lC1)
      · exact absurd hb (Nat.ne_of_lt (Nat.lt_trans lC1 lC2))
  · refine ⟨m, cm 3, ?_, rfl, X.keeps kk, R1.stab (Stab.all kk), R2.stab (Stab.all kk)⟩
    have e : (fun j => if j = 3 then cm 3 else cm j) = cm := by funext j; split <;> simp_all
    rw [e]
    exact x.keeps kk
  · rintro i h h' ⟨m', v3, jx, js, jB, j1, j2⟩ ⟨⟨o, ho, _, hdt⟩, _⟩ kp
    have S : Stab (L + 6) h h' := fun b o' hb e => kp b o' (by
      rintro rfl
      rw [ho] at e; cases e
      rcases hb with ⟨its, n, q⟩ | ⟨⟨es, n, q⟩, _⟩ <;> rw [hdt] at q <;> cases q) e
    refine ⟨m', v3, jx.mono fun b o' hb e => kp b o' ?_ e, js, jB.stab lB S, j1.stab S, j2.stab S⟩
    rcases hb with ⟨_, hb⟩ | ⟨o2, hb⟩
    · exact Nat.ne_of_lt (Nat.lt_of_le_of_lt hb hL6)
    · exact Nat.ne_of_lt (Heap.lt_size (x.keep b o2 hb))
  · rintro i v s₁ E' hi ⟨e, hee, rfl⟩ ⟨m', v3, jx, js, jB, j1, j2⟩ hc₁
    have hiN : i < p.toNat * p.toNat := by rw [List.size_toArray, List.length_map, he.1] at hi; exact hi
    obtain ⟨kk', a, vv, hxi, ek, ev⟩ := entry_get hee
    obtain ⟨K, hK⟩ := he.2 i hiN
    rw [hxi] at hK
    cases hK
    rw [ek]
    have hkey : IsTupleKey (intKind prog w) s₁.heap (bk p i) a := by
      have := (keys_of hdB).1 _ (List.mem_of_getElem? hxi)
      obtain ⟨o, its, n, e1, e2, e3, e4⟩ := this
      refine ⟨o, its, n, hc₁.get ?_ (kk _ _ e1), e2, e3, e4⟩
      have nl : ∀ {C : Addr} {ks}, RowsAt prog w (L + 6) s.heap C p.toNat ks → a ≠ C := by
        rintro C ks ⟨_, ⟨o', e', c', _⟩, _⟩ rfl
        rw [e1] at e'; cases e'
        rw [e2] at c'; exact absurd c' (by decide)
      rintro ((⟨h1, h2⟩ | q | q) | q)
      · by_cases hL0 : a = L
        · subst hL0
          obtain ⟨o', _, _, e', d', _⟩ := x.ns
          rw [e1] at e'; cases e'; rw [e3] at d'; cases d'
        · have hne : @Ne Nat a L := hL0
          obtain ⟨o', e', d'⟩ := x.cell (@HSub.hSub Nat Nat Nat _ a L) (by omega) (by omega)
          have ea : cA L (@HSub.hSub Nat Nat Nat _ a L) = a := Nat.add_sub_cancel' h1
          rw [ea, e1] at e'; cases e'; rw [e3] at d'; cases d'
      · exact nl R1 q
      · exact nl R2 q
      · exact absurd q (Nat.ne_of_lt (Heap.lt_size e1))
    obtain ⟨t, u, hT⟩ := key2 hkey
    refine wpAny_assign_Tuple hh hT rfl rfl fun h₃ hx₃ => ?_
    have k₃ : ∀ b o, s₁.heap.get? b = some o → h₃.get? b = some o := fun b o e => hx₃ b o (Nat.ne_of_lt (Heap.lt_size e)) e
    have x₃ := jx.keeps k₃
    show wpAny _ _ (do holding [Value.int ((i % p.toNat : Nat) : Int) u] (assign _ (lawE L fa cd) (Value.int ((i / p.toNat : Nat) : Int) t)); do holding [] (assign _ (lawE L fa cd) (Value.int ((i % p.toNat : Nat) : Int) u)); pure ()) _ _ _
    refine wpAny_bind (wpAny_holding (wpAny_assign_Name (stF hGL x₃ fun h₄ x₄ st₄ k₄ => ?_)))
    refine wpAny_bind (wpAny_holding (wpAny_assign_Name (stC hGL x₄ (k := 3) (by decide) (by decide) fun h₅ x₅ st₅ k₅ => wpAny_pure ?_)))
    dsimp only at st₄ st₅ k₄ k₅ ⊢
    have S₅ : Stab (L + 6) s₁.heap h₅ := (Stab.all k₃).trans (st₄.trans st₅)
    have jB₅ := jB.stab lB S₅
    have j1₅ := j1.stab S₅
    have j2₅ := j2.stab S₅
    have hpn : 0 < p.toNat := Int.lt_toNat.mpr (Int.lt_of_lt_of_le (by decide) hp2.1)
    have la : i / p.toNat < p.toNat := Nat.div_lt_of_lt_mul hiN
    have lb : i % p.toNat < p.toNat := Nat.mod_lt _ hpn
    refine wpAny_execs_cons (wpAny_If (wpAny_isTrue_value (beat_get (B := B) (a := i / p.toNat) (b := i % p.toNat) hu jB₅ la lb (fun Q hq => nmC (c := cA L 4) (x₅.c (by decide) (by decide) h4) hq) (fun Q hq => nmL x₅.ns (if_pos rfl) (hq _)) (fun Q hq => nmC (c := cA L 3) (x₅.c (by decide) (by decide) rfl) (hq _)) fun s₆ hk₆ => wpAny_truthy_bool ?_)))
    have keep : ∀ b o, ¬ (own L b ∨ b = C1 ∨ b = C2) → s₁.heap.get? b = some o → s₆.heap.get? b = some o := fun b o hb e =>
      hk₆.get (k₅ b o (fun q => hb (.inl (q ▸ cA_own (by decide)))) (k₄ b o (fun q => hb (.inl (q ▸ ⟨Nat.le_refl _, Nat.le_add_right ..⟩))) (k₃ b o e)))
    have c₆ : Ch (fun b => own L b ∨ b = C1 ∨ b = C2) s₁ s₆ := by
      obtain ⟨h₆, tk₆, rfl, _⟩ := id hk₆
      exact ⟨h₆, tk₆, rfl, fun b o hb e => keep b o hb e⟩
    cases hbt : bt p (i / p.toNat) (i % p.toNat) with
    | false =>
      show wpAny _ _ (execs [] _) _ _ _
      have x₆ := x₅.keeps hk₆.all
      rw [show (fun j => if j = 3 then some (Value.int ((i % p.toNat : Nat) : Int) u) else (fun j => if j = 3 then v3 else cm j) j) = fun j => if j = 3 then some (Value.int ((i % p.toNat : Nat) : Int) u) else cm j from by funext j; by_cases h : j = 3 <;> simp [h]] at x₆
      refine wpAny_execs_nil (wpAny_execs_nil ⟨rfl, c₆, _, _, x₆, (if_neg (by decide)).trans js, jB₅.keeps hk₆.all, ?_, ?_⟩)
      · rw [show cKs p (i + 1) = cKs p i from by show (if _ then _ else _) = _; rw [hbt]; rfl]
        exact j1₅.stab (Stab.all hk₆.all)
      · rw [show lKs p (i + 1) = lKs p i from by show (if _ then _ else _) = _; rw [hbt]; rfl]
        exact j2₅.stab (Stab.all hk₆.all)
    | true =>
      show wpAny _ _ (execs _ _) _ _ _
      have x₆ := x₅.keeps hk₆.all
      rw [show (fun j => if j = 3 then some (Value.int ((i % p.toNat : Nat) : Int) u) else (fun j => if j = 3 then v3 else cm j) j) = fun j => if j = 3 then some (Value.int ((i % p.toNat : Nat) : Int) u) else cm j from by funext j; by_cases h : j = 3 <;> simp [h]] at x₆
      have R6 := j1₅.stab (Stab.all hk₆.all)
      have R7 := j2₅.stab (Stab.all hk₆.all)
      have i1000 : i ≤ 1000 := by
        have : p.toNat ≤ 11 := by rcases hp with rfl | rfl <;> decide
        have : p.toNat * p.toNat ≤ 11 * 11 := Nat.mul_le_mul this this
        omega
      refine wpAny_execs_cons (row_add (CL := C1) (i := i / p.toNat) (b := i % p.toNat) (ks := cKs p i) (lo := L + 6) hd hu hh TP x₆.keep hlo (fun s₁ Q E k q => nmC (c := cA L 5) ((x₆.keeps k.all).c (by decide) (by decide) h5) q) (fun s₁ Q E k q => nmC (c := cA L 5) ((x₆.keeps k.all).c (by decide) (by decide) h5) q)
        (fun s₁ Q E k q => nmL (x₆.keeps k.all).ns (if_pos rfl) (q _)) (fun s₁ Q E k q => nmL (x₆.keeps k.all).ns (if_pos rfl) (q _)) (fun s₁ Q E k q => nmC (c := cA L 3) ((x₆.keeps k.all).c (by decide) (by decide) rfl) (q _)) R6 la p40 (cKs_new i) (Nat.le_trans (cKs_len i _) i1000) ⟨cA L 6, _, (x₆.cell 6 (by decide) (by decide)).choose_spec.1, Nat.le_refl _⟩ (fun h₇ tk₇ R₇ k₇ => ?_) (fun s₁ Q E k q => nmG (TP.base.keeps (x₆.keeps k.all).keep) TP.mac q))
      dsimp only at k₇ ⊢
      have C1n : ∀ b, (own L b ∨ ∃ o, G.get? b = some o) → b ≠ C1 := fun b hb => by
        rcases hb with ⟨_, hb⟩ | ⟨o, hb⟩
        · exact Nat.ne_of_lt (Nat.lt_of_le_of_lt hb LC1)
        · exact Nat.ne_of_lt (Nat.lt_of_lt_of_le (Heap.lt_size hb) (Nat.le_trans hGL (Nat.le_trans (Nat.le_add_right L 6) (Nat.le_of_lt LC1))))
      have x₇ : LS G L _ _ h₇ := x₆.mono fun b o hb e => k₇ b o (C1n b hb) e
      have jB₇ : BeatAt prog w p h₇ B := (jB₅.keeps hk₆.all).but R6.lst k₇
      have R7' : RowsAt prog w (L + 6) h₇ C2 p.toNat (lKs p i) := R7.but R6.lst (Nat.ne_of_gt lC2) k₇
      refine wpAny_execs_cons (row_add (s := { s₆ with heap := h₇, toks := tk₇ }) (CL := C2) (i := i % p.toNat) (b := i / p.toNat) (ks := lKs p i) (lo := L + 6) hd hu hh TP x₇.keep hlo (fun s₁ Q E k q => nmC (c := cA L 6) ((x₇.keeps k.all).c (by decide) (by decide) h6) q) (fun s₁ Q E k q => nmC (c := cA L 6) ((x₇.keeps k.all).c (by decide) (by decide) h6) q)
        (fun s₁ Q E k q => nmC (c := cA L 3) ((x₇.keeps k.all).c (by decide) (by decide) rfl) (q _)) (fun s₁ Q E k q => nmC (c := cA L 3) ((x₇.keeps k.all).c (by decide) (by decide) rfl) (q _)) (fun s₁ Q E k q => nmL (x₇.keeps k.all).ns (if_pos rfl) (q _)) R7' lb p40 (lKs_new i) (Nat.le_trans (lKs_len i _) i1000) ⟨cA L 6, _, (x₇.cell 6 (by decide) (by decide)).choose_spec.1, Nat.le_refl _⟩ (fun h₈ tk₈ R₈ k₈ => ?_) (fun s₁ Q E k q => nmG (TP.base.keeps (x₇.keeps k.all).keep) TP.mac q))
      dsimp only at k₈ ⊢
      have C2n : ∀ b, (own L b ∨ ∃ o, G.get? b = some o) → b ≠ C2 := fun b hb => by
        rcases hb with ⟨_, hb⟩ | ⟨o, hb⟩
        · exact Nat.ne_of_lt (Nat.lt_of_le_of_lt hb LC2)
        · exact Nat.ne_of_lt (Nat.lt_of_lt_of_le (Heap.lt_size hb) (Nat.le_trans hGL (Nat.le_trans (Nat.le_add_right L 6) (Nat.le_of_lt LC2))))
      have x₈ : LS G L _ _ h₈ := x₇.mono fun b o hb e => k₈ b o (C2n b hb) e
      refine wpAny_execs_nil (wpAny_execs_nil ⟨rfl, ?_, _, _, x₈, (if_neg (by decide)).trans js, ?_, ?_, ?_⟩)
      · obtain ⟨h₆, tk₆, rfl, _⟩ := id hk₆
        exact ⟨h₈, tk₈, rfl, fun b o hb e => k₈ b o (fun q => hb (.inr (.inr q))) (k₇ b o (fun q => hb (.inr (.inl q))) (keep b o hb e))⟩
      · exact jB₇.but R7'.lst k₈
      · rw [show cKs p (i + 1) = fun j => if j = i / p.toNat then cKs p i (i / p.toNat) ++ [wk (Str.ofString "beat") (i % p.toNat)] else cKs p i j from by show (if _ then _ else _) = _; rw [hbt]; rfl]
        exact R₇.but R7'.lst (Nat.ne_of_lt lC2) k₈
      · rw [show lKs p (i + 1) = fun j => if j = i % p.toNat then lKs p i (i % p.toNat) ++ [wk (Str.ofString "by") (i / p.toNat)] else lKs p i j from by show (if _ then _ else _) = _; rw [hbt]; rfl]
        exact R₈
  · rintro s' ⟨m', v3, jx, js, jB, j1, j2⟩ hc
    have hz : (xs.map (entryOfKey (tupleKind (intKind prog w)))).toArray.size = p.toNat * p.toNat := by rw [List.size_toArray, List.length_map, he.1]
    rw [hz] at j1 j2
    have c0 : Ch (fun b => (own L b ∨ b = C1 ∨ b = C2) ∨ b = s.heap.objs.size) s { s with heap := H } := ⟨H, s.toks, rfl, fun b o _ e => kk b o e⟩
    refine hQ s' m' v3 jx jB j1 j2 ((c0.trans hc).shrink fun y o e h => h.elim id fun (q : @Eq Nat y s.heap.objs.size) => ?_) js
    have : @LT.lt Nat _ y s.heap.objs.size := Heap.lt_size e
    omega
end
end Gy
end

section
open PySem PySem.W PySem.Calls PyProof.Rows
set_option maxRecDepth 100000
namespace Gy
section
variable {prog : Program} {w : World} {A : Around} {E : Value → Shared → Prop} {s : Shared} {G : Heap} {L fa : Addr} {cd : Value} {m mg mb : Str → Option Value} {cm : Nat → Option Value} {ac cc : Addr} {p : Int}
theorem len_facts (p : Int) (hp : p = 7 ∨ p = 11) : ∀ j, j < p.toNat → ((cKs p (p.toNat * p.toNat) j).length : Int) = p.fdiv 2 ∧ ((lKs p (p.toNat * p.toNat) j).length : Int) = p.fdiv 2 := by
  rcases hp with rfl | rfl <;> decide +kernel
/-- count_calls(rows[i]) -/
theorem row_count {env : Env} {lname iname : Str} {CL : Addr} {i n lo : Nat} {ks : Nat → List MK} {q4 q5 q6 q7 q8 : Pos} {Q : Value → Shared → Prop}
    (hd : A.depth < recursionLimit) (hh : A.handled = none) (TP : Tops G mg mb ac cc) (hG : ∀ b o, G.get? b = some o → s.heap.get? b = some o) (hlo : 1 ≤ lo)
    (hL : ∀ (Q : Value → Shared → Prop), Q (.ref CL) s → wpAny (model prog w) A (eval (.Name lname q6) env) Q E s)
    (hi : ∀ (Q : Value → Shared → Prop), (∀ t, Q (.int i t) s) → wpAny (model prog w) A (eval (.Name iname q7) env) Q E s)
    (R : RowsAt prog w lo s.heap CL n ks) (hin : i < n) (hn2 : n < 2 ^ 40)
    (hQ : ∀ s' t, Kp s s' → Q (.int (ks i).length t) s')
    (hcc : ∀ (Q : Value → Shared → Prop), Q (.ref cc) s → wpAny (model prog w) A (eval (.Name (Str.ofString "count_calls") q4) env) Q E s) :
    wpAny (model prog w) A (eval (.Call (.Name (Str.ofString "count_calls") q4) [.Subscript (.Name lname q6) (.Name iname q7) q5] [] q8) env) Q E s := by
  obtain ⟨vs, hl, hvs, hr⟩ := id R
  obtain ⟨d, xs, e1, e2, e3, e4, e5⟩ := hr i hin
  have hid : ((i : Int)).toNat = i := Int.toNat_natCast i
  refine cF1 (f := cc) TP.fcc.fn hcc ?_
  refine subN (hL _ (hi _ fun t => ⟨"list", "list.__getitem__", slot_list_getitem.lookup, let ⟨o, ho, hc, _⟩ := hl; ⟨o, ho, hc⟩, wpAny_getItem_list hl (by omega) (by omega) (x := .ref d) (by rw [hid]; exact e1) ⟨hG, ?_⟩⟩))
  have hd1s : (d == sysModules) = false := beq_eq_false_iff_ne.mpr (Nat.ne_of_gt (show @LT.lt Nat _ 1 d by omega))
  refine count_calls_call hd hh (TP.fcc.keeps hG) (TP.base.keeps hG) e2 hd1s e4 fun h' tk t k => ?_
  have ll : xs.length = (ks i).length := by rw [← e3, List.length_map]
  rw [ll]
  exact hQ _ t (Kp.of k)
def lc107 : Expr := match st 6 with | .If (.Compare l _ _ _) _ _ _ => l | _ => .Constant .none 0 ⟨0, 0, 0, 0⟩
set_option maxHeartbeats 1000000 in
theorem comp107 {t : Tok} {C1 C2 : Addr} {Q : Value → Shared → Prop} (hd : A.depth < recursionLimit) (hh : A.handled = none) (TP : Tops G mg mb ac cc) (hp : p = 7 ∨ p = 11)
    (x : LS G L m cm s.heap) (hm : cm 1 = some (.int p t)) (h5 : cm 5 = some (.ref C1)) (h6 : cm 6 = some (.ref C2))
    (R1 : RowsAt prog w (L + 6) s.heap C1 p.toNat (cKs p (p.toNat * p.toNat))) (R2 : RowsAt prog w (L + 6) s.heap C2 p.toNat (lKs p (p.toNat * p.toNat)))
    (hQ : ∀ h' tk D k, (∀ b o, s.heap.get? b = some o → h'.get? b = some o) → h'.get? D = some (lst #[] k) → Q (.ref D) { s with heap := h', toks := tk }) :
    wpAny (model prog w) A (eval lc107 (lawE L fa cd)) Q E s := by
  conv => arg 3; arg 1; whnf
  have hp2 : 2 ≤ p ∧ p ≤ 100 := by rcases hp with rfl | rfl <;> decide
  have B₀ := TP.base.keeps x.keep
  refine comp_one (n := p.toNat) (cl := [(Str.ofString "many", cA L 1), (Str.ofString "lost", cA L 6), (Str.ofString "calls", cA L 5)]) (fp := fun I b => b = I) (St := fun I i h => IsRangeIter h I (0 + i) (p.toNat - i) 1) (P := fun i v => ∃ t, v = .int (0 + i) t)
    (fun I _ => itr_range hh I 0 _ _ _) (fun I b q => .inl q) (fun I i h q => ⟨_, q⟩) (fun I s₁ Q E st hq => wpAny_pyIter_rangeiter st hq) (range_hit1 (b := p) B₀ TP.nrange TP.brange rfl rfl rfl rfl rfl (fun Q hq => nmC (c := cA L 1) (x.c (by decide) (by decide) hm) (hq _)) (by omega) (by omega)) rfl (by decide) rfl (by decide) (fun _ => rfl) (fun _ => rfl)
    (fun _ _ vs _ => vs = #[]) (fun _ _ _ => rfl) (fun _ _ _ _ _ _ q _ => q) (fun _ _ vs _ q => by rw [q]; decide) ?_ ?_
  · rintro X i v s₁ C vs m₁ E' hi ⟨t₁, rfl⟩ hX rfl hk hc₁
    have ei : (0 + (i : Int)) = i := Int.zero_add _
    rw [ei] at hc₁
    have x₁ := x.keeps hk.all
    have lf := len_facts p hp i hi
    refine one_test (wpAny_isTrue_BoolOp (wpAny_allTrue_Or_cons (wpAny_isTrue_Compare1 ?_)))
    refine row_count (i := i) hd hh TP x₁.keep (Nat.le_trans (show 1 ≤ 6 by decide) (Nat.le_add_left 6 L)) (fun Q hq => nmC (c := cA L 5) (x₁.c (by decide) (by decide) h5) hq) (fun Q hq => nmL hc₁ (if_pos rfl) (hq _)) (R1.stab (Stab.all hk.all)) hi (by omega) (fun s₂ t₂ k₂ => ?_) (fun Q hq => nmG (TP.base.keeps x₁.keep) TP.mcc hq)
    have x₂ := x₁.keeps k₂.all
    refine wpAny_BinOp (nmC (c := cA L 1) (x₂.c (by decide) (by decide) hm) (wpAny_Constant_int (floordiv_int (by decide) (ne_int (wpAny_truthy_bool ?_)) (.inl (PyProof.noPylong_small (by decide))))))
    have e1 : (((cKs p (p.toNat * p.toNat) i).length : Int) != p.fdiv 2) = false := by rw [lf.1, bne_self_eq_false]
    rw [e1]
    show wpAny _ _ (allTrue .Or _ _) _ _ _
    refine wpAny_allTrue_Or_cons (wpAny_isTrue_Compare1 ?_)
    refine row_count (i := i) hd hh TP x₂.keep (Nat.le_trans (show 1 ≤ 6 by decide) (Nat.le_add_left 6 L)) (fun Q hq => nmC (c := cA L 6) (x₂.c (by decide) (by decide) h6) hq) (fun Q hq => nmL (hc₁.keeps k₂.all) (if_pos rfl) (hq _)) ((R2.stab (Stab.all hk.all)).stab (Stab.all k₂.all)) hi (by omega) (fun s₃ t₃ k₃ => ?_) (fun Q hq => nmG (TP.base.keeps x₂.keep) TP.mcc hq)
    have x₃ := x₂.keeps k₃.all
    refine wpAny_BinOp (nmC (c := cA L 1) (x₃.c (by decide) (by decide) hm) (wpAny_Constant_int (floordiv_int (by decide) (ne_int (wpAny_truthy_bool ?_)) (.inl (PyProof.noPylong_small (by decide))))))
    have e2 : (((lKs p (p.toNat * p.toNat) i).length : Int) != p.fdiv 2) = false := by rw [lf.2, bne_self_eq_false]
    rw [e2]
    show wpAny _ _ (allTrue .Or [] _) _ _ _
    refine wpAny_allTrue_Or_nil ?_
    exact ⟨((k₂.trans (Kp.of fun _ _ e => e)).trans k₃).trans (Kp.of fun _ _ e => e), rfl⟩
  · rintro X h' tk D vs k hX rfl hDn hDl hD kk
    exact hQ h' tk D k kk hD
set_option maxHeartbeats 1000000 in
theorem line107 {t : Tok} {C1 C2 : Addr} {Q : Flow → Shared → Prop} (hd : A.depth < recursionLimit) (hh : A.handled = none) (hu : A.units + 64 < cLine) (TP : Tops G mg mb ac cc) (hp : p = 7 ∨ p = 11)
    (x : LS G L m cm s.heap) (hm : cm 1 = some (.int p t)) (h5 : cm 5 = some (.ref C1)) (h6 : cm 6 = some (.ref C2))
    (R1 : RowsAt prog w (L + 6) s.heap C1 p.toNat (cKs p (p.toNat * p.toNat))) (R2 : RowsAt prog w (L + 6) s.heap C2 p.toNat (lKs p (p.toNat * p.toNat)))
    (hQ : ∀ s', Kp s s' → Q .next s') :
    wpAny (model prog w) A (exec (st 6) (lawE L fa cd)) Q E s := by
  conv => arg 3; arg 1; whnf
  refine wpAny_If (wpAny_isTrue_Compare1 (comp107 hd hh TP hp x hm h5 h6 R1 R2 fun h' tk D k kk hD => ?_))
  refine List_ (show wpAny _ _ (spliced []) _ _ _ from spliced_nil (wpAny_newList (hsz := Nat.zero_le _) ?_))
  refine ke_ne_ints (xs := []) (ys := []) (ns := []) (ms := []) ⟨_, Heap.get?_push_of_some _ hD, rfl, k, rfl⟩ ⟨_, Heap.get?_push_size _ rfl, rfl, 0, rfl⟩ .nil .nil hu (wpAny_truthy_bool ?_)
  show wpAny _ _ (execs [] _) _ _ _
  exact wpAny_execs_nil (hQ _ (Kp.of fun b o e => Heap.get?_push_of_some _ (kk b o e)))
end
end Gy
end

section
open PySem PySem.W PySem.Calls PyProof.Rows
set_option maxRecDepth 100000
namespace Gy
section
variable {prog : Program} {w : World} {A : Around} {E : Value → Shared → Prop} {s : Shared} {env : Env}
/-- comp_enter, where the list is laid down in a name before the block is left -/
theorem comp_enterU {elt target iter : Expr} {ifs : List Expr} {gs : List Comprehension} {scope : Scope} {pos spos py : Pos} {y : Str} {cl : List (Str × Addr)} {Q : Flow → Shared → Prop}
    (hsw : swapsWith (.ListComp elt (⟨target, iter, ifs, 0⟩ :: gs) scope pos) (some (.Name y py)) spos.line env = pure true)
    (h : wpAny (model prog w) A (eval iter env) (fun xv s₁ => wpAny (model prog w) A (pyIter xv) (fun it s₂ => ∀ D C h₃, @LE.le Nat _ s₂.heap.objs.size D → @LT.lt Nat _ D C → h₃.get? D = some (lst #[] 0) → h₃.Ns C (fun _ => none) →
      (∀ b o, s₂.heap.get? b = some o → h₃.get? b = some o) →
      codeAny (model prog w) A (.compStart (.ListComp elt (⟨target, iter, ifs, 0⟩ :: gs) scope pos) 0 it (.ref D) (compEnvC scope cl C env))
        (fun r s' => ∃ f, r = .ok f ∧ wpAny (model prog w) A (assign (.Name y py) env (.ref D)) (fun _ s'' => ∃ m, s''.heap.Ns C m ∧ ∀ h', Heap.SameBut C s''.heap h' → Q .next { s'' with heap := h' }) E s') { s₂ with heap := h₃ }) E s₁) E s)
    (hclos : closureFor scope env = pure cl) (hcell : ∀ y ∈ scope.names, y.2 ≠ .cell) (hkind : scope.kind = .function)
    (hnames : ∀ y ∈ scope.names, y.2 = .local → scope.names.lookup y.1 = some .local) (hs : ∀ x, foldedSetIterable iter env x = pure x) :
    wpAny (model prog w) A (exec (.Assign [.Name y py] (.ListComp elt (⟨target, iter, ifs, 0⟩ :: gs) scope pos) spos) env) Q E s := by
  rw [exec_Assign_Name_used _ _ _ _ hsw]
  refine wpAny_bind (wpAny_standAt (wpAny_bind ?_))
  show wpAny _ A (do let _ ← comprehension (.ListComp elt (⟨target, iter, ifs, 0⟩ :: gs) scope pos) scope env _ (newList []) false (eval iter env) (some (assign (.Name y py) env))) _ _ s
  refine wpAny_bind (wpAny_mono (wpAny_comprehension_free (e := .ListComp elt (⟨target, iter, ifs, 0⟩ :: gs) scope pos) (gs := gs) (use := some (assign (.Name y py) env)) (Q := fun _ s' => Q .next s') rfl hs hclos hkind hnames
    (wpAny_mono h (fun xv s₁ h₁ => wpAny_mono h₁ (fun it s₂ h₂ => ?_) fun _ _ e => e) fun _ _ e => e)) (fun _ s' hq => wpAny_pure (wpAny_pure hq)) fun _ _ e => e)
  refine wpAny_newObj_type (wpAny_newFunctionEnv hcell (by intro y hy; simp at hy) (fun h₁ hns₁ hsb₁ => ?_) hkind)
  dsimp only at hns₁ hsb₁ ⊢
  generalize hH2 : s₂.heap.push { cls := .type "list", dict := none, data := .seq ([] : List Value).toArray } = H2 at hns₁ hsb₁ ⊢
  have hC : H2.objs.size = s₂.heap.objs.size + 1 := by rw [← hH2, Heap.size_push]
  have hDC : @Ne Nat s₂.heap.objs.size H2.objs.size := by omega
  refine codeAny_mono (h₂ s₂.heap.objs.size H2.objs.size h₁ (Nat.le_refl _) (show @LT.lt Nat _ _ _ by omega) ?_ hns₁ fun b o e => ?_) fun r s' hr => ?_
  · exact hsb₁.extBut _ _ hDC (Heap.get?_push_of_some _ (hH2 ▸ Heap.get?_push_size _ rfl))
  · have hb : @LT.lt Nat _ b s₂.heap.objs.size := Heap.lt_size e
    exact hsb₁.extBut b o (show @Ne Nat _ _ by omega) (Heap.get?_push_of_some _ (hH2 ▸ Heap.get?_push_of_some _ e))
  · obtain ⟨f, rfl, hq⟩ := hr
    exact hq

set_option maxHeartbeats 1000000 in
/-- comp_one, laid down in a name -/
theorem comp_oneU {y : Str} {py spos : Pos} {mE : Str → Option Value} {elt iter : Expr} {x : Str} {px : Pos} {ifs : List Expr} {scope : Scope} {pos : Pos} {cl : List (Str × Addr)} {n : Nat} {fp : Addr → Addr → Prop} {P : Nat → Value → Prop} {St : Addr → Nat → Heap → Prop} {Q : Flow → Shared → Prop}
    (I₀ : ∀ I, s.heap.get? I = none → Itr prog w A I (fp I) (.Name x px) n (fun i v _ => P i v) (St I)) (hfp : ∀ I b, fp I b → b = I ∨ ∃ o, s.heap.get? b = some o)
    (hthere : ∀ I i h, St I i h → ∃ o, h.get? I = some o)
    (hself : ∀ I (s₁ : Shared) (Q : Value → Shared → Prop) (E : Value → Shared → Prop), St I 0 s₁.heap → Q (.ref I) s₁ → wpAny (model prog w) A (pyIter (.ref I)) Q E s₁)
    (hit : wpAny (model prog w) A (eval iter env) (fun xv s₁ => wpAny (model prog w) A (pyIter xv) (fun it s₂ => ∃ I, it = .ref I ∧ s.heap.get? I = none ∧ (∃ o, s₂.heap.get? I = some o) ∧ St I 0 s₂.heap ∧ Kp s s₂) E s₁) E s)
    (hclos : closureFor scope env = pure cl) (hcell : ∀ y ∈ scope.names, y.2 ≠ .cell) (hkind : scope.kind = .function)
    (hnames : ∀ y ∈ scope.names, y.2 = .local → scope.names.lookup y.1 = some .local) (hs : ∀ x, foldedSetIterable iter env x = pure x)
    (hx : ∀ C, (compEnvC scope cl C env).kindOf x = some .local)
    (J : (Addr → Prop) → Nat → Array Value → Heap → Prop)
    (h0 : ∀ X h, (∀ b o, s.heap.get? b = some o → h.get? b = some o) → J X 0 #[] h)
    (jst : ∀ X i vs h h', (∀ b, X b → s.heap.get? b = none) → J X i vs h → (∀ b o, ¬ X b → h.get? b = some o → h'.get? b = some o) → J X i vs h')
    (hsz : ∀ X i vs h, J X i vs h → vs.size ≤ sizeLine)
    (step : ∀ X i v (s₁ : Shared) C vs (m : Str → Option Value) (E : Value → Shared → Prop), i < n → P i v → (∀ b, X b → s.heap.get? b = none ∧ ∃ o, s₁.heap.get? b = some o) → J X i vs s₁.heap → Kp s s₁ → s₁.heap.Ns C (fun y => if y = x then some v else m y) →
      wpAny (model prog w) A (forIn ifs true fun c r => if r = true then do let ok ← isTrue c (compEnvC scope cl C env) (eval c (compEnvC scope cl C env)); pure (ForInStep.yield ok) else pure (ForInStep.yield r)) (fun ok s₃ =>
        if ok = true then wpAny (model prog w) A (eval elt (compEnvC scope cl C env)) (fun y s₄ => Kp s₁ s₄ ∧ J X (i + 1) (vs.push y) s₄.heap) E s₃ else Kp s₁ s₃ ∧ J X (i + 1) vs s₃.heap) E s₁)
    (hn : s.heap.Ns env.locals mE) (hy : env.kindOf y = some .local) (hkE : (env.scope.kind == .class || (env.scope.kind == .module && env.locals != env.globals)) = false) (hsw : swapsWith (.ListComp elt [⟨.Name x px, iter, ifs, 0⟩] scope pos) (some (.Name y py)) spos.line env = pure true)
    (hJL : ∀ X i vs h h', (∀ b, X b → s.heap.get? b = none) → J X i vs h → (∀ b o, b ≠ env.locals → h.get? b = some o → h'.get? b = some o) → J X i vs h')
    (hQ : ∀ X h' tk D vs k, (∀ b, X b → s.heap.get? b = none) → J X n vs h' → s.heap.get? D = none → (∀ b o, s.heap.get? b = some o → @LT.lt Nat _ b D) → h'.get? D = some (lst vs k) → h'.Ns env.locals (fun z => if z = y then some (.ref D) else mE z) → (∀ b o, b ≠ env.locals → s.heap.get? b = some o → h'.get? b = some o) → Q .next { s with heap := h', toks := tk }) :
    wpAny (model prog w) A (exec (.Assign [.Name y py] (.ListComp elt [⟨.Name x px, iter, ifs, 0⟩] scope pos) spos) env) Q E s := by
  refine comp_enterU hsw (cl := cl) (wpAny_mono hit (fun xv s₁ h₁ => wpAny_mono h₁ (fun it s₂ h₂ => ?_) fun _ _ e => e) fun _ _ e => e) hclos hcell hkind hnames hs
  obtain ⟨I, rfl, hIn, ⟨oI, hoI⟩, hst, hk⟩ := h₂
  intro D C h₃ hD hCD hd hc k₃
  obtain ⟨h₂, tk₂, rfl, _⟩ := id hk
  have k02 : ∀ b o, s.heap.get? b = some o → h₂.get? b = some o := hk.all
  dsimp only at hoI hst hD k₃ ⊢
  have k03 : ∀ b o, s.heap.get? b = some o → h₃.get? b = some o := fun b o e => k₃ b o (k02 b o e)
  have lt2 : ∀ b o, s.heap.get? b = some o → @LT.lt Nat _ b h₂.objs.size := fun b o e => Heap.lt_size (k02 b o e)
  have lI : @LT.lt Nat _ I h₂.objs.size := Heap.lt_size hoI
  have nge : ∀ b, @LE.le Nat _ h₂.objs.size b → s.heap.get? b = none := fun b hb => by
    cases q : s.heap.get? b with
    | none => rfl
    | some o => have := lt2 b o q; omega
  have XN : ∀ b, (b = I ∨ b = C ∨ b = D) → s.heap.get? b = none := by
    rintro b (rfl | rfl | rfl)
    · exact hIn
    · exact nge _ (by omega)
    · exact nge _ hD
  have neX : ∀ b o, s.heap.get? b = some o → ¬ (b = I ∨ b = C ∨ b = D) := fun b o e q => by rw [XN b q] at e; cases e
  have hk₀ : (compEnvC scope cl C env).scope.kind = .function := hkind
  have st₃ : St I 0 h₃ := (I₀ I hIn).frame _ _ _ hst fun b o _ e => k₃ b o e
  refine compStart_go (g := ⟨.Name x px, iter, ifs, 0⟩) rfl rfl (fun Q E hq => hself I _ Q E st₃ hq) ?_
  refine comp_leaf (d := 0) rfl rfl (I₀ I hIn) rfl (hx C) hk₀ (fun b => b = C ∨ b = D) (.inl rfl) (.inr rfl) (Nat.ne_of_gt hCD) ?_ st₃ (J fun b => b = I ∨ b = C ∨ b = D) hd hc (h0 _ _ k03) ?_ (fun _ _ _ _ q _ => q) ?_ ?_
  · rintro b hb hw
    rcases hfp I b hb with q | ⟨o, q⟩
    · rcases hw with hw | hw
      · exact absurd (q.symm.trans hw) (show @Ne Nat _ _ by omega)
      · exact absurd (q.symm.trans hw) (show @Ne Nat _ _ by omega)
    · exact neX b o q (.inr hw)
  · intro i vs h h' hj kp
    exact jst _ i vs h h' XN hj fun b o hb e => kp b o (fun q => hb (.inl q)) (fun q => hb (.inr (.inl q))) (fun q => hb (.inr (.inr q))) e
  · intro i v s₁ E' vs k m₁ hi hP hSt hj hd₁ hc₁ hch
    have kp₁ : Kp s s₁ := by
      obtain ⟨h₄, tk₄, rfl, k₄⟩ := hch
      exact Kp.of fun b o e => k₄ b o (fun q => by
        rcases q with (q | q) | q
        · exact neX b o e (.inr (.inl q))
        · exact neX b o e (.inr (.inr q))
        · exact neX b o e (.inl q)) (k03 b o e)
    have ex : ∀ b, (b = I ∨ b = C ∨ b = D) → s.heap.get? b = none ∧ ∃ o, s₁.heap.get? b = some o := fun b hb => ⟨XN b hb, by
      rcases hb with rfl | rfl | rfl
      · exact hthere _ _ _ hSt
      · obtain ⟨o, _, _, ho, _⟩ := hc₁; exact ⟨o, ho⟩
      · exact ⟨_, hd₁⟩⟩
    refine wpAny_mono (step _ i v s₁ C vs m₁ E' hi hP ex hj kp₁ hc₁) (fun ok s₃ h₃ => ?_) fun _ _ e => e
    cases ok with
    | false =>
      simp only [Bool.false_eq_true, if_false] at h₃ ⊢
      obtain ⟨kp, hj'⟩ := h₃
      exact ⟨kp.mono fun _ q => q.elim, ⟨k, _, kp.get hd₁, hc₁.at' fun o e => kp.get e⟩, hj'⟩
    | true =>
      simp only [if_true] at h₃ ⊢
      refine wpAny_mono h₃ (fun y s₄ h₄ => ?_) fun _ _ e => e
      obtain ⟨kp, hj'⟩ := h₄
      exact ⟨kp.mono fun _ q => q.elim, ⟨k, _, kp.get hd₁, hc₁.at' fun o e => kp.get e⟩, hj', hsz _ _ _ _ hj⟩
  · intro s' vs k m' hj hd' hc' hch
    obtain ⟨h₄, tk₄, rfl, k₄⟩ := hch
    have k04 : ∀ b o, s.heap.get? b = some o → h₄.get? b = some o := fun b o e => k₄ b o (fun q => by
      rcases q with (q | q) | q
      · exact neX b o e (.inr (.inl q))
      · exact neX b o e (.inr (.inr q))
      · exact neX b o e (.inl q)) (k03 b o e)
    have hLs : ∃ o, s.heap.get? env.locals = some o := let ⟨o, _, _, e, _⟩ := hn; ⟨o, e⟩
    obtain ⟨oL, eL⟩ := hLs
    have hLC : env.locals ≠ C := fun q => neX _ _ eL (.inr (.inl q))
    have hLD : env.locals ≠ D := fun q => neX _ _ eL (.inr (.inr q))
    refine ⟨_, rfl, wpAny_assign_Name (wpAny_storeName_local hy (hn.at' fun o e => k04 _ o e) (fun h₅ hn₅ hs₅ => ?_) hkE)⟩
    replace hs₅ : Heap.SameBut env.locals h₄ h₅ := hs₅
    refine ⟨m', hc'.at' fun o e => hs₅.extBut _ o (Ne.symm hLC) e, fun h' hs' => ?_⟩
    replace hs' : Heap.SameBut C h₅ h' := hs'
    refine hQ _ h' _ D vs k XN (jst _ _ _ _ _ XN (hJL _ _ _ _ _ XN hj fun b o hb e => hs₅.extBut b o hb e) fun b o hb e => hs'.extBut b o (fun q => hb (.inr (.inl q))) e) (nge _ hD) (fun b o e => Nat.lt_of_lt_of_le (lt2 b o e) hD) (hs'.extBut _ _ (Nat.ne_of_lt hCD) (hs₅.extBut _ _ (Ne.symm hLD) hd')) (hn₅.at' fun o e => hs'.extBut _ o hLC e) fun b o hb e => ?_
    exact hs'.extBut b o (fun q => neX b o e (.inr (.inl q))) (hs₅.extBut b o hb (k04 b o e))
end
end Gy
end

section
open PySem PySem.W PySem.Calls PyProof.Rows
set_option maxRecDepth 100000
namespace Gy
/-- how many of ks lie in ms as well -/
def isIn (ms : List MK) (k : MK) : Bool := ms.any fun y => decide (y = k)
def both (ks ms : List MK) : Nat := ks.countP (isIn ms)
theorem both_facts (p : Int) (hp : p = 7 ∨ p = 11) : ∀ i, i < p.toNat → ∀ j, j < i → ((both (cKs p (p.toNat * p.toNat) i) (cKs p (p.toNat * p.toNat) j) : Nat) : Int) = (p - 3).fdiv 4 ∧ ((both (lKs p (p.toNat * p.toNat) i) (lKs p (p.toNat * p.toNat) j) : Nat) : Int) = (p - 3).fdiv 4 := by
  rcases hp with rfl | rfl <;> decide +kernel
theorem both_succ {ks ms : List MK} {i : Nat} {k : MK} (h : ks[i]? = some k) : both (ks.take (i + 1)) ms = both (ks.take i) ms + if isIn ms k = true then 1 else 0 := by
  unfold both
  rw [List.take_add_one, h, Option.toList_some, List.countP_append, List.countP_singleton]
theorem atKey_isIn {xs : List (MK × Addr × Value)} {k : MK} : (atKey xs k).isSome = isIn (xs.map (·.1)) k := by
  induction xs with
  | nil => rfl
  | cons x xs ih =>
    by_cases h : x.1 = k
    · simp [isIn, atKey, h]
    · simpa [isIn, atKey, h] using ih
/-- what is changed in the frame alone -/
theorem Stab.ofCh {G : Heap} {L : Addr} {m : Str → Option Value} {cm : Nat → Option Value} {s s' : Shared} {W : Addr → Prop} (x : LS G L m cm s.heap) (c : Ch (fun b => own L b ∨ W b) s s')
    (hW : ∀ b o, W b → s.heap.get? b = some o → ¬ ((∃ its n, o.data = .seq its n) ∨ ((∃ es n, o.data = .dict es n) ∧ @LT.lt Nat _ (L + 6) b))) : Stab (L + 6) s.heap s'.heap := fun b o hb e => c.get (by
  rintro (⟨h1, h2⟩ | q)
  · by_cases hL0 : b = L
    · subst hL0
      obtain ⟨o', es, ep, e', d', _⟩ := x.ns
      rw [e] at e'; cases e'
      rcases hb with ⟨its, n, q⟩ | ⟨_, q⟩
      · rw [d'] at q; cases q
      · exact absurd q (Nat.not_lt_of_le (Nat.le_add_right ..))
    · have hne : @Ne Nat b L := hL0
      obtain ⟨o', e', d'⟩ := x.cell (@HSub.hSub Nat Nat Nat _ b L) (by omega) (by omega)
      have ea : cA L (@HSub.hSub Nat Nat Nat _ b L) = b := Nat.add_sub_cancel' h1
      rw [ea, e] at e'; cases e'
      rcases hb with ⟨its, n, q⟩ | ⟨⟨es, n, q⟩, _⟩ <;> rw [d'] at q <;> cases q
  · exact hW b o q e hb) e
section
variable {prog : Program} {w : World} {A : Around} {E : Value → Shared → Prop} {s : Shared} {G : Heap} {L fa : Addr} {cd : Value} {m mg mb : Str → Option Value} {cm : Nat → Option Value} {ac cc : Addr} {p : Int}
/-- for x in range(e): in the law, where only its frame is changed -/
theorem for_range {x : Str} {px pt np cpos : Pos} {e : Expr} {body : List Stmt} {b : Int} {Q : Flow → Shared → Prop} (hh : A.handled = none) (TP : Tops G mg mb ac cc) (y : LS G L m cm s.heap) (hGL : @LE.le Nat _ G.objs.size L)
    (he : ∀ Q : Value → Shared → Prop, (∀ t, Q (.int b t) s) → wpAny (model prog w) A (eval e (lawE L fa cd)) Q E s) (h0 : 0 ≤ b) (h1 : b < 2 ^ 40)
    (J : Nat → Heap → Prop) (hJ0 : ∀ h, (∀ b o, s.heap.get? b = some o → h.get? b = some o) → J 0 h)
    (jst : ∀ i h h', J i h → Stab (L + 6) h h' → (∀ b o, (own L b ∨ ∃ o, G.get? b = some o) → h.get? b = some o → h'.get? b = some o) → J i h')
    (step : ∀ i t s₁ (E : Value → Shared → Prop), i < b.toNat → J i s₁.heap → Ch (own L) s s₁ →
      wpAny (model prog w) A (assign (.Name x px) (lawE L fa cd) (.int i t)) (fun _ s₂ => wpAny (model prog w) A (execs body (lawE L fa cd)) (fun f s₃ => f = .next ∧ Ch (own L) s₁ s₃ ∧ J (i + 1) s₃.heap) E s₂) E s₁)
    (fin : ∀ s', J b.toNat s'.heap → Ch (own L) s s' → Q .next s')
    (hs : ∀ xv, foldedSetIterable (.Call (.Name (Str.ofString "range") np) [e] [] cpos) (lawE L fa cd) xv = pure xv := by intro _; rfl)
    (hst : starEach [e] (lawE L fa cd) = [(false, eval e (lawE L fa cd))] := by rfl) :
    wpAny (model prog w) A (exec (.For (.Name x px) (.Call (.Name (Str.ofString "range") np) [e] [] cpos) body [] pt) (lawE L fa cd)) Q E s := by
  refine wpAny_For (cT1 (T := "range") (fun Q hq => nmB (TP.base.keeps y.keep) TP.nrange TP.brange hq) (he _ fun t => rg1 h0 h1 fun I h₁ tk hI1 hI2 hit kk => ?_) hst) hs
  have hL6 : @LT.lt Nat _ (L + 6) s.heap.objs.size := let ⟨_, e, _⟩ := y.cell 6 (by decide) (by decide); Heap.lt_size e
  have oI : ∀ b, own L b → b ≠ I := fun b ⟨_, hb⟩ => show @Ne Nat _ _ by omega
  have c0 : Ch (fun b => own L b ∨ b = I) s { s with heap := h₁, toks := tk } := ⟨h₁, tk, rfl, fun b o _ e => kk b o e⟩
  have back : ∀ s', Ch (fun b => own L b ∨ b = I) { s with heap := h₁, toks := tk } s' → Ch (own L) s s' := fun s' c => (c0.trans c).shrink fun z o e h => h.elim id fun (q : @Eq Nat z I) => by
    have : @LT.lt Nat _ z s.heap.objs.size := Heap.lt_size e
    omega
  refine forLoop_core (s := { s with heap := h₁, toks := tk }) (itr_range hh I 0 b.toNat x px) (own L) J (fun b q o => oI b o q) hit (hJ0 _ kk) ?_ ?_ ?_
  · intro i h h' hj hst kp
    refine jst i h h' hj (fun b o hb e => kp b o ?_ e) fun b o hb e => kp b o ?_ e
    · rintro rfl
      have hst' : h.get? b = _ := hst
      rw [e] at hst'; cases hst'
      rcases hb with ⟨its, n, q⟩ | ⟨⟨es, n, q⟩, _⟩ <;> cases q
    · rcases hb with hb | ⟨o2, hb⟩
      · exact oI b hb
      · have q1 : @LT.lt Nat _ b G.objs.size := Heap.lt_size hb
        exact show @Ne Nat _ _ by omega
  · rintro i v s₁ E' hi ⟨t₁, rfl⟩ hj hc
    have ei : (0 + (i : Int)) = i := Int.zero_add _
    rw [ei]
    exact step i t₁ s₁ E' hi hj (back _ hc)
  · intro s' hj hc
    exact fin s' hj (back _ hc)
end
end Gy
end

section
open PySem PySem.W PySem.Calls PyProof.Rows
set_option maxRecDepth 100000
namespace Gy
section
variable {prog : Program} {w : World} {A : Around} {E : Value → Shared → Prop} {s : Shared} {env : Env}
/-- rows[i] -/
theorem row_sub {lname iname : Str} {CL d : Addr} {i n : Nat} {vs : Array Value} {q5 q6 q7 : Pos} {Q : Value → Shared → Prop}
    (hL : ∀ (Q : Value → Shared → Prop), Q (.ref CL) s → wpAny (model prog w) A (eval (.Name lname q6) env) Q E s)
    (hi : ∀ (Q : Value → Shared → Prop), (∀ t, Q (.int i t) s) → wpAny (model prog w) A (eval (.Name iname q7) env) Q E s)
    (hl : s.heap.IsList CL vs) (hn2 : n < 2 ^ 40) (hin : i < n) (hvs : vs.size = n) (e1 : vs[i]? = some (.ref d)) (hQ : Q (.ref d) s) :
    wpAny (model prog w) A (eval (.Subscript (.Name lname q6) (.Name iname q7) q5) env) Q E s := by
  have hid : ((i : Int)).toNat = i := Int.toNat_natCast i
  exact subN (hL _ (hi _ fun t => ⟨"list", "list.__getitem__", slot_list_getitem.lookup, let ⟨o, ho, hc, _⟩ := hl; ⟨o, ho, hc⟩, wpAny_getItem_list hl (by omega) (by omega) (x := .ref d) (by rw [hid]; exact e1) hQ⟩))
/-- word in rows[i] -/
theorem row_in {lname iname xname : Str} {CL a : Addr} {i n lo : Nat} {ks : Nat → List MK} {k : MK} {q4 q5 q6 q7 q8 : Pos} {Q : Bool → Shared → Prop}
    (hu : A.units + 64 < cLine) (hlo : 1 ≤ lo)
    (hx : ∀ (Q : Value → Shared → Prop), Q (.ref a) s → wpAny (model prog w) A (eval (.Name xname q4) env) Q E s)
    (hL : ∀ (Q : Value → Shared → Prop), Q (.ref CL) s → wpAny (model prog w) A (eval (.Name lname q6) env) Q E s)
    (hi : ∀ (Q : Value → Shared → Prop), (∀ t, Q (.int i t) s) → wpAny (model prog w) A (eval (.Name iname q7) env) Q E s)
    (R : RowsAt prog w lo s.heap CL n ks) (hin : i < n) (hn2 : n < 2 ^ 40) (hk : IsTupleKey (mixKind prog w) s.heap k a)
    (hQ : ∀ s', Kp s s' → Q (isIn (ks i) k) s') :
    wpAny (model prog w) A (isTrue (.Compare (.Name xname q4) [.In] [.Subscript (.Name lname q6) (.Name iname q7) q5] q8) env (eval (.Compare (.Name xname q4) [.In] [.Subscript (.Name lname q6) (.Name iname q7) q5] q8) env)) Q E s := by
  obtain ⟨vs, hl, hvs, hr⟩ := id R
  obtain ⟨d, xs, e1, e2, e3, e4, e5⟩ := hr i hin
  have hd1s : (d == sysModules) = false := beq_eq_false_iff_ne.mpr (Nat.ne_of_gt (show @LT.lt Nat _ 1 d by omega))
  refine wpAny_isTrue_Compare1 (hx _ (row_sub hL hi hl hn2 hin hvs e1 ?_))
  refine wpAny_in_heap (knd := mk prog w) ?_ hk hd1s e2 ?_
  · show A.in1.units < cLine
    show A.units + 1 < cLine
    omega
  · rw [atKey_isIn, e3]
    refine wpAny_truthy_bool (hQ _ ?_)
    exact Kp.of fun _ _ e => e
/-- for x in rows[i]: its iterator -/
theorem row_iter {lname iname : Str} {CL d : Addr} {i n lo ep : Nat} {vs : Array Value} {xs : List (MK × Addr × Value)} {q5 q6 q7 : Pos} (hlo : 1 ≤ lo) (hld : @LT.lt Nat _ lo d)
    (hL : ∀ (Q : Value → Shared → Prop) E, Q (.ref CL) s → wpAny (model prog w) A (eval (.Name lname q6) env) Q E s)
    (hi : ∀ (Q : Value → Shared → Prop) E, (∀ t, Q (.int i t) s) → wpAny (model prog w) A (eval (.Name iname q7) env) Q E s)
    (hl : s.heap.IsList CL vs) (hn2 : n < 2 ^ 40) (hin : i < n) (hvs : vs.size = n) (e1 : vs[i]? = some (.ref d)) (hr : Raw s.heap d (xs.map (entryOfKey (mk prog w))).toArray ep) :
    wpAny (model prog w) A (eval (.Subscript (.Name lname q6) (.Name iname q7) q5) env) (fun xv s₁ => wpAny (model prog w) A (pyIter xv) (fun it s₂ => ∃ I, it = .ref I ∧ s.heap.get? I = none ∧ (∃ o, s₂.heap.get? I = some o) ∧
      (s₂.heap.IsKeyIter I d 0 (xs.map (entryOfKey (mk prog w))).toArray.size ep ∧ Raw s₂.heap d (xs.map (entryOfKey (mk prog w))).toArray ep) ∧ Kp s s₂) E s₁) E s := by
  have hd1s : (d == sysModules) = false := beq_eq_false_iff_ne.mpr (Nat.ne_of_gt (show @LT.lt Nat _ 1 d by omega))
  refine row_sub (fun Q => hL Q _) (fun Q => hi Q _) hl hn2 hin hvs e1 (pyIter_raw hd1s hr ?_)
  refine ⟨_, rfl, ?_, ⟨_, Heap.get?_push_size _ rfl⟩, ⟨⟨_, Heap.get?_push_size _ rfl, rfl, rfl⟩, hr.at fun o e => Heap.get?_push_of_some _ e⟩, Kp.of fun b o e => Heap.get?_push_of_some _ e⟩
  cases q : s.heap.get? s.heap.objs.size with
  | none => rfl
  | some o => exact absurd (Heap.lt_size q) (Nat.lt_irrefl _)
end
end Gy
end

section
open PySem PySem.W PySem.Calls PyProof.Rows
set_option maxRecDepth 100000
namespace Gy
/-- the body of the inner loop of lines 110, 111 -/
def body111 : List Stmt := match st 8 with | .For _ _ [.For _ _ b _ _] _ _ => b | _ => []
def asg112 : Stmt := match body111 with | a :: _ => a | _ => .Pass ⟨0, 0, 0, 0⟩
def lc113 : Expr := match body111 with | [_, .If (.BoolOp _ [_, .Compare c _ _ _] _) _ _ _] => argOf c | _ => .Constant .none 0 ⟨0, 0, 0, 0⟩
section
variable {prog : Program} {w : World} {A : Around} {E : Value → Shared → Prop} {s : Shared} {G : Heap} {L fa : Addr} {cd : Value} {m mg mb : Str → Option Value} {cm : Nat → Option Value} {ac cc : Addr} {p : Int}
set_option maxHeartbeats 1000000 in
theorem comp113 {CL : Addr} {a b n : Nat} {ks : Nat → List MK} {u t : Tok} {Q : Value → Shared → Prop} (hu : A.units + 64 < cLine) (hh : A.handled = none)
    (x : LS G L m cm s.heap) (h3 : cm 3 = some (.int b t)) (hc : cm 5 = some (.ref CL)) (hone : m "one" = some (.int a u))
    (R : RowsAt prog w (L + 6) s.heap CL n ks) (ha : a < n) (hb : b < n) (hn2 : n < 2 ^ 40) (hsz : (ks a).length ≤ 1000)
    (hQ : ∀ h' tk D vs k, h'.get? D = some (lst vs k) → vs.size = both (ks a) (ks b) → (∀ b o, s.heap.get? b = some o → h'.get? b = some o) → Q (.ref D) { s with heap := h', toks := tk }) :
    wpAny (model prog w) A (eval lc113 (lawE L fa cd)) Q E s := by
  conv => arg 3; arg 1; whnf
  obtain ⟨vs, hl, hvs, hr⟩ := id R
  obtain ⟨d, xs, e1, e2, e3, e4, e5⟩ := hr a ha
  obtain ⟨ep, rd⟩ := raw_of e2
  have hlen : (xs.map (entryOfKey (mk prog w))).toArray.size = (ks a).length := by rw [List.size_toArray, List.length_map, ← e3, List.length_map]
  have hlo : 1 ≤ L + 6 := Nat.le_trans (show 1 ≤ 6 by decide) (Nat.le_add_left 6 L)
  refine comp_one (n := (xs.map (entryOfKey (mk prog w))).toArray.size) (cl := [(Str.ofString "other", cA L 3), (Str.ofString "calls", cA L 5)]) (fp := fun I b => b = I ∨ b = d) (St := fun I i h => h.IsKeyIter I d i (xs.map (entryOfKey (mk prog w))).toArray.size ep ∧ Raw h d (xs.map (entryOfKey (mk prog w))).toArray ep) (P := fun i v => ∃ e, (xs.map (entryOfKey (mk prog w))).toArray[i]? = some e ∧ v = e.key)
    (fun I hI => itr_keys hh I d (fun q => by rw [← q] at hI; obtain ⟨o, ho, _⟩ := rd; rw [ho] at hI; cases hI) _ ep _) (fun I b q => q.imp id fun q => by rw [q]; exact let ⟨o, ho, _⟩ := rd; ⟨o, ho⟩) (fun I i h q => let ⟨o, e, _⟩ := q.1; ⟨o, e⟩) (fun I s₁ Q E st hq => wpAny_pyIter_keyiter st.1 hq)
    (row_iter (i := a) hlo e5 (fun Q E hq => nmC (c := cA L 5) (x.c (by decide) (by decide) hc) hq) (fun Q E hq => nmL x.ns hone (hq _)) hl hn2 ha hvs e1 rd) rfl (by decide) rfl (by decide) (fun _ => rfl) (fun _ => rfl)
    (fun _ i vs _ => vs.size = both ((ks a).take i) (ks b) ∧ i ≤ (ks a).length) (fun _ _ _ => ⟨rfl, Nat.zero_le _⟩) (fun _ _ _ _ _ _ q _ => q) (fun _ i vs _ q => by
      rw [q.1]
      refine Nat.le_trans (Nat.le_trans List.countP_le_length (List.length_take_le ..)) (Nat.le_trans (Nat.le_trans q.2 hsz) (by decide))) ?_ ?_
  · rintro X i v s₁ C vs' m₁ E' hi ⟨e, hee, rfl⟩ hX ⟨j1, j2⟩ hk hc₁
    obtain ⟨k, ka, vv, hxi, ek, ev⟩ := entry_get hee
    rw [ek] at hc₁
    have x₁ := x.keeps hk.all
    have hki : (ks a)[i]? = some k := by rw [← e3, List.getElem?_map, hxi]; rfl
    have hkey : IsTupleKey (mixKind prog w) s₁.heap k ka := tk_at ((keys_of e2).1 _ (List.mem_of_getElem? hxi)) fun o e => hk.get e
    refine one_test (row_in (i := b) hu hlo (fun Q hq => nmL hc₁ (if_pos rfl) hq) (fun Q hq => nmC (c := cA L 5) (x₁.c (by decide) (by decide) hc) hq) (fun Q hq => nmC (c := cA L 3) (x₁.c (by decide) (by decide) h3) (hq _)) (R.stab (Stab.all hk.all)) hb hn2 hkey fun s₂ k₂ => ?_)
    have b2 : i + 1 ≤ (ks a).length := by rw [← hlen]; exact hi
    cases hin : isIn (ks b) k with
    | true =>
      rw [if_pos rfl]
      refine nmL (hc₁.keeps k₂.all) (if_pos rfl) ⟨k₂, ?_, b2⟩
      rw [Array.size_push, j1, both_succ hki, hin]; rfl
    | false =>
      rw [if_neg (by decide)]
      refine ⟨k₂, ?_, b2⟩
      rw [j1, both_succ hki, hin]; rfl
  · rintro X h' tk D vs' k hX ⟨j1, _⟩ hDn hDl hD kk
    rw [hlen, List.take_length] at j1
    exact hQ h' tk D vs' k hD j1 kk
set_option maxHeartbeats 1000000 in
theorem comp112 {CL : Addr} {a b n : Nat} {ks : Nat → List MK} {u t : Tok} {Q : Flow → Shared → Prop} (hu : A.units + 64 < cLine) (hh : A.handled = none)
    (x : LS G L m cm s.heap) (h3 : cm 3 = some (.int b t)) (hc : cm 6 = some (.ref CL)) (hone : m "one" = some (.int a u))
    (R : RowsAt prog w (L + 6) s.heap CL n ks) (ha : a < n) (hb : b < n) (hn2 : n < 2 ^ 40) (hsz : (ks a).length ≤ 1000)
    (hQ : ∀ h' tk D vs k, h'.get? D = some (lst vs k) → vs.size = both (ks a) (ks b) → (∀ b o, s.heap.get? b = some o → @LT.lt Nat _ b D) → h'.Ns L (fun z => if z = Str.ofString "both" then some (.ref D) else m z) → (∀ b o, b ≠ L → s.heap.get? b = some o → h'.get? b = some o) → Q .next { s with heap := h', toks := tk }) :
    wpAny (model prog w) A (exec asg112 (lawE L fa cd)) Q E s := by
  conv => arg 3; arg 1; whnf
  obtain ⟨vs, hl, hvs, hr⟩ := id R
  obtain ⟨d, xs, e1, e2, e3, e4, e5⟩ := hr a ha
  obtain ⟨ep, rd⟩ := raw_of e2
  have hlen : (xs.map (entryOfKey (mk prog w))).toArray.size = (ks a).length := by rw [List.size_toArray, List.length_map, ← e3, List.length_map]
  have hlo : 1 ≤ L + 6 := Nat.le_trans (show 1 ≤ 6 by decide) (Nat.le_add_left 6 L)
  refine comp_oneU (n := (xs.map (entryOfKey (mk prog w))).toArray.size) (cl := [(Str.ofString "other", cA L 3), (Str.ofString "lost", cA L 6)]) (fp := fun I b => b = I ∨ b = d) (St := fun I i h => h.IsKeyIter I d i (xs.map (entryOfKey (mk prog w))).toArray.size ep ∧ Raw h d (xs.map (entryOfKey (mk prog w))).toArray ep) (P := fun i v => ∃ e, (xs.map (entryOfKey (mk prog w))).toArray[i]? = some e ∧ v = e.key)
    (fun I hI => itr_keys hh I d (fun q => by rw [← q] at hI; obtain ⟨o, ho, _⟩ := rd; rw [ho] at hI; cases hI) _ ep _) (fun I b q => q.imp id fun q => by rw [q]; exact let ⟨o, ho, _⟩ := rd; ⟨o, ho⟩) (fun I i h q => let ⟨o, e, _⟩ := q.1; ⟨o, e⟩) (fun I s₁ Q E st hq => wpAny_pyIter_keyiter st.1 hq)
    (row_iter (i := a) hlo e5 (fun Q E hq => nmC (c := cA L 6) (x.c (by decide) (by decide) hc) hq) (fun Q E hq => nmL x.ns hone (hq _)) hl hn2 ha hvs e1 rd) rfl (by decide) rfl (by decide) (fun _ => rfl) (fun _ => rfl)
    (fun _ i vs _ => vs.size = both ((ks a).take i) (ks b) ∧ i ≤ (ks a).length) (fun _ _ _ => ⟨rfl, Nat.zero_le _⟩) (fun _ _ _ _ _ _ q _ => q) (fun _ i vs _ q => by
      rw [q.1]
      refine Nat.le_trans (Nat.le_trans List.countP_le_length (List.length_take_le ..)) (Nat.le_trans (Nat.le_trans q.2 hsz) (by decide))) ?_ x.ns rfl rfl rfl (fun _ _ _ _ _ _ q _ => q) ?_
  · rintro X i v s₁ C vs' m₁ E' hi ⟨e, hee, rfl⟩ hX ⟨j1, j2⟩ hk hc₁
    obtain ⟨k, ka, vv, hxi, ek, ev⟩ := entry_get hee
    rw [ek] at hc₁
    have x₁ := x.keeps hk.all
    have hki : (ks a)[i]? = some k := by rw [← e3, List.getElem?_map, hxi]; rfl
    have hkey : IsTupleKey (mixKind prog w) s₁.heap k ka := tk_at ((keys_of e2).1 _ (List.mem_of_getElem? hxi)) fun o e => hk.get e
    refine one_test (row_in (i := b) hu hlo (fun Q hq => nmL hc₁ (if_pos rfl) hq) (fun Q hq => nmC (c := cA L 6) (x₁.c (by decide) (by decide) hc) hq) (fun Q hq => nmC (c := cA L 3) (x₁.c (by decide) (by decide) h3) (hq _)) (R.stab (Stab.all hk.all)) hb hn2 hkey fun s₂ k₂ => ?_)
    have b2 : i + 1 ≤ (ks a).length := by rw [← hlen]; exact hi
    cases hin : isIn (ks b) k with
    | true =>
      rw [if_pos rfl]
      refine nmL (hc₁.keeps k₂.all) (if_pos rfl) ⟨k₂, ?_, b2⟩
      rw [Array.size_push, j1, both_succ hki, hin]; rfl
    | false =>
      rw [if_neg (by decide)]
      refine ⟨k₂, ?_, b2⟩
      rw [j1, both_succ hki, hin]; rfl
  · rintro X h' tk D vs' k hX ⟨j1, _⟩ hDn hDl hD hn' kk
    rw [hlen, List.take_length] at j1
    exact hQ h' tk D vs' k hD j1 hDl hn' kk
end
end Gy
end

section
open PySem PySem.W PySem.Calls PyProof.Rows
set_option maxRecDepth 100000
namespace Gy
section
variable {prog : Program} {w : World} {A : Around} {E : Value → Shared → Prop} {s : Shared} {G : Heap} {L fa : Addr} {cd : Value} {m mg mb : Str → Option Value} {cm : Nat → Option Value} {ac cc : Addr} {p : Int}
theorem line109 {t : Tok} {Q : Flow → Shared → Prop} (hGL : @LE.le Nat _ G.objs.size L) (hp : p = 7 ∨ p = 11) (x : LS G L m cm s.heap) (hm : cm 1 = some (.int p t))
    (hQ : ∀ h' tk t', LS G L (fun z => if z = Str.ofString "fourth" then some (.int ((p - 3).fdiv 4) t') else m z) cm h' → Stab (L + 6) s.heap h' → (∀ b o, b ≠ L → s.heap.get? b = some o → h'.get? b = some o) → Q .next { s with heap := h', toks := tk }) :
    wpAny (model prog w) A (exec (st 7) (lawE L fa cd)) Q E s := by
  conv => arg 3; arg 1; whnf
  refine wpAny_Assign_Name (wpAny_BinOp (wpAny_BinOp (nmC (c := cA L 1) (x.c (by decide) (by decide) hm) (wpAny_Constant_int (sub_int (wpAny_Constant_int (floordiv_int (by decide) ?_ (.inl (PyProof.noPylong_small (by decide))))))))))
  exact stF hGL x fun h' x' S K => hQ h' _ _ x' S K

set_option maxHeartbeats 1000000 in
theorem turn111 {C1 C2 : Addr} {a b : Nat} {u t t₄ : Tok} {Q : Flow → Shared → Prop} (hu : A.units + 64 < cLine) (hh : A.handled = none) (hGL : @LE.le Nat _ G.objs.size L) (TP : Tops G mg mb ac cc) (hp : p = 7 ∨ p = 11)
    (x : LS G L m cm s.heap) (h3 : cm 3 = some (.int b t)) (h5 : cm 5 = some (.ref C1)) (h6 : cm 6 = some (.ref C2)) (hone : m "one" = some (.int a u)) (h4 : m "fourth" = some (.int ((p - 3).fdiv 4) t₄)) (ha : a < p.toNat) (hb : b < a)
    (R1 : RowsAt prog w (L + 6) s.heap C1 p.toNat (cKs p (p.toNat * p.toNat))) (R2 : RowsAt prog w (L + 6) s.heap C2 p.toNat (lKs p (p.toNat * p.toNat)))
    (hQ : ∀ s' D, LS G L (fun z => if z = Str.ofString "both" then some (.ref D) else m z) cm s'.heap → Ch (own L) s s' → Q .next s') :
    wpAny (model prog w) A (execs body111 (lawE L fa cd)) Q E s := by
  have hp2 : 2 ≤ p ∧ p ≤ 11 := by rcases hp with rfl | rfl <;> decide
  have hN : p.toNat * p.toNat ≤ 1000 := Nat.le_trans (Nat.mul_le_mul (show p.toNat ≤ 11 by omega) (show p.toNat ≤ 11 by omega)) (by decide)
  have hf := both_facts p hp a ha b hb
  have hL6 : ∃ o, s.heap.get? (cA L 6) = some o := let ⟨o, e, _⟩ := x.cell 6 (by decide) (by decide); ⟨o, e⟩
  have e2 : body111 = [asg112, body111[1]'(by decide)] := rfl
  rw [e2]
  refine wpAny_execs_cons (comp112 hu hh x h3 h6 hone R2 ha (by omega) (by omega) (Nat.le_trans (lKs_len _ _) hN) fun h' tk D vs k hD hsz hDl hn' kk => ?_)
  have x₁ : LS G L (fun z => if z = Str.ofString "both" then some (.ref D) else m z) cm h' := ⟨hn', fun j j1 j2 => let ⟨o, e, r⟩ := x.cell j j1 j2; ⟨o, kk _ _ (cA_L j1) e, r⟩, fun b o e => kk b o (by rintro rfl; rw [gL hGL] at e; cases e) (x.keep b o e)⟩
  have c₁ : Ch (own L) s { s with heap := h', toks := tk } := ⟨h', tk, rfl, fun b o hb e => kk b o (fun q => hb (by rw [q]; exact ⟨Nat.le_refl _, Nat.le_add_right ..⟩)) e⟩
  have S₁ : Stab (L + 6) s.heap h' := Stab.ofCh (W := fun _ => False) x (c₁.mono fun _ => .inl) fun _ _ q => q.elim
  have B₁ := TP.base.keeps x₁.keep
  show wpAny _ _ (execs [_] _) _ _ _
  refine wpAny_execs_cons ?_
  conv => arg 3; arg 1; whnf
  have l1 : vs.size ≤ 1000 := by rw [hsz]; exact Nat.le_trans List.countP_le_length (Nat.le_trans (lKs_len _ _) hN)
  refine wpAny_If (wpAny_isTrue_BoolOp (wpAny_allTrue_Or_cons (wpAny_isTrue_Compare1 (cB1 (id := "len") (fun Q hq => nmB B₁ TP.nlen TP.blen hq) (nmL x₁.ns (if_pos rfl) (call_len_list (items := vs) ⟨_, hD, rfl, k, rfl⟩ (by omega) ?_))))))
  refine nmL (s := { s with heap := h', toks := _ }) x₁.ns ((if_neg (by decide)).trans h4) (ne_int (wpAny_truthy_bool ?_))
  rw [show ((vs.size : Int) != (p - 3).fdiv 4) = false from by rw [hsz, hf.2, bne_self_eq_false]]
  show wpAny _ _ (allTrue .Or _ _) _ _ _
  refine wpAny_allTrue_Or_cons (wpAny_isTrue_Compare1 (cB1 (id := "len") (fun Q hq => nmB B₁ TP.nlen TP.blen hq) ?_))
  refine comp113 (s := { s with heap := h', toks := _ }) hu hh x₁ h3 h5 ((if_neg (by decide)).trans hone) (R1.stab S₁) ha (by omega) (by omega) (Nat.le_trans (cKs_len _ _) hN) fun h₂ tk₂ D₂ vs₂ k₂ hD₂ hsz₂ kk₂ => ?_
  dsimp only at kk₂
  have x₂ := x₁.keeps kk₂
  have l2 : vs₂.size ≤ 1000 := by rw [hsz₂]; exact Nat.le_trans List.countP_le_length (Nat.le_trans (cKs_len _ _) hN)
  refine call_len_list (items := vs₂) ⟨_, hD₂, rfl, k₂, rfl⟩ (by omega) ?_
  refine nmL (s := { s with heap := h₂, toks := _ }) x₂.ns ((if_neg (by decide)).trans h4) (ne_int (wpAny_truthy_bool ?_))
  rw [show ((vs₂.size : Int) != (p - 3).fdiv 4) = false from by rw [hsz₂, hf.1, bne_self_eq_false]]
  show wpAny _ _ (allTrue .Or [] _) _ _ _
  refine wpAny_allTrue_Or_nil ?_
  show wpAny _ _ (execs [] _) _ _ _
  exact wpAny_execs_nil (wpAny_execs_nil (hQ _ D x₂ (c₁.trans ⟨h₂, _, rfl, fun b o _ e => kk₂ b o e⟩)))
end
end Gy
end

section
open PySem PySem.W PySem.Calls PyProof.Rows
set_option maxRecDepth 100000
namespace Gy
section
variable {prog : Program} {w : World} {A : Around} {E : Value → Shared → Prop} {s : Shared} {G : Heap} {L fa : Addr} {cd : Value} {m mg mb : Str → Option Value} {cm : Nat → Option Value} {ac cc : Addr} {p : Int}
theorem cm3_id {v3 : Option Value} (h : v3 = cm 3) : (fun j => if j = 3 then v3 else cm j) = cm := by subst h; funext j; split <;> simp_all
theorem cm3_cm3 {v v3 : Option Value} : (fun j => if j = 3 then v else (fun j => if j = 3 then v3 else cm j) j) = fun j => if j = 3 then v else cm j := by funext j; by_cases h : j = 3 <;> simp [h]
theorem LS.keep2 {h h' : Heap} (x : LS G L m cm h) (k : ∀ b o, (own L b ∨ ∃ o, G.get? b = some o) → h.get? b = some o → h'.get? b = some o) : LS G L m cm h' := x.mono k
set_option maxHeartbeats 1000000 in
theorem line110 {C1 C2 : Addr} {t t₄ : Tok} {Q : Flow → Shared → Prop} (hu : A.units + 64 < cLine) (hh : A.handled = none) (hGL : @LE.le Nat _ G.objs.size L) (TP : Tops G mg mb ac cc) (hp : p = 7 ∨ p = 11)
    (x : LS G L m cm s.heap) (hm : cm 1 = some (.int p t)) (h5 : cm 5 = some (.ref C1)) (h6 : cm 6 = some (.ref C2)) (h4 : m "fourth" = some (.int ((p - 3).fdiv 4) t₄))
    (R1 : RowsAt prog w (L + 6) s.heap C1 p.toNat (cKs p (p.toNat * p.toNat))) (R2 : RowsAt prog w (L + 6) s.heap C2 p.toNat (lKs p (p.toNat * p.toNat)))
    (hQ : ∀ s' m' v3, LS G L m' (fun j => if j = 3 then v3 else cm j) s'.heap → (∀ z, z ≠ Str.ofString "one" → z ≠ Str.ofString "both" → m' z = m z) → Ch (own L) s s' → Q .next s') :
    wpAny (model prog w) A (exec (st 8) (lawE L fa cd)) Q E s := by
  conv => arg 3; arg 1; whnf
  have hp2 : 2 ≤ p ∧ p ≤ 11 := by rcases hp with rfl | rfl <;> decide
  refine for_range (b := p) hh TP x hGL (fun Q hq => nmC (c := cA L 1) (x.c (by decide) (by decide) hm) (hq _)) (by omega) (by omega)
    (fun i h => ∃ m' v3, LS G L m' (fun j => if j = 3 then v3 else cm j) h ∧ (∀ z, z ≠ Str.ofString "one" → z ≠ Str.ofString "both" → m' z = m z) ∧ RowsAt prog w (L + 6) h C1 p.toNat (cKs p (p.toNat * p.toNat)) ∧ RowsAt prog w (L + 6) h C2 p.toNat (lKs p (p.toNat * p.toNat)))
    (fun h k => ⟨m, cm 3, by rw [cm3_id rfl]; exact x.keeps k, fun _ _ _ => rfl, R1.stab (Stab.all k), R2.stab (Stab.all k)⟩)
    (fun i h h' ⟨m', v3, a1, a2, a3, a4⟩ S k => ⟨m', v3, a1.mono k, a2, a3.stab S, a4.stab S⟩) ?_ (fun s' ⟨m', v3, a1, a2, _, _⟩ c => hQ s' m' v3 a1 a2 c)
  rintro i ti s₁ E₁ hi ⟨m₁, v₃, x₁, hm₁, r1, r2⟩ hc₁
  refine wpAny_assign_Name (stF hGL x₁ fun h₂ x₂ S₂ k₂ => ?_)
  have c₂ : Ch (own L) s₁ { s₁ with heap := h₂, toks := s₁.toks + 1 } := ⟨h₂, _, rfl, fun b o hb e => k₂ b o (fun q => hb (by rw [q]; exact ⟨Nat.le_refl _, Nat.le_add_right ..⟩)) e⟩
  have r1' := r1.stab S₂
  have r2' := r2.stab S₂
  refine wpAny_execs_cons ?_
  refine for_range (s := { s₁ with heap := h₂, toks := s₁.toks + 1 }) (b := (i : Int)) hh TP x₂ hGL (fun Q hq => nmL x₂.ns (if_pos rfl) (hq _)) (by omega) (by omega)
    (fun j h => ∃ m' v3, LS G L m' (fun j => if j = 3 then v3 else cm j) h ∧ (∀ z, z ≠ Str.ofString "one" → z ≠ Str.ofString "both" → m' z = m z) ∧ (∃ u, m' (Str.ofString "one") = some (.int i u)) ∧ RowsAt prog w (L + 6) h C1 p.toNat (cKs p (p.toNat * p.toNat)) ∧ RowsAt prog w (L + 6) h C2 p.toNat (lKs p (p.toNat * p.toNat)))
    (fun h k => ⟨_, v₃, x₂.keeps k, fun z z1 z2 => (if_neg z1).trans (hm₁ z z1 z2), ⟨_, if_pos rfl⟩, r1'.stab (Stab.all k), r2'.stab (Stab.all k)⟩)
    (fun i h h' ⟨m', v3, a1, a2, a5, a3, a4⟩ S k => ⟨m', v3, a1.mono k, a2, a5, a3.stab S, a4.stab S⟩) ?_ ?_
  · rintro j tj s₃ E₃ hj ⟨m₃, v₃', x₃, hm₃, ⟨u₃, ho₃⟩, q1, q2⟩ hc₃
    rw [Int.toNat_natCast] at hj
    refine wpAny_assign_Name (stC hGL x₃ (k := 3) (by decide) (by decide) fun h₅ x₅ S₅ k₅ => ?_)
    rw [cm3_cm3] at x₅
    have c₅ : Ch (own L) s₃ { s₃ with heap := h₅ } := ⟨h₅, _, rfl, fun b o hb e => k₅ b o (fun q => hb (by rw [q]; exact cA_own (by decide))) e⟩
    refine turn111 (s := { s₃ with heap := h₅ }) (a := i) (b := j) hu hh hGL TP hp x₅ (if_pos rfl) ((if_neg (by decide)).trans h5) ((if_neg (by decide)).trans h6) ho₃ ((hm₃ _ (by decide) (by decide)).trans h4) hi hj (q1.stab S₅) (q2.stab S₅) fun s₆ D x₆ c₆ => ?_
    have S₆ : Stab (L + 6) h₅ s₆.heap := Stab.ofCh (s := { s₃ with heap := h₅ }) (W := fun _ => False) x₅ (c₆.mono fun _ => .inl) fun _ _ q => q.elim
    exact ⟨rfl, c₅.trans c₆, _, _, x₆, fun z z1 z2 => (if_neg z2).trans (hm₃ z z1 z2), ⟨u₃, (if_neg (by decide)).trans ho₃⟩, (q1.stab S₅).stab S₆, (q2.stab S₅).stab S₆⟩
  · rintro s₆ ⟨m', v3, a1, a2, _, a3, a4⟩ c₆
    exact wpAny_execs_nil ⟨rfl, c₂.trans c₆, m', v3, a1, a2, a3, a4⟩
end
end Gy
end

section
open PySem PySem.W PySem.Calls PyProof.Rows
set_option maxRecDepth 100000
namespace Gy
/-- the rings of three, counted clause by clause -/
def c3 (p : Int) (a b : Nat) : Nat → Nat | 0 => 0 | c + 1 => c3 p a b c + if (bt p b c && bt p c a) = true then 1 else 0
def c2 (p : Int) (a : Nat) : Nat → Nat | 0 => 0 | b + 1 => c2 p a b + if bt p a b = true then c3 p a b p.toNat else 0
def c1 (p : Int) : Nat → Nat | 0 => 0 | a + 1 => c1 p a + c2 p a p.toNat
theorem c3_le {p : Int} {a b : Nat} : ∀ n, c3 p a b n ≤ n
  | 0 => Nat.le_refl _
  | n + 1 => by have := c3_le (p := p) (a := a) (b := b) n; unfold c3; split <;> omega
theorem c2_le {p : Int} {a : Nat} : ∀ n, c2 p a n ≤ n * p.toNat
  | 0 => Nat.zero_le _
  | n + 1 => by
    have := c2_le (p := p) (a := a) n
    have h := c3_le (p := p) (a := a) (b := n) p.toNat
    unfold c2
    rw [Nat.add_mul, Nat.one_mul]
    split <;> omega
theorem c1_le {p : Int} : ∀ n, c1 p n ≤ n * (p.toNat * p.toNat)
  | 0 => Nat.zero_le _
  | n + 1 => by
    have := c1_le (p := p) n
    have h := c2_le (p := p) (a := n) p.toNat
    unfold c1
    rw [Nat.add_mul, Nat.one_mul]
    omega
theorem ring_size {p : Int} {i j l : Nat} (h : p.toNat ≤ 11) (hi : i < p.toNat) (hj : j < p.toNat) (hl : l < p.toNat) : c1 p i + c2 p i j + c3 p i j l ≤ sizeLine := by
  have a1 : i * (p.toNat * p.toNat) ≤ 11 * (11 * 11) := Nat.mul_le_mul (Nat.le_trans (Nat.le_of_lt hi) h) (Nat.mul_le_mul h h)
  have a2 : j * p.toNat ≤ 11 * 11 := Nat.mul_le_mul (Nat.le_trans (Nat.le_of_lt hj) h) h
  exact Nat.le_trans (Nat.add_le_add (Nat.add_le_add (Nat.le_trans (c1_le i) a1) (Nat.le_trans (c2_le j) a2)) (Nat.le_trans (c3_le l) (Nat.le_trans (Nat.le_of_lt hl) h))) (by decide)
theorem ring_facts (p : Int) (hp : p = 7 ∨ p = 11) : (((c1 p p.toNat : Nat) : Int) != (p * (p - 1) * (p + 1)).fdiv 8) = false := by
  rcases hp with rfl | rfl <;> decide +kernel
section
variable {prog : Program} {w : World} {A : Around} {E : Value → Shared → Prop} {s : Shared} {G : Heap} {L fa : Addr} {cd : Value} {m mg mb : Str → Option Value} {cm : Nat → Option Value} {ac cc : Addr} {p : Int}
def lc115 : Expr := argOf (valOf (st 9))
set_option maxHeartbeats 1000000 in
theorem comp115 {t : Tok} {B : Addr} {Q : Value → Shared → Prop} (hu : A.units + 64 < cLine) (hh : A.handled = none) (TP : Tops G mg mb ac cc) (hp : p = 7 ∨ p = 11)
    (x : LS G L m cm s.heap) (hm : cm 1 = some (.int p t)) (h4 : cm 4 = some (.ref B)) (XB : BeatAt prog w p s.heap B)
    (hQ : ∀ h' tk D vs k, (∀ b o, s.heap.get? b = some o → h'.get? b = some o) → h'.get? D = some (lst vs k) → vs.size = c1 p p.toNat → Q (.ref D) { s with heap := h', toks := tk }) :
    wpAny (model prog w) A (eval lc115 (lawE L fa cd)) Q E s := by
  conv => arg 3; arg 1; whnf
  have hp2 : 2 ≤ p ∧ p ≤ 11 := by rcases hp with rfl | rfl <;> decide
  have B₀ := TP.base.keeps x.keep
  refine comp_enter (cl := [(Str.ofString "many", cA L 1), (Str.ofString "beat", cA L 4)]) (wpAny_mono (range_hit1 (b := p) B₀ TP.nrange TP.brange rfl rfl rfl rfl rfl (fun Q hq => nmC (c := cA L 1) (x.c (by decide) (by decide) hm) (hq _)) (by omega) (by omega)) (fun xv s₁ h₁ => wpAny_mono h₁ (fun it s₂ h₂ => ?_) fun _ _ e => e) fun _ _ e => e) rfl (by decide) rfl (by decide) (fun _ => rfl)
  obtain ⟨I, rfl, hIn, ⟨oI, hoI⟩, hst, hk⟩ := h₂
  intro D C h₃ hD hCD hd hc k₃
  obtain ⟨h₂, tk₂, rfl, _⟩ := id hk
  have k02 : ∀ b o, s.heap.get? b = some o → h₂.get? b = some o := hk.all
  dsimp only at hoI hst hD k₃ ⊢
  have k03 : ∀ b o, s.heap.get? b = some o → h₃.get? b = some o := fun b o e => k₃ b o (k02 b o e)
  have lt2 : ∀ b o, s.heap.get? b = some o → @LT.lt Nat _ b h₂.objs.size := fun b o e => Heap.lt_size (k02 b o e)
  have lI : @LT.lt Nat _ I h₂.objs.size := Heap.lt_size hoI
  have nge : ∀ b, @LE.le Nat _ h₂.objs.size b → s.heap.get? b = none := fun b hb => by
    cases q : s.heap.get? b with
    | none => rfl
    | some o => exact absurd (lt2 b o q) (Nat.not_lt_of_le hb)
  have hC : @LE.le Nat _ h₂.objs.size C := Nat.le_trans hD (Nat.le_of_lt hCD)
  have p0 : 0 ≤ p := Int.le_trans (by decide) hp2.1
  have p40 : p < 2 ^ 40 := Int.lt_of_le_of_lt hp2.2 (by decide)
  have XN : ∀ b, (b = I ∨ b = C ∨ b = D) → s.heap.get? b = none := by
    rintro b (rfl | rfl | rfl)
    · exact hIn
    · exact nge _ hC
    · exact nge _ hD
  have neX : ∀ b o, s.heap.get? b = some o → ¬ (b = I ∨ b = C ∨ b = D) := fun b o e q => by rw [XN b q] at e; cases e
  refine range_start (g := ⟨_, _, _, 0⟩) rfl rfl (k₃ _ _ hst) ?_
  refine comp_outer (d := 0) rfl rfl (fun _ => rfl) (itr_range hh I 0 p.toNat _ _) rfl rfl rfl (fun b => b = C ∨ b = D) (.inl rfl) (.inr rfl) (Nat.ne_of_gt hCD) ?_ (k₃ _ _ hst)
    (fun i vs _ h => vs.size = c1 p i) hd hc rfl (fun _ _ _ _ _ _ q _ _ => q) (fun _ _ _ _ q _ => q) ?_ ?_
  · rintro b rfl hw
    rcases hw with hw | hw
    · exact absurd hw (Nat.ne_of_lt (Nat.lt_of_lt_of_le lI hC))
    · exact absurd hw (Nat.ne_of_lt (Nat.lt_of_lt_of_le lI hD))
  · rintro i v s₁ E' vs k m₁ hi ⟨t₁, rfl⟩ hSt j1 hmx hd₁ hc₁ hch
    have ei : (0 + (i : Int)) = i := Int.zero_add _
    rw [ei] at hmx
    have kp₁ : Kp s s₁ := by
      obtain ⟨h₄, tk₄, rfl, k₄⟩ := hch
      exact Kp.of fun b o e => k₄ b o (fun q => by
        rcases q with (q | q) | q
        · exact neX b o e (.inr (.inl q))
        · exact neX b o e (.inr (.inr q))
        · exact neX b o e (.inl q)) (k03 b o e)
    have x₁ := x.keeps kp₁.all
    refine no_test ?_
    rw [if_pos rfl]
    refine cT1 (T := "range") (fun Q hq => nmB (TP.base.keeps x₁.keep) TP.nrange TP.brange hq) (nmC (c := cA L 1) (x₁.c (by decide) (by decide) hm) (rg1 p0 p40 fun I' h₄ tk₄ hI1 hI2 hit kk => ?_))
    refine range_start (g := ⟨_, _, _, 0⟩) rfl rfl hit ?_
    have I'n : ∀ b o, s₁.heap.get? b = some o → b ≠ I' := fun b o e => Nat.ne_of_lt (Nat.lt_of_lt_of_le (Heap.lt_size e) hI1)
    have hCI : C ≠ I' := let ⟨o, _, _, ho, _⟩ := hc₁; I'n _ o ho
    have hDI : D ≠ I' := I'n _ _ hd₁
    refine comp_outer (d := 1) (n := p.toNat) rfl rfl (fun _ => rfl) (itr_range hh I' 0 p.toNat _ _) rfl rfl rfl (fun b => b = C ∨ b = D) (.inl rfl) (.inr rfl) (Nat.ne_of_gt hCD) ?_ hit
      (fun j vs m h => m (Str.ofString "a") = some (.int i t₁) ∧ vs.size = c1 p i + c2 p i j) (kk _ _ hd₁) (hc₁.keeps kk)
      ⟨hmx, j1⟩ (fun _ _ m m' _ _ q hmm _ => ⟨(hmm (Str.ofString "a") (by decide)).symm.trans q.1, q.2⟩) (fun _ _ _ _ q _ => q) ?_ ?_
    · rintro b rfl hw
      rcases hw with hw | hw
      · exact hCI hw.symm
      · exact hDI hw.symm
    · rintro j v s₂ E₂ vs₂ k₂ m₂ hj ⟨t₂, rfl⟩ hSt₂ ⟨a1, a2⟩ hmo hd₂ hc₂ hch₂
      have ej : (0 + (j : Int)) = j := Int.zero_add _
      rw [ej] at hmo
      have k14 : ∀ b o, ¬ (b = C ∨ b = D) → s₁.heap.get? b = some o → s₂.heap.get? b = some o := fun b o hb e => hch₂.get (fun q => q.elim hb (I'n b o e)) (kk b o e)
      have ks₂ : ∀ b o, s.heap.get? b = some o → s₂.heap.get? b = some o := fun b o e => k14 b o (fun q => neX b o e (.inr q)) (kp₁.get e)
      have x₂ : LS G L m cm s₂.heap := x.keeps ks₂
      refine one_test (wpAny_isTrue_value (beat_get (B := B) (a := i) (b := j) hu (XB.keeps ks₂) hi hj (fun Q hq => nmC (c := cA L 4) (x₂.c (by decide) (by decide) h4) hq) (fun Q hq => nmL hc₂ a1 (hq _)) (fun Q hq => nmL hc₂ hmo (hq _)) fun s₃ k₃' => wpAny_truthy_bool ?_))
      cases hb : bt p i j with
      | false =>
        rw [if_neg (by decide)]
        refine ⟨k₃'.mono fun _ q => q.elim, k₂, m₂, k₃'.get hd₂, hc₂.keeps k₃'.all, a1, ?_⟩
        rw [a2]; show _ = _ + (_ + if bt p i j = true then _ else _); rw [hb]; rfl
      | true =>
        rw [if_pos rfl]
        have x₃ := x₂.keeps k₃'.all
        have hc₃ := hc₂.keeps k₃'.all
        refine cT1 (T := "range") (fun Q hq => nmB (TP.base.keeps x₃.keep) TP.nrange TP.brange hq) (nmC (c := cA L 1) (x₃.c (by decide) (by decide) hm) (rg1 p0 p40 fun I'' h₅ tk₅ hI1' hI2' hit' kk' => ?_))
        refine range_start (g := ⟨_, _, _, 0⟩) rfl rfl hit' ?_
        have I''n : ∀ b o, s₃.heap.get? b = some o → b ≠ I'' := fun b o e => Nat.ne_of_lt (Nat.lt_of_lt_of_le (Heap.lt_size e) hI1')
        have hCI' : C ≠ I'' := let ⟨o, _, _, ho, _⟩ := hc₃; I''n _ o ho
        have hDI' : D ≠ I'' := I''n _ _ (k₃'.get hd₂)
        refine comp_leafM (d := 2) (n := p.toNat) rfl rfl (itr_range hh I'' 0 p.toNat _ _) rfl rfl rfl (fun b => b = C ∨ b = D) (.inl rfl) (.inr rfl) (Nat.ne_of_gt hCD) ?_ hit'
          (fun l vs m h => m (Str.ofString "a") = some (.int i t₁) ∧ m (Str.ofString "b") = some (.int j t₂) ∧ vs.size = c1 p i + c2 p i j + c3 p i j l) (kk' _ _ (k₃'.get hd₂)) (hc₃.keeps kk')
          ⟨a1, hmo, a2⟩ (fun _ _ m m' _ _ q hmm _ => ⟨(hmm (Str.ofString "a") (by decide)).symm.trans q.1, (hmm (Str.ofString "b") (by decide)).symm.trans q.2.1, q.2.2⟩) (fun _ _ _ _ q _ => q) ?_ ?_
        · rintro b rfl hw
          rcases hw with hw | hw
          · exact hCI' hw.symm
          · exact hDI' hw.symm
        · rintro l v s₄ E₄ vs₄ k₄ m₄ hl ⟨t₄, rfl⟩ hSt₄ ⟨b1, b2, b3⟩ hml hd₄ hc₄ hch₄
          have el : (0 + (l : Int)) = l := Int.zero_add _
          rw [el] at hml
          have ks₄ : ∀ b o, s.heap.get? b = some o → s₄.heap.get? b = some o := fun b o e => hch₄.get (fun q => q.elim (fun q => neX b o e (.inr q)) (I''n b o (k₃'.get (ks₂ b o e)))) (kk' b o (k₃'.get (ks₂ b o e)))
          have x₄ : LS G L m cm s₄.heap := x.keeps ks₄
          refine one_test (wpAny_isTrue_BoolOp (wpAny_allTrue_And_cons (wpAny_isTrue_value (beat_get (B := B) (a := j) (b := l) hu (XB.keeps ks₄) hj hl (fun Q hq => nmC (c := cA L 4) (x₄.c (by decide) (by decide) h4) hq) (fun Q hq => nmL hc₄ b2 (hq _)) (fun Q hq => nmL hc₄ hml (hq _)) fun s₅ k₅ => wpAny_truthy_bool ?_))))
          cases hb1 : bt p j l with
          | false =>
            show (if false = true then _ else _)
            rw [if_neg (by decide)]
            refine ⟨k₅.mono fun _ q => q.elim, ⟨k₅.get hd₄, hc₄.keeps k₅.all⟩, b1, b2, ?_⟩
            rw [b3]; show _ = _ + (_ + if (bt p j l && _) = true then _ else _); rw [hb1]; rfl
          | true =>
            show wpAny _ _ (allTrue _ _ _) _ _ _
            have x₅ := x₄.keeps k₅.all
            have hc₅ := hc₄.keeps k₅.all
            refine wpAny_allTrue_And_cons (wpAny_isTrue_value (beat_get (B := B) (a := l) (b := i) hu ((XB.keeps ks₄).keeps k₅.all) hl hi (fun Q hq => nmC (c := cA L 4) (x₅.c (by decide) (by decide) h4) hq) (fun Q hq => nmL hc₅ hml (hq _)) (fun Q hq => nmL hc₅ b1 (hq _)) fun s₆ k₆ => wpAny_truthy_bool ?_))
            have k46 : Kp s₄ s₆ := k₅.trans k₆
            cases hb2 : bt p l i with
            | false =>
              show (if false = true then _ else _)
              rw [if_neg (by decide)]
              refine ⟨k46.mono fun _ q => q.elim, ⟨k46.get hd₄, hc₄.keeps k46.all⟩, b1, b2, ?_⟩
              rw [b3]; show _ = _ + (_ + if (bt p j l && bt p l i) = true then _ else _); rw [hb1, hb2]; rfl
            | true =>
              show wpAny _ _ (allTrue _ [] _) _ _ _
              refine wpAny_allTrue_And_nil ?_
              rw [if_pos rfl]
              refine wpAny_Constant_int ?_
              refine ⟨(k46.trans (Kp.of fun _ _ e => e)).mono fun _ q => q.elim, ⟨k46.get hd₄, hc₄.keeps k46.all⟩, ⟨b1, b2, ?_⟩, ?_⟩
              · rw [Array.size_push, b3]; show _ = _ + (_ + if (bt p j l && bt p l i) = true then _ else _); rw [hb1, hb2]; rfl
              · rw [b3]
                exact ring_size (Int.toNat_le.mpr hp2.2) hi hj hl
        · rintro s' vs' k' m' ⟨b1, b2, b3⟩ hd' hc' hch'
          obtain ⟨h₆, tk₆, rfl, k₆⟩ := hch'
          have c36 : Ch (fun b => b = C ∨ b = D) s₃ { s₃ with heap := h₆, toks := tk₆ } := ⟨h₆, tk₆, rfl, fun b o hb e => k₆ b o (fun q => q.elim hb (I''n b o e)) (kk' b o e)⟩
          refine ⟨rfl, (k₃'.mono fun _ q => q.elim).trans c36, vs', k', m', hd', hc', b1, ?_⟩
          rw [b3, Nat.add_assoc]; show _ = _ + (_ + if bt p i j = true then _ else _); rw [hb]; rfl
    · rintro s' vs' k' m' ⟨a1, a2⟩ hd' hc' hch'
      obtain ⟨h₅, tk₅, rfl, k₅⟩ := hch'
      exact ⟨rfl, ⟨h₅, tk₅, rfl, fun b o hb e => k₅ b o (fun q => q.elim hb (I'n b o e)) (kk b o e)⟩, vs', k', m', hd', hc', a2⟩
  · rintro s' vs k m' j1 hd' hc' hch
    refine ⟨_, rfl, m', hc', fun h' hs' => ?_⟩
    obtain ⟨h₄, tk₄, rfl, k₄⟩ := hch
    replace hs' : Heap.SameBut C h₄ h' := hs'
    refine hQ h' tk₄ D vs k (fun b o e => ?_) (hs'.extBut _ _ (Nat.ne_of_lt hCD) hd') j1
    refine hs'.extBut b o (fun q => neX b o e (.inr (.inl q))) (k₄ b o (fun q => ?_) (k03 b o e))
    rcases q with (q | q) | q
    · exact neX b o e (.inr (.inl q))
    · exact neX b o e (.inr (.inr q))
    · exact neX b o e (.inl q)
end
end Gy
end

section
open PySem PySem.W PySem.Calls PyProof.Rows
set_option maxRecDepth 100000
namespace Gy
section
variable {prog : Program} {w : World} {A : Around} {E : Value → Shared → Prop} {s : Shared} {G : Heap} {L fa : Addr} {cd : Value} {m mg mb : Str → Option Value} {cm : Nat → Option Value} {ac cc : Addr} {p : Int}
theorem line115 {t : Tok} {B : Addr} {Q : Flow → Shared → Prop} (hu : A.units + 64 < cLine) (hh : A.handled = none) (hGL : @LE.le Nat _ G.objs.size L) (TP : Tops G mg mb ac cc) (hp : p = 7 ∨ p = 11)
    (x : LS G L m cm s.heap) (hm : cm 1 = some (.int p t)) (h4 : cm 4 = some (.ref B)) (XB : BeatAt prog w p s.heap B)
    (hQ : ∀ h' tk t', LS G L (fun z => if z = Str.ofString "rings" then some (.int (c1 p p.toNat : Nat) t') else m z) cm h' → Stab (L + 6) s.heap h' → (∀ b o, b ≠ L → s.heap.get? b = some o → h'.get? b = some o) → Q .next { s with heap := h', toks := tk }) :
    wpAny (model prog w) A (exec (st 9) (lawE L fa cd)) Q E s := by
  conv => arg 3; arg 1; whnf
  have hp2 : 2 ≤ p ∧ p ≤ 11 := by rcases hp with rfl | rfl <;> decide
  refine wpAny_Assign_Name (cB1 (id := "len") (fun Q hq => nmB (TP.base.keeps x.keep) TP.nlen TP.blen hq) (comp115 hu hh TP hp x hm h4 XB fun h' tk D vs k kk hD hsz => ?_))
  have l1 : vs.size ≤ 11 * (11 * 11) := by rw [hsz]; exact Nat.le_trans (c1_le _) (Nat.mul_le_mul (by omega) (Nat.mul_le_mul (by omega) (by omega)))
  refine call_len_list (items := vs) ⟨_, hD, rfl, k, rfl⟩ (by omega) ?_
  rw [hsz]
  exact stF hGL (x.keeps kk) fun h₂ x₂ S₂ k₂ => hQ h₂ _ _ x₂ ((Stab.all kk).trans S₂) fun b o hb e => k₂ b o hb (kk b o e)
theorem line116 {t t' : Tok} {Q : Flow → Shared → Prop} (hp : p = 7 ∨ p = 11)
    (x : LS G L m cm s.heap) (hm : cm 1 = some (.int p t)) (hr : m "rings" = some (.int (c1 p p.toNat : Nat) t'))
    (hQ : ∀ s', Kp s s' → Q .next s') :
    wpAny (model prog w) A (exec (st 10) (lawE L fa cd)) Q E s := by
  conv => arg 3; arg 1; whnf
  have hf := ring_facts p hp
  have hM : IntMulOk p (p - 1) ∧ IntMulOk (p * (p - 1)) (p + 1) ∧ Builtin.divisionGoesByPylong (p * (p - 1) * (p + 1)) 8 = false := by
    rcases hp with rfl | rfl
    · exact ⟨IntMulOk.of_left (by decide), IntMulOk.of_left (by decide), PyProof.noPylong_small (by decide)⟩
    · exact ⟨IntMulOk.of_left (by decide), IntMulOk.of_left (by decide), PyProof.noPylong_small (by decide)⟩
  have c := x.c (k := 1) (by decide) (by decide) hm
  refine wpAny_If (wpAny_isTrue_Compare1 (nmL x.ns hr (wpAny_BinOp (wpAny_BinOp (wpAny_BinOp (nmC (c := cA L 1) c (wpAny_BinOp (nmC (c := cA L 1) c (wpAny_Constant_int (sub_int ?_))))))))))
  refine mul_int ?_ hM.1
  refine wpAny_BinOp (nmC (c := cA L 1) c (wpAny_Constant_int (add_int ?_)))
  refine mul_int (wpAny_Constant_int (floordiv_int (by decide) (ne_int (wpAny_truthy_bool ?_)) (.inl hM.2.2))) hM.2.1
  rw [hf]
  show wpAny _ _ (execs [] _) _ _ _
  exact wpAny_execs_nil (hQ _ (Kp.of fun _ _ e => e))
end
end Gy
end

section
open PySem PySem.W PySem.Calls PyProof.Rows
set_option maxRecDepth 100000
namespace Gy
section
variable {prog : Program} {w : World} {A : Around} {E : Value → Shared → Prop} {s : Shared} {G : Heap} {L fa : Addr} {cd : Value} {m mg mb : Str → Option Value} {cm : Nat → Option Value} {ac cc : Addr} {p : Int}
/-- a list and a list of its own -/
theorem add_l {l b : Addr} {vs ws : List Value} {Q : Value → Shared → Prop} (hl : s.heap.IsList l vs.toArray) (hb : s.heap.IsList b ws.toArray)
    (h : Q (.ref s.heap.objs.size) { s with heap := s.heap.push { cls := .type "list", data := .seq (vs ++ ws).toArray } }) (hsz : vs.length + ws.length ≤ sizeLine) :
    wpAny (model prog w) A (binaryOp .Add (.ref l) (.ref b)) Q E s := by
  obtain ⟨⟨cls, dd, data, sl⟩, ho, hc, n, hd⟩ := id hl
  obtain ⟨⟨cls2, dd2, data2, sl2⟩, ho2, hc2, n2, hd2⟩ := id hb
  simp only at hc hd hc2 hd2
  subst hc hd hc2 hd2
  have e : vs.toArray ++ ws.toArray = (vs ++ ws).toArray := by simp
  refine concat_meets ⟨_, ho, rfl⟩ ⟨_, ho2, rfl⟩ noFill_list_add seq_list_add PySem.F.slot_list_add PySem.F.entry_list_add (PySem.F.args_list_add_2 _ _) (list_addW l b vs.toArray ws.toArray n n2 dd dd2 sl sl2 (by simpa using hsz)) ⟨ho, ho2, ?_⟩
  rw [e]
  exact h
/-- the list of zeros -/
theorem zeros1 {env : Env} {k1 : Nat} {p1 p2 : Pos} {Q : Value → Shared → Prop}
    (h : ∀ h' tk b t, h'.IsList b [Value.int 0 t].toArray → (∀ b o, s.heap.get? b = some o → h'.get? b = some o) → Q (.ref b) { s with heap := h', toks := tk }) :
    wpAny (model prog w) A (eval (.List [.Constant (.int 0) k1 p1] p2) env) Q E s := by
  refine List_ (show wpAny _ _ (spliced [(false, eval (.Constant (.int 0) k1 p1) env)]) _ _ _ from spliced_cons (wpAny_Constant_int (spliced_nil (wpAny_newList ?_ (hsz := by show 1 ≤ sizeLine; decide)))))
  exact h _ _ _ _ ⟨_, Heap.get?_push_size _ rfl, rfl, 0, rfl⟩ fun b o e => Heap.get?_push_of_some _ e
theorem zeros2 {env : Env} {k1 k2 : Nat} {p1 p2 p3 : Pos} {Q : Value → Shared → Prop}
    (h : ∀ h' tk b t u, h'.IsList b [Value.int 0 t, Value.int 0 u].toArray → (∀ b o, s.heap.get? b = some o → h'.get? b = some o) → Q (.ref b) { s with heap := h', toks := tk })
    (hs : backTo p2 (starEach [.Constant (.int 0) k1 p1, .Constant (.int 0) k2 p3] env) = [(false, eval (.Constant (.int 0) k1 p1) env), (false, eval (.Constant (.int 0) k2 p3) env)] := by rfl) :
    wpAny (model prog w) A (eval (.List [.Constant (.int 0) k1 p1, .Constant (.int 0) k2 p3] p2) env) Q E s := by
  refine List_ ?_
  rw [hs]
  refine spliced_cons (wpAny_Constant_int (spliced_cons (wpAny_Constant_int (spliced_nil (wpAny_newList ?_ (hsz := by show 2 ≤ sizeLine; decide))))))
  exact h _ _ _ _ _ ⟨_, Heap.get?_push_size _ rfl, rfl, 0, rfl⟩ fun b o e => Heap.get?_push_of_some _ e
theorem int_at {vs : List Value} {ns : List Int} (h : IntsAre vs ns) (i : Nat) (hi : i < vs.length) : ∃ n t, vs.toArray[i]? = some (.int n t) := by
  obtain ⟨n, t, e⟩ := h.all _ (List.getElem_mem hi)
  exact ⟨n, t, by rw [List.getElem?_toArray, List.getElem?_eq_getElem hi, e]⟩
set_option maxHeartbeats 1000000 in
theorem line118 {t : Tok} {l : Addr} {vs : List Value} {ns : List Int} {Q : Flow → Shared → Prop} (hh : A.handled = none) (hGL : @LE.le Nat _ G.objs.size L) (hp : p = 7 ∨ p = 11)
    (x : LS G L m cm s.heap) (hm : cm 1 = some (.int p t)) (hl : m (Str.ofString "script") = some (.ref l)) (hG : G.IsList l vs.toArray) (hi : IntsAre vs ns) (hsz : vs.length ≤ 1000)
    (hQ : ∀ h' tk a b t1 t2, 0 ≤ a → a < p → 1 ≤ b → b < p → LS G L (fun z => if z = Str.ofString "step" then some (.int a t1) else if z = Str.ofString "by" then some (.int b t2) else m z) cm h' → Stab (L + 6) s.heap h' → (∀ b o, b ≠ L → s.heap.get? b = some o → h'.get? b = some o) → Q .next { s with heap := h', toks := tk }) :
    wpAny (model prog w) A (exec (st 11) (lawE L fa cd)) Q E s := by
  conv => arg 3; arg 1; whnf
  have hp2 : 2 ≤ p ∧ p ≤ 11 := by rcases hp with rfl | rfl <;> decide
  have lk : ∀ {h' : Heap}, (∀ b o, G.get? b = some o → h'.get? b = some o) → h'.IsList l vs.toArray := fun k => let ⟨o, e, r⟩ := hG; ⟨o, k _ _ e, r⟩
  refine Assign_Tuple_swapped (names := [Str.ofString "step", Str.ofString "by"]) (tup2 ?_) rfl rfl
  refine wpAny_BinOp (subC (wpAny_BinOp (nmL x.ns hl (zeros1 fun h₁ tk₁ b₁ t₁ hz₁ k₁ => ?_))))
  have x₁ := x.keeps k₁
  refine add_l (s := { s with heap := h₁, toks := tk₁ }) (lk x₁.keep) hz₁ ?_ (Nat.le_trans (Nat.add_le_add_right hsz 1) (by decide))
  dsimp only
  generalize hH2 : h₁.push _ = h₂
  have k₂ : ∀ b o, h₁.get? b = some o → h₂.get? b = some o := fun b o e => hH2 ▸ Heap.get?_push_of_some _ e
  have hl₂ : h₂.IsList h₁.objs.size (vs ++ [Value.int 0 t₁]).toArray := ⟨_, hH2 ▸ Heap.get?_push_size _ rfl, rfl, 0, rfl⟩
  have hi₂ : IntsAre (vs ++ [Value.int 0 t₁]) (ns ++ [0]) := hi.append (.cons 0 t₁ .nil)
  obtain ⟨n0, u0, e0⟩ := int_at hi₂ 0 (by rw [List.length_append]; exact Nat.lt_of_lt_of_le Nat.zero_lt_one (Nat.le_add_left _ _))
  refine wpAny_Constant_int ⟨"list", "list.__getitem__", slot_list_getitem.lookup, let ⟨o, ho, hc, _⟩ := hl₂; ⟨o, ho, hc⟩, wpAny_getItem_list hl₂ (by decide) (by decide) e0 ?_⟩
  have x₂ := x₁.keeps k₂
  refine nmC (c := cA L 1) (x₂.c (by decide) (by decide) hm) (mod_int (by omega) ?_)
  refine wpAny_BinOp (wpAny_Constant_int (wpAny_BinOp (subC (wpAny_BinOp (nmL x₂.ns hl (zeros2 fun h₃ tk₃ b₃ t₃ t₄ hz₃ k₃ => ?_))))))
  have x₃ := x₂.keeps k₃
  refine add_l (s := { s with heap := h₃, toks := tk₃ }) (lk x₃.keep) hz₃ ?_ (Nat.le_trans (Nat.add_le_add_right hsz 2) (by decide))
  dsimp only
  generalize hH4 : h₃.push _ = h₄
  have k₄ : ∀ b o, h₃.get? b = some o → h₄.get? b = some o := fun b o e => hH4 ▸ Heap.get?_push_of_some _ e
  have hl₄ : h₄.IsList h₃.objs.size (vs ++ [Value.int 0 t₃, Value.int 0 t₄]).toArray := ⟨_, hH4 ▸ Heap.get?_push_size _ rfl, rfl, 0, rfl⟩
  have hi₄ : IntsAre (vs ++ [Value.int 0 t₃, Value.int 0 t₄]) (ns ++ [0, 0]) := hi.append (.cons 0 t₃ (.cons 0 t₄ .nil))
  obtain ⟨n1, u1, e1⟩ := int_at hi₄ 1 (by rw [List.length_append]; exact Nat.lt_of_lt_of_le Nat.one_lt_two (Nat.le_add_left _ _))
  refine wpAny_Constant_int ⟨"list", "list.__getitem__", slot_list_getitem.lookup, let ⟨o, ho, hc, _⟩ := hl₄; ⟨o, ho, hc⟩, wpAny_getItem_list hl₄ (by decide) (by decide) e1 ?_⟩
  have x₄ := x₃.keeps k₄
  refine wpAny_BinOp (nmC (c := cA L 1) (x₄.c (by decide) (by decide) hm) (wpAny_Constant_int (sub_int (mod_int (by omega) (add_int ?_)))))
  dsimp only
  generalize hH5 : h₄.push _ = h₅
  have k₅ : ∀ b o, h₄.get? b = some o → h₅.get? b = some o := fun b o e => hH5 ▸ Heap.get?_push_of_some _ e
  have x₅ := x₄.keeps k₅
  refine unpackItems_tuple (items := #[_, _]) hh ⟨_, hH5 ▸ Heap.get?_push_size _ rfl, rfl, 0, rfl⟩ fun h₆ hx₆ => ?_
  dsimp only at hx₆
  have k₆ : ∀ b o, h₅.get? b = some o → h₆.get? b = some o := fun b o e => hx₆ b o (Nat.ne_of_lt (Heap.lt_size e)) e
  have x₆ := x₅.keeps k₆
  have K : ∀ b o, s.heap.get? b = some o → h₆.get? b = some o := fun b o e => k₆ _ _ (k₅ _ _ (k₄ _ _ (k₃ _ _ (k₂ _ _ (k₁ b o e)))))
  refine assignInOrder_cons (wpAny_bindName (stF hGL x₆ fun h₇ x₇ S₇ k₇ => ?_))
  refine assignInOrder_cons (wpAny_bindName (stF hGL x₇ fun h₈ x₈ S₈ k₈ => ?_))
  refine assignInOrder_nil ?_
  dsimp only at S₇ S₈ k₇ k₈
  refine hQ h₈ _ _ _ _ _ ?_ ?_ ?_ ?_ x₈ ((Stab.all K).trans (S₇.trans S₈)) fun b o hb e => k₈ b o hb (k₇ b o hb (K b o e))
  · exact Int.fmod_nonneg_of_pos _ (by omega)
  · exact Int.fmod_lt_of_pos _ (by omega)
  · have := Int.fmod_nonneg_of_pos n1 (show 0 < p - 1 by omega)
    omega
  · have := Int.fmod_lt_of_pos n1 (show 0 < p - 1 by omega)
    omega
end
end Gy
end

section
open PySem PySem.W PySem.Calls PyProof.Rows
set_option maxRecDepth 100000
namespace Gy
theorem turn_mod {p x y c d : Int} (hp : 0 < p) : ((y * c + d).fmod p - (x * c + d).fmod p).fmod p = (((y - x).fmod p) * c).fmod p := by
  have h0 := Int.le_of_lt hp
  simp only [Int.fmod_eq_emod_of_nonneg _ h0]
  rw [← Int.sub_emod, Int.mul_emod ((y - x) % p), Int.emod_emod, ← Int.mul_emod, Int.sub_mul]
  congr 1
  omega
theorem sq_turn (p : Int) (hp : p = 7 ∨ p = 11) : ∀ d, d < p.toNat → d ≠ 0 → ∀ c, c < p.toNat → c ≠ 0 → ((sq p).any (· == ((d : Int) * (c : Int)).fmod p) != ((sq p).any (· == (d : Int)) == (sq p).any (· == (c : Int)))) = false := by
  rcases hp with rfl | rfl <;> decide +kernel
theorem bt_turn {p : Int} (hp : p = 7 ∨ p = 11) {a b : Nat} {c d : Int} (ha : a < p.toNat) (hb : b < p.toNat) (hab : a ≠ b) (h1 : 1 ≤ c) (h2 : c < p) :
    (bt p ((((a : Int) * c + d).fmod p).toNat) ((((b : Int) * c + d).fmod p).toNat) != (bt p a b == (sq p).any (· == c))) = false := by
  have hp0 : 0 < p := by rcases hp with rfl | rfl <;> decide
  have e1 : (((((a : Int) * c + d).fmod p).toNat : Nat) : Int) = ((a : Int) * c + d).fmod p := Int.toNat_of_nonneg (Int.fmod_nonneg_of_pos _ hp0)
  have e2 : (((((b : Int) * c + d).fmod p).toNat : Nat) : Int) = ((b : Int) * c + d).fmod p := Int.toNat_of_nonneg (Int.fmod_nonneg_of_pos _ hp0)
  unfold bt
  rw [e1, e2, turn_mod hp0]
  have n0 := Int.fmod_nonneg_of_pos ((b : Int) - a) hp0
  have n1 := Int.fmod_lt_of_pos ((b : Int) - a) hp0
  have n2 : ((b : Int) - a).fmod p ≠ 0 := by
    rw [Int.fmod_eq_emod_of_nonneg _ (Int.le_of_lt hp0)]
    rcases hp with rfl | rfl
    · have q1 : a < 7 := ha
      have q2 : b < 7 := hb
      omega
    · have q1 : a < 11 := ha
      have q2 : b < 11 := hb
      omega
  generalize ((b : Int) - a).fmod p = z at n0 n1 n2
  have := sq_turn p hp z.toNat (by omega) (by omega) c.toNat (by omega) (by omega)
  rw [Int.toNat_of_nonneg n0, Int.toNat_of_nonneg (show 0 ≤ c by omega)] at this
  exact this
section
variable {prog : Program} {w : World} {A : Around} {E : Value → Shared → Prop} {s : Shared} {env : Env} {p : Int}
/-- beat[there] -/
theorem beat_at {B T : Addr} {ve : Expr} {x : Str} {a b : Nat} {t u : Tok} {p1 p2 : Pos} {Q : Value → Shared → Prop} (hu : A.units + 64 < cLine) (X : BeatAt prog w p s.heap B) (ha : a < p.toNat) (hb : b < p.toNat)
    (hT : s.heap.get? T = some (tupO (.int a t) (.int b u)))
    (hv : ∀ Q : Value → Shared → Prop, Q (.ref B) s → wpAny (model prog w) A (eval ve env) Q E s)
    (hn : ∀ Q : Value → Shared → Prop, Q (.ref T) s → wpAny (model prog w) A (eval (.Name x p1) env) Q E s)
    (hQ : ∀ s', Kp s s' → Q (.bool (bt p a b)) s') :
    wpAny (model prog w) A (eval (.Subscript ve (.Name x p1) p2) env) Q E s := by
  obtain ⟨xs, hd, he⟩ := id X
  have hN : a * p.toNat + b < p.toNat * p.toNat := by
    have : (a + 1) * p.toNat ≤ p.toNat * p.toNat := Nat.mul_le_mul_right _ ha
    rw [Nat.add_mul] at this
    omega
  obtain ⟨K, hK⟩ := he.at hd hN
  rw [bk_of hb] at hK
  have h0 : 0 < p.toNat := by omega
  have e1 : (a * p.toNat + b) / p.toNat = a := by rw [Nat.mul_comm a, Nat.mul_add_div h0, Nat.div_eq_of_lt hb, Nat.add_zero]
  have e2 : (a * p.toNat + b) % p.toNat = b := by rw [Nat.mul_comm a, Nat.mul_add_mod, Nat.mod_eq_of_lt hb]
  rw [e1, e2] at hK
  exact subN (hv _ (hn _ ⟨"dict", "dict.__getitem__", slot_dict_getitem.lookup, hd.typeIs, wpAny_getItem_heap (knd := tupleKind (intKind prog w)) (show A.in1.units < cLine from by show A.units + 1 < cLine; omega) (pairKey hT) hd hK (hQ _ (Kp.of fun _ _ e => e))⟩))
end
end Gy
end

section
open PySem PySem.W PySem.Calls PyProof.Rows
set_option maxRecDepth 100000
namespace Gy
def body119 : List Stmt := match st 12 with | .For _ _ b _ _ => b | _ => []
section
variable {prog : Program} {w : World} {A : Around} {E : Value → Shared → Prop} {s : Shared} {G : Heap} {L fa : Addr} {cd : Value} {m mg mb : Str → Option Value} {cm : Nat → Option Value} {ac cc : Addr} {p : Int}
set_option maxHeartbeats 1000000 in
theorem turn119 {S B : Addr} {a b : Nat} {c d : Int} {t t₁ u t₂ t₃ : Tok} {Q : Flow → Shared → Prop} (hu : A.units + 64 < cLine) (hGL : @LE.le Nat _ G.objs.size L) (hp : p = 7 ∨ p = 11)
    (x : LS G L m cm s.heap) (hm : cm 1 = some (.int p t)) (hS : cm 2 = some (.ref S)) (h3 : cm 3 = some (.int b t₁)) (h4 : cm 4 = some (.ref B)) (hone : m (Str.ofString "one") = some (.int a u)) (hby : m (Str.ofString "by") = some (.int c t₂)) (hst : m (Str.ofString "step") = some (.int d t₃))
    (hI : IntsAt s.heap S (sq p)) (X : BeatAt prog w p s.heap B) (lB : @LT.lt Nat _ (L + 6) B) (ha : a < p.toNat) (hb : b < p.toNat) (hc1 : 1 ≤ c) (hc2 : c < p) (hd1 : 0 ≤ d) (hd2 : d < p)
    (hQ : ∀ s' T, LS G L (fun z => if z = Str.ofString "there" then some (.ref T) else m z) cm s'.heap → Ch (own L) s s' → Q .next s') :
    wpAny (model prog w) A (execs body119 (lawE L fa cd)) Q E s := by
  have hp2 : 2 ≤ p ∧ p ≤ 11 := by rcases hp with rfl | rfl <;> decide
  have hM : ∀ z : Int, 0 ≤ z → z < p → IntMulOk z c := fun z h1 h2 => IntMulOk.of_left (intBits_le_64 (by omega) (by omega))
  have c1' := x.c (k := 1) (by decide) (by decide) hm
  have c3' := x.c (k := 3) (by decide) (by decide) h3
  have e2 : body119 = [body119[0]'(by decide), body119[1]'(by decide)] := rfl
  rw [e2]
  refine wpAny_execs_cons ?_
  conv => arg 3; arg 1; whnf
  refine wpAny_Assign_Name (tup2 (wpAny_BinOp (wpAny_BinOp (wpAny_BinOp (nmL x.ns hone (nmL x.ns hby (mul_int (nmL x.ns hst (add_int (nmC (c := cA L 1) c1' (mod_int (by omega) ?_)))) (hM _ (by omega) (by omega)))))))))
  refine wpAny_BinOp (wpAny_BinOp (wpAny_BinOp (nmC (c := cA L 3) c3' (nmL x.ns hby (mul_int (nmL x.ns hst (add_int (nmC (c := cA L 1) c1' (mod_int (by omega) ?_)))) (hM _ (by omega) (by omega)))))))
  dsimp only
  generalize hH1 : s.heap.push _ = h₁
  have k₁ : ∀ b o, s.heap.get? b = some o → h₁.get? b = some o := fun b o e => hH1 ▸ Heap.get?_push_of_some _ e
  have hp0 : 0 < p := by omega
  have e1 : (((((a : Int) * c + d).fmod p).toNat : Nat) : Int) = ((a : Int) * c + d).fmod p := Int.toNat_of_nonneg (Int.fmod_nonneg_of_pos _ hp0)
  have e3 : (((((b : Int) * c + d).fmod p).toNat : Nat) : Int) = ((b : Int) * c + d).fmod p := Int.toNat_of_nonneg (Int.fmod_nonneg_of_pos _ hp0)
  have a1 : (((a : Int) * c + d).fmod p).toNat < p.toNat := by have := Int.fmod_lt_of_pos ((a : Int) * c + d) hp0; omega
  have b1 : (((b : Int) * c + d).fmod p).toNat < p.toNat := by have := Int.fmod_lt_of_pos ((b : Int) * c + d) hp0; omega
  have hT : ∃ q r, h₁.get? s.heap.objs.size = some (tupO (.int (((((a : Int) * c + d).fmod p).toNat : Nat) : Int) q) (.int (((((b : Int) * c + d).fmod p).toNat : Nat) : Int) r)) := by
    rw [e1, e3]
    exact ⟨_, _, hH1 ▸ Heap.get?_push_size _ rfl⟩
  obtain ⟨tq, tr, hT⟩ := hT
  have x₁ := x.keeps k₁
  refine stF hGL x₁ fun h₂ x₂ S₂ k₂ => ?_
  dsimp only at S₂ k₂ ⊢
  have X₂ := (X.keeps k₁).stab lB S₂
  have hI₂ := (hI.at' fun o e => k₁ _ o e).stab S₂
  obtain ⟨is, hil, hia⟩ := hI₂.isList
  have hT₂ := S₂ _ _ (.inl ⟨_, _, rfl⟩) hT
  have cc : Ch (own L) s { s with heap := h₂ } := ⟨h₂, s.toks, rfl, fun b o hb e => k₂ b o (fun q => hb (by rw [q]; exact ⟨Nat.le_refl _, Nat.le_add_right ..⟩)) (k₁ b o e)⟩
  have done : ∀ s' : Shared, Kp { s with heap := h₂ } s' → Q .next s' := fun s' k => hQ s' s.heap.objs.size (x₂.keeps k.all) (cc.trans (k.mono fun _ q => q.elim))
  show wpAny _ _ (execs [_] _) _ _ _
  refine wpAny_execs_cons ?_
  conv => arg 3; arg 1; whnf
  have c3'' := x₂.c (k := 3) (by decide) (by decide) h3
  refine wpAny_If (wpAny_isTrue_BoolOp (wpAny_allTrue_And_cons (wpAny_isTrue_Compare1 (nmL x₂.ns ((if_neg (by decide)).trans hone) (nmC (c := cA L 3) c3'' (ne_int (wpAny_truthy_bool ?_)))))))
  by_cases hab : a = b
  · rw [show ((a : Int) != (b : Int)) = false from by rw [hab, bne_self_eq_false]]
    show wpAny _ _ (execs [] _) _ _ _
    exact wpAny_execs_nil (wpAny_execs_nil (done _ (Kp.of fun _ _ e => e)))
  rw [show ((a : Int) != (b : Int)) = true from by rw [bne_iff_ne]; omega]
  show wpAny _ _ (allTrue _ _ _) _ _ _
  refine wpAny_allTrue_And_cons (wpAny_isTrue_Compare1 ?_)
  refine beat_at (s := { s with heap := h₂, toks := _ }) (B := B) hu X₂ a1 b1 hT₂ (fun Q hq => nmC (c := cA L 4) (x₂.c (by decide) (by decide) h4) hq) (fun Q hq => nmL x₂.ns (if_pos rfl) hq) fun s₃ k₃ => ?_
  have x₃ := x₂.keeps k₃.all
  refine wpAny_Compare1 ?_
  refine beat_get (B := B) (a := a) (b := b) hu (X₂.keeps k₃.all) ha hb (fun Q hq => nmC (c := cA L 4) (x₃.c (by decide) (by decide) h4) hq) (fun Q hq => nmL x₃.ns ((if_neg (by decide)).trans hone) (hq _)) (fun Q hq => nmC (c := cA L 3) (x₃.c (by decide) (by decide) h3) (hq _)) fun s₄ k₄ => ?_
  have x₄ := x₃.keeps k₄.all
  have hil₄ : s₄.heap.IsList S is.toArray := let ⟨o, e, r⟩ := hil; ⟨o, k₄.get (k₃.get e), r⟩
  refine wpAny_Compare1 (nmL x₄.ns ((if_neg (by decide)).trans hby) (nmC (c := cA L 2) (x₄.c (by decide) (by decide) hS) (in_list_ints hil₄ hia (eq_bool (ne_bool (wpAny_truthy_bool ?_))))))
  rw [bt_turn hp ha hb hab hc1 hc2]
  show wpAny _ _ (execs [] _) _ _ _
  exact wpAny_execs_nil (wpAny_execs_nil (done _ ((Kp.of (s := { s with heap := h₂ }) fun _ _ e => e).trans (k₃.trans k₄))))
end
end Gy
end

section
open PySem PySem.W PySem.Calls PyProof.Rows
set_option maxRecDepth 100000
namespace Gy
section
variable {prog : Program} {w : World} {A : Around} {E : Value → Shared → Prop} {s : Shared} {G : Heap} {L fa : Addr} {cd : Value} {m mg mb : Str → Option Value} {cm : Nat → Option Value} {ac cc : Addr} {p : Int}
set_option maxHeartbeats 1000000 in
theorem line119 {S B : Addr} {c d : Int} {t t₂ t₃ : Tok} {Q : Flow → Shared → Prop} (hu : A.units + 64 < cLine) (hh : A.handled = none) (hGL : @LE.le Nat _ G.objs.size L) (hp : p = 7 ∨ p = 11)
    (x : LS G L m cm s.heap) (hm : cm 1 = some (.int p t)) (hS : cm 2 = some (.ref S)) (h4 : cm 4 = some (.ref B)) (hby : m (Str.ofString "by") = some (.int c t₂)) (hst : m (Str.ofString "step") = some (.int d t₃))
    (hI : IntsAt s.heap S (sq p)) (X : BeatAt prog w p s.heap B) (lB : @LT.lt Nat _ (L + 6) B) (hc1 : 1 ≤ c) (hc2 : c < p) (hd1 : 0 ≤ d) (hd2 : d < p)
    (hQ : ∀ s', Ch (own L) s s' → Q .next s') :
    wpAny (model prog w) A (exec (st 12) (lawE L fa cd)) Q E s := by
  conv => arg 3; arg 1; whnf
  have hp2 : 2 ≤ p ∧ p ≤ 11 := by rcases hp with rfl | rfl <;> decide
  obtain ⟨xs, hdB, he⟩ := id X
  obtain ⟨ep, rB⟩ := raw_of hdB
  have hBs : (B == sysModules) = false := beq_eq_false_iff_ne.mpr (Nat.ne_of_gt (show @LT.lt Nat _ 1 B by omega))
  refine wpAny_For (nmC (c := cA L 4) (x.c (by decide) (by decide) h4) ?_) (fun _ => rfl)
  refine pyIter_raw hBs rB ?_
  have kk : ∀ b o, s.heap.get? b = some o → (s.heap.push { cls := .type "dict_keyiterator", data := .fields #[.ref B, .int 0 0, .int (xs.map (entryOfKey (tupleKind (intKind prog w)))).toArray.size 0, .int ep 0] }).get? b = some o := fun b o e => Heap.get?_push_of_some _ e
  have hit : (s.heap.push { cls := .type "dict_keyiterator", data := .fields #[.ref B, .int 0 0, .int (xs.map (entryOfKey (tupleKind (intKind prog w)))).toArray.size 0, .int ep 0] }).IsKeyIter s.heap.objs.size B 0 (xs.map (entryOfKey (tupleKind (intKind prog w)))).toArray.size ep := ⟨_, Heap.get?_push_size _ rfl, rfl, rfl⟩
  have hBI : @Ne Nat B s.heap.objs.size := Nat.ne_of_lt rB.lt
  have hL6 : @LT.lt Nat _ (L + 6) s.heap.objs.size := let ⟨_, e, _⟩ := x.cell 6 (by decide) (by decide); Heap.lt_size e
  generalize s.heap.push { cls := .type "dict_keyiterator", data := .fields #[.ref B, .int 0 0, .int (xs.map (entryOfKey (tupleKind (intKind prog w)))).toArray.size 0, .int ep 0] } = H at kk hit ⊢
  have c0 : Ch (fun b => own L b ∨ b = s.heap.objs.size) s { s with heap := H } := ⟨H, s.toks, rfl, fun b o _ e => kk b o e⟩
  have back : ∀ s', Ch (fun b => own L b ∨ b = s.heap.objs.size) { s with heap := H } s' → Ch (own L) s s' := fun s' c => (c0.trans c).shrink fun y o e h => h.elim id fun (q : @Eq Nat y s.heap.objs.size) => by
    have : @LT.lt Nat _ y s.heap.objs.size := Heap.lt_size e
    omega
  refine forLoop_core (s := { s with heap := H }) (itr_keys hh s.heap.objs.size B hBI _ ep _) (own L)
    (fun i h => ∃ m' v3, LS G L m' (fun j => if j = 3 then v3 else cm j) h ∧ m' (Str.ofString "by") = some (.int c t₂) ∧ m' (Str.ofString "step") = some (.int d t₃) ∧ BeatAt prog w p h B ∧ IntsAt h S (sq p)) ?_ ⟨hit, rB.at fun o e => kk _ o e⟩ ?_ ?_ ?_ ?_
  · rintro b (rfl | rfl) ⟨_, hb⟩ <;> omega
  · refine ⟨m, cm 3, ?_, hby, hst, X.keeps kk, hI.at' fun o e => kk _ o e⟩
    rw [cm3_id rfl]
    exact x.keeps kk
  · rintro i h h' ⟨m', v3, jx, j1, j2, jB, jI⟩ ⟨⟨o, ho, _, hdt⟩, _⟩ kp
    have S' : Stab (L + 6) h h' := fun b o' hb e => kp b o' (by
      rintro rfl
      rw [ho] at e; cases e
      rcases hb with ⟨its, n, q⟩ | ⟨⟨es, n, q⟩, _⟩ <;> rw [hdt] at q <;> cases q) e
    refine ⟨m', v3, jx.mono fun b o' hb e => kp b o' ?_ e, j1, j2, jB.stab lB S', jI.stab S'⟩
    rcases hb with ⟨_, hb⟩ | ⟨o2, hb⟩
    · exact (show @Ne Nat _ _ by omega)
    · exact Nat.ne_of_lt (Heap.lt_size (x.keep b o2 hb))
  · rintro i v s₁ E' hi ⟨e, hee, rfl⟩ ⟨m', v3, jx, j1, j2, jB, jI⟩ hc₁
    have hiN : i < p.toNat * p.toNat := by rw [List.size_toArray, List.length_map, he.1] at hi; exact hi
    obtain ⟨kk', a, vv, hxi, ek, ev⟩ := entry_get hee
    obtain ⟨K, hK⟩ := he.2 i hiN
    rw [hxi] at hK
    cases hK
    rw [ek]
    have hkey : IsTupleKey (intKind prog w) s₁.heap (bk p i) a := by
      obtain ⟨o, its, n, e1, e2, e3, e4⟩ := (keys_of hdB).1 _ (List.mem_of_getElem? hxi)
      exact ⟨o, its, n, Stab.ofCh (W := fun _ => False) x ((back _ hc₁).mono fun _ => .inl) (fun _ _ q => q.elim) _ _ (.inl ⟨_, _, e3⟩) e1, e2, e3, e4⟩
    obtain ⟨t, u, hT⟩ := key2 hkey
    refine wpAny_assign_Tuple hh hT rfl rfl fun h₃ hx₃ => ?_
    have k₃ : ∀ b o, s₁.heap.get? b = some o → h₃.get? b = some o := fun b o e => hx₃ b o (Nat.ne_of_lt (Heap.lt_size e)) e
    have x₃ := jx.keeps k₃
    show wpAny _ _ (do holding [Value.int ((i % p.toNat : Nat) : Int) u] (assign _ (lawE L fa cd) (Value.int ((i / p.toNat : Nat) : Int) t)); do holding [] (assign _ (lawE L fa cd) (Value.int ((i % p.toNat : Nat) : Int) u)); pure ()) _ _ _
    refine wpAny_bind (wpAny_holding (wpAny_assign_Name (stF hGL x₃ fun h₄ x₄ st₄ k₄ => ?_)))
    refine wpAny_bind (wpAny_holding (wpAny_assign_Name (stC hGL x₄ (k := 3) (by decide) (by decide) fun h₅ x₅ st₅ k₅ => wpAny_pure ?_)))
    rw [cm3_cm3] at x₅
    dsimp only at st₄ st₅ k₄ k₅ ⊢
    have S₅ : Stab (L + 6) s₁.heap h₅ := (Stab.all k₃).trans (st₄.trans st₅)
    have c₅ : Ch (own L) s₁ { s₁ with heap := h₅, toks := s₁.toks + 1 } := ⟨h₅, _, rfl, fun b o hb e => k₅ b o (fun q => hb (q ▸ cA_own (by decide))) (k₄ b o (fun q => hb (q ▸ ⟨Nat.le_refl _, Nat.le_add_right ..⟩)) (k₃ b o e))⟩
    have hpn : 0 < p.toNat := by omega
    have la : i / p.toNat < p.toNat := Nat.div_lt_of_lt_mul hiN
    have lb : i % p.toNat < p.toNat := Nat.mod_lt _ hpn
    refine turn119 (s := { s₁ with heap := h₅, toks := s₁.toks + 1 }) (S := S) (B := B) (a := i / p.toNat) (b := i % p.toNat) (c := c) (d := d) hu hGL hp x₅ ((if_neg (by decide)).trans hm) ((if_neg (by decide)).trans hS) (if_pos rfl) ((if_neg (by decide)).trans h4) (if_pos rfl) ((if_neg (by decide)).trans j1) ((if_neg (by decide)).trans j2)
      (jI.stab S₅) (jB.stab lB S₅) lB la lb hc1 hc2 hd1 hd2 fun s₆ T x₆ c₆ => ?_
    have S₆ : Stab (L + 6) h₅ s₆.heap := Stab.ofCh (s := { s₁ with heap := h₅, toks := s₁.toks + 1 }) (W := fun _ => False) x₅ (c₆.mono fun _ => .inl) fun _ _ q => q.elim
    exact ⟨rfl, c₅.trans c₆, _, _, x₆, ((if_neg (by decide)).trans (if_neg (by decide))).trans j1, ((if_neg (by decide)).trans (if_neg (by decide))).trans j2, (jB.stab lB S₅).stab lB S₆, (jI.stab S₅).stab S₆⟩
  · rintro s' _ hc
    exact hQ s' (back _ hc)
end
end Gy
end

section
open PySem PySem.W PySem.Calls PyProof.Rows
set_option maxRecDepth 100000
namespace Gy
/-- the two tables stand -/
def Tabs (h : Heap) : Prop := (∃ ps, h.get? 51 = some (tabObj ps)) ∧ ∃ ps, h.get? 44 = some (tabObj ps)
theorem Tabs.mono {h h' : Heap} (x : Tabs h) (k51 : ∀ o, h.get? 51 = some o → h'.get? 51 = some o) (k44 : ∀ o, h.get? 44 = some o → h'.get? 44 = some o) : Tabs h' :=
  ⟨let ⟨ps, e⟩ := x.1; ⟨ps, k51 _ e⟩, let ⟨ps, e⟩ := x.2; ⟨ps, k44 _ e⟩⟩
section
variable {prog : Program} {w : World} {A : Around} {E : Value → Shared → Prop} {s : Shared} {G : Heap} {L fa : Addr} {cd : Value} {m mg mb : Str → Option Value} {cm : Nat → Option Value} {ac cc : Addr} {p lim hi : Int}
theorem Kp.shape {s s' : Shared} (x : Kp s s') : ∃ h tk, s' = { s with heap := h, toks := tk } := let ⟨h, tk, e, _⟩ := x; ⟨h, tk, e⟩
theorem Ch.shape {W : Addr → Prop} {s s' : Shared} (x : Ch W s s') : ∃ h tk, s' = { s with heap := h, toks := tk } := let ⟨h, tk, e, _⟩ := x; ⟨h, tk, e⟩
set_option maxHeartbeats 2000000 in
theorem law_rest {t : Tok} {l : Addr} {vs : List Value} {ns : List Int} {Q : Flow → Shared → Prop} (hd : A.depth < recursionLimit) (hu : A.units + 64 < cLine) (hh : A.handled = none) (TP : Tops G mg mb ac cc) (X : DmAll prog w A G L p lim hi) (hGL : @LE.le Nat _ G.objs.size L) (hp : p = 7 ∨ p = 11) (hlim : 1 < lim) (hhi : (p - 1) * (p - 1) < hi)
    (x : LS G L m cm s.heap) (hm : cm 1 = some (.int p t)) (hl : m (Str.ofString "script") = some (.ref l)) (hG : G.IsList l vs.toArray) (hi' : IntsAre vs ns) (hsz : vs.length ≤ 1000) (e51 : s.heap.get? 51 = some (tabObj #[])) (e44 : s.heap.get? 44 = some (tabObj #[]))
    (hQ : ∀ h tk, (∀ b o, G.get? b = some o → h.get? b = some o) → Tabs h → Q (.ret (.bool true)) { s with heap := h, toks := tk }) :
    wpAny (model prog w) A (execs [st 1, st 2, st 3, st 4, st 5, st 6, st 7, st 8, st 9, st 10, st 11, st 12, st 13] (lawE L fa cd)) Q E s := by
  have n51 : ∀ k, (51 : Addr) ≠ cA L k := fun k q => absurd X.l51 (Nat.not_lt_of_le (show @LE.le Nat _ L 51 from q ▸ Nat.le_add_right ..))
  have n44 : ∀ k, (44 : Addr) ≠ cA L k := fun k q => absurd X.l44 (Nat.not_lt_of_le (show @LE.le Nat _ L 44 from q ▸ Nat.le_add_right ..))
  have o51 : ¬ own L 51 := fun q => absurd X.l51 (Nat.not_lt_of_le q.1)
  have o44 : ¬ own L 44 := fun q => absurd X.l44 (Nat.not_lt_of_le q.1)
  have L51 : (51 : Addr) ≠ L := Nat.ne_of_lt X.l51
  have L44 : (44 : Addr) ≠ L := Nat.ne_of_lt X.l44
  have a51 : ∀ c : Addr, @LT.lt Nat _ (L + 6) c → (51 : Addr) ≠ c := fun c hc => Nat.ne_of_lt (Nat.lt_trans X.l51 (Nat.lt_of_le_of_lt (Nat.le_add_right ..) hc))
  have a44 : ∀ c : Addr, @LT.lt Nat _ (L + 6) c → (44 : Addr) ≠ c := fun c hc => Nat.ne_of_lt (Nat.lt_trans X.l44 (Nat.lt_of_le_of_lt (Nat.le_add_right ..) hc))
  -- line 98
  refine wpAny_execs_cons (line98 hh TP X hGL hp hlim hhi x hm e51 e44 fun h₁ tk₁ S x₁ lS hS T51 T44 k₁ => ?_)
  have T₁ : Tabs h₁ := ⟨T51, T44⟩
  have hm₁ : (fun j => if j = 2 then some (Value.ref S) else cm j) 1 = some (.int p t) := hm
  have hS₁ : (fun j => if j = 2 then some (Value.ref S) else cm j) 2 = some (.ref S) := rfl
  generalize (fun j => if j = 2 then some (Value.ref S) else cm j) = cm₁ at x₁ hm₁ hS₁
  -- line 99
  refine wpAny_execs_cons (line99 (s := { s with heap := h₁, toks := tk₁ }) hh hu TP hp x₁ hm₁ hS₁ hS fun s₂ k₂ => ?_)
  obtain ⟨h₂, tk₂, rfl, _⟩ := id k₂
  have x₂ := x₁.keeps k₂.all
  have T₂ : Tabs h₂ := T₁.mono (fun o e => k₂.get e) fun o e => k₂.get e
  have hI₂ : IntsAt h₂ S (sq p) := hS.at' fun o e => k₂.get e
  -- line 101
  refine wpAny_execs_cons (line101 (s := { s with heap := h₂, toks := tk₂ }) hh hu TP hp hGL x₂ hm₁ hS₁ hI₂ fun h₃ tk₃ B x₃ lB XB k₃ => ?_)
  dsimp only at k₃
  have T₃ : Tabs h₃ := T₂.mono (fun o e => k₃ _ o (n51 4) e) fun o e => k₃ _ o (n44 4) e
  have hI₃ : IntsAt h₃ S (sq p) := hI₂.stab (lo := L + 6) (fun b o hb e => by
    refine k₃ b o ?_ e
    rintro rfl
    obtain ⟨o', e', d'⟩ := x₂.cell 4 (by decide) (by decide)
    rw [e] at e'; cases e'
    rcases hb with ⟨its, n, q⟩ | ⟨⟨es, n, q⟩, _⟩ <;> rw [d'] at q <;> cases q)
  have hm₃ : (fun j => if j = 4 then some (Value.ref B) else cm₁ j) 1 = some (.int p t) := hm₁
  have hS₃ : (fun j => if j = 4 then some (Value.ref B) else cm₁ j) 2 = some (.ref S) := hS₁
  have hB₃ : (fun j => if j = 4 then some (Value.ref B) else cm₁ j) 4 = some (.ref B) := rfl
  generalize (fun j => if j = 4 then some (Value.ref B) else cm₁ j) = cm₃ at x₃ hm₃ hS₃ hB₃
  -- line 102
  refine wpAny_execs_cons (line102 (s := { s with heap := h₃, toks := tk₃ }) hh TP hp hGL x₃ hm₃ fun h₄ tk₄ C1 C2 x₄ lC1 lC2 R1 R2 aC S₄ k₄ => ?_)
  dsimp only at aC S₄ k₄
  have lBC : @LT.lt Nat _ B C1 := let ⟨xs, ⟨o, es, ep, ho, _⟩, _⟩ := XB; aC _ _ ho
  have T₄ : Tabs h₄ := T₃.mono (fun o e => k₄ _ o o51 e) fun o e => k₄ _ o o44 e
  have hI₄ := hI₃.stab S₄
  have XB₄ := XB.stab lB S₄
  have hm₄ : (fun j => if j = 6 then some (Value.ref C2) else if j = 5 then some (Value.ref C1) else cm₃ j) 1 = some (.int p t) := hm₃
  have hS₄ : (fun j => if j = 6 then some (Value.ref C2) else if j = 5 then some (Value.ref C1) else cm₃ j) 2 = some (.ref S) := hS₃
  have hB₄ : (fun j => if j = 6 then some (Value.ref C2) else if j = 5 then some (Value.ref C1) else cm₃ j) 4 = some (.ref B) := hB₃
  have h5₄ : (fun j => if j = 6 then some (Value.ref C2) else if j = 5 then some (Value.ref C1) else cm₃ j) 5 = some (.ref C1) := rfl
  have h6₄ : (fun j => if j = 6 then some (Value.ref C2) else if j = 5 then some (Value.ref C1) else cm₃ j) 6 = some (.ref C2) := rfl
  generalize (fun j => if j = 6 then some (Value.ref C2) else if j = 5 then some (Value.ref C1) else cm₃ j) = cm₄ at x₄ hm₄ hS₄ hB₄ h5₄ h6₄
  -- lines 103 to 106
  refine wpAny_execs_cons (line103 (s := { s with heap := h₄, toks := tk₄ }) hd hu hh TP hp hGL x₄ hB₄ h5₄ h6₄ lB lBC lC2 XB₄ R1 R2 fun s₅ m₅ v₅ x₅ XB₅ R1₅ R2₅ c₅ hl₅ => ?_)
  obtain ⟨h₅, tk₅, rfl, k₅⟩ := id c₅
  dsimp only at k₅ x₅ XB₅ R1₅ R2₅
  have lC2' : @LT.lt Nat _ (L + 6) C2 := Nat.lt_trans lC1 lC2
  have T₅ : Tabs h₅ := T₄.mono (fun o e => k₅ _ o (fun q => q.elim o51 fun q => q.elim (a51 _ lC1) (a51 _ lC2')) e) fun o e => k₅ _ o (fun q => q.elim o44 fun q => q.elim (a44 _ lC1) (a44 _ lC2')) e
  have lSC : @LT.lt Nat _ S C1 := let ⟨_, _, e, _⟩ := hI₃; aC _ _ e
  have hI₅ : IntsAt h₅ S (sq p) := hI₄.at' fun o e => k₅ _ o (fun q => q.elim (fun q => absurd lS (Nat.not_lt_of_le q.2)) fun q => q.elim (fun q => Nat.ne_of_lt lSC q) fun q => Nat.ne_of_lt (Nat.lt_trans lSC lC2) q) e
  replace hl₅ : m₅ (Str.ofString "script") = some (.ref l) := hl₅.trans hl
  have hm₅ : (fun j => if j = 3 then v₅ else cm₄ j) 1 = some (.int p t) := hm₄
  have hS₅ : (fun j => if j = 3 then v₅ else cm₄ j) 2 = some (.ref S) := hS₄
  have hB₅ : (fun j => if j = 3 then v₅ else cm₄ j) 4 = some (.ref B) := hB₄
  have h5₅ : (fun j => if j = 3 then v₅ else cm₄ j) 5 = some (.ref C1) := h5₄
  have h6₅ : (fun j => if j = 3 then v₅ else cm₄ j) 6 = some (.ref C2) := h6₄
  generalize (fun j => if j = 3 then v₅ else cm₄ j) = cm₅ at x₅ hm₅ hS₅ hB₅ h5₅ h6₅
  -- line 107
  refine wpAny_execs_cons (line107 (s := { s with heap := h₅, toks := tk₅ }) hd hh hu TP hp x₅ hm₅ h5₅ h6₅ R1₅ R2₅ fun s₆ k₆ => ?_)
  obtain ⟨h₆, tk₆, rfl, _⟩ := id k₆
  have x₆ : LS G L m₅ cm₅ h₆ := x₅.keeps k₆.all
  have T₆ : Tabs h₆ := T₅.mono (fun o e => k₆.get e) fun o e => k₆.get e
  have hI₆ : IntsAt h₆ S (sq p) := hI₅.at' fun o e => k₆.get e
  have XB₆ : BeatAt prog w p h₆ B := XB₅.keeps k₆.all
  have R1₆ := R1₅.stab (Stab.all k₆.all)
  have R2₆ := R2₅.stab (Stab.all k₆.all)
  -- line 109
  refine wpAny_execs_cons (line109 (s := { s with heap := h₆, toks := tk₆ }) hGL hp x₆ hm₅ fun h₇ tk₇ t₇ x₇ S₇ k₇ => ?_)
  dsimp only at S₇ k₇
  have T₇ : Tabs h₇ := T₆.mono (fun o e => k₇ _ o L51 e) fun o e => k₇ _ o L44 e
  have hl₇ : (fun z => if z = Str.ofString "fourth" then some (Value.int ((p - 3).fdiv 4) t₇) else m₅ z) (Str.ofString "script") = some (.ref l) := (if_neg (by decide)).trans hl₅
  have hf₇ : (fun z => if z = Str.ofString "fourth" then some (Value.int ((p - 3).fdiv 4) t₇) else m₅ z) (Str.ofString "fourth") = some (Value.int ((p - 3).fdiv 4) t₇) := if_pos rfl
  generalize (fun z => if z = Str.ofString "fourth" then some (Value.int ((p - 3).fdiv 4) t₇) else m₅ z) = m₇ at x₇ hl₇ hf₇
  -- lines 110 to 114
  refine wpAny_execs_cons (line110 (s := { s with heap := h₇, toks := tk₇ }) hu hh hGL TP hp x₇ hm₅ h5₅ h6₅ hf₇ (R1₆.stab S₇) (R2₆.stab S₇) fun s₈ m₈ v₈ x₈ hm₈ c₈ => ?_)
  have S₈ := Stab.ofCh (s := { s with heap := h₇, toks := tk₇ }) (W := fun _ => False) x₇ (c₈.mono fun _ => .inl) fun _ _ q => q.elim
  obtain ⟨h₈, tk₈, rfl, k₈⟩ := id c₈
  dsimp only at k₈ x₈ S₈
  have T₈ : Tabs h₈ := T₇.mono (fun o e => k₈ _ o o51 e) fun o e => k₈ _ o o44 e
  have hI₈ := (hI₆.stab S₇).stab S₈
  have XB₈ := (XB₆.stab lB S₇).stab lB S₈
  have hl₈ := (hm₈ _ (by decide) (by decide)).trans hl₇
  have hm8 : (fun j => if j = 3 then v₈ else cm₅ j) 1 = some (.int p t) := hm₅
  have hS₈ : (fun j => if j = 3 then v₈ else cm₅ j) 2 = some (.ref S) := hS₅
  have hB₈ : (fun j => if j = 3 then v₈ else cm₅ j) 4 = some (.ref B) := hB₅
  generalize (fun j => if j = 3 then v₈ else cm₅ j) = cm₈ at x₈ hm8 hS₈ hB₈
  -- line 115
  refine wpAny_execs_cons (line115 (s := { s with heap := h₈, toks := tk₈ }) hu hh hGL TP hp x₈ hm8 hB₈ XB₈ fun h₉ tk₉ t₉ x₉ S₉ k₉ => ?_)
  dsimp only at S₉ k₉
  have T₉ : Tabs h₉ := T₈.mono (fun o e => k₉ _ o L51 e) fun o e => k₉ _ o L44 e
  have hl₉ : (fun z => if z = Str.ofString "rings" then some (Value.int (c1 p p.toNat : Nat) t₉) else m₈ z) (Str.ofString "script") = some (.ref l) := (if_neg (by decide)).trans hl₈
  have hr₉ : (fun z => if z = Str.ofString "rings" then some (Value.int (c1 p p.toNat : Nat) t₉) else m₈ z) (Str.ofString "rings") = some (Value.int (c1 p p.toNat : Nat) t₉) := if_pos rfl
  generalize (fun z => if z = Str.ofString "rings" then some (Value.int (c1 p p.toNat : Nat) t₉) else m₈ z) = m₉ at x₉ hl₉ hr₉
  -- line 116
  refine wpAny_execs_cons (line116 (s := { s with heap := h₉, toks := tk₉ }) hp x₉ hm8 hr₉ fun s₁₀ k₁₀ => ?_)
  obtain ⟨h₁₀, tk₁₀, rfl, _⟩ := id k₁₀
  have x₁₀ : LS G L m₉ cm₈ h₁₀ := x₉.keeps k₁₀.all
  have T₁₀ : Tabs h₁₀ := T₉.mono (fun o e => k₁₀.get e) fun o e => k₁₀.get e
  -- line 118
  refine wpAny_execs_cons (line118 (s := { s with heap := h₁₀, toks := tk₁₀ }) hh hGL hp x₁₀ hm8 hl₉ hG hi' hsz fun h₁₁ tk₁₁ a b ta tb a0 a1 b0 b1 x₁₁ S₁₁ k₁₁ => ?_)
  dsimp only at S₁₁ k₁₁
  have T₁₁ : Tabs h₁₁ := T₁₀.mono (fun o e => k₁₁ _ o L51 e) fun o e => k₁₁ _ o L44 e
  -- lines 119 to 122
  refine wpAny_execs_cons (line119 (s := { s with heap := h₁₁, toks := tk₁₁ }) hu hh hGL hp x₁₁ hm8 hS₈ hB₈ ((if_neg (by decide)).trans (if_pos rfl)) (if_pos rfl) (((hI₈.stab S₉).at' fun o e => k₁₀.get e).stab S₁₁) ((((XB₈.stab lB S₉)).keeps k₁₀.all).stab lB S₁₁) lB b0 b1 a0 a1 fun s₁₂ c₁₂ => ?_)
  obtain ⟨h₁₂, tk₁₂, rfl, k₁₂⟩ := id c₁₂
  dsimp only at k₁₂
  have T₁₂ : Tabs h₁₂ := T₁₁.mono (fun o e => k₁₂ _ o o51 e) fun o e => k₁₂ _ o o44 e
  have K₁₂ : ∀ b o, G.get? b = some o → h₁₂.get? b = some o := fun b o e => k₁₂ b o (fun q => by
    have h1 : @LT.lt Nat _ b G.objs.size := Heap.lt_size e
    have h2 := q.1
    omega) (x₁₁.keep b o e)
  refine wpAny_execs_cons ?_
  conv => arg 3; arg 1; whnf
  refine wpAny_Return_some ?_
  refine wpAny_Constant_bool ?_
  exact hQ h₁₂ _ K₁₂ T₁₂
end
end Gy
end

section
open PySem PySem.W PySem.Calls PyProof.Rows
set_option maxRecDepth 100000
namespace Gy
section
variable {prog : Program} {w : World} {A : Around} {E : Value → Shared → Prop} {s : Shared} {env : Env}
theorem subB {value l r : Expr} {op : Operator} {p pos : Pos} {Q : Value → Shared → Prop}
    (h : wpAny (model prog w) A (eval value env) (fun o s₁ => wpAny (model prog w) A (eval (.BinOp l op r p) env) (fun i s₂ => SubscriptOn (model prog w) A o i Q E s₂) E s₁) E s) :
    wpAny (model prog w) A (eval (.Subscript value (.BinOp l op r p) pos) env) Q E s := by
  rw [eval_Subscript]
  refine wpAny_bind (wpAny_mono h (fun o s₁ h₁ => wpAny_bind (wpAny_holding (wpAny_mono h₁ (fun i s₂ h₂ => wpAny_bind (wpAny_standAt ?_)) fun _ _ x => x)))
    fun _ _ x => x)
  obtain ⟨T, id, hl, hT, hg⟩ := h₂
  refine wpAny_bind ?_
  rw [getitemInPython_of_ne hT.not_modules]
  refine wpAny_bind (wpAny_specialOf hT hl ?_)
  have fin : wpAny (model prog w) A (operate [o, i] (getItem o i)) (fun r s₃ => wpAny (model prog w) A (letTemporaryGo value o r >>= fun _ => pure r) Q E s₃) E s₂ :=
    wpAny_operating (wpAny_mono hg (fun r s₃ h₃ => wpAny_bind (wpAny_letTemporaryGo (wpAny_pure h₃))) fun _ _ x => x)
  first
    | exact wpAny_pure (wpAny_bind fin)
    | exact wpAny_bind (wpAny_pure (wpAny_bind fin))
    | exact wpAny_bind fin
theorem lits2 {a b : Int} {k1 k2 : Nat} {p1 p2 p3 : Pos} {Q : Value → Shared → Prop}
    (h : ∀ h' tk D t u, h'.IsList D #[Value.int a t, Value.int b u] → (∀ b o, s.heap.get? b = some o → h'.get? b = some o) → Q (.ref D) { s with heap := h', toks := tk })
    (hs : backTo p2 (starEach [.Constant (.int a) k1 p1, .Constant (.int b) k2 p3] env) = [(false, eval (.Constant (.int a) k1 p1) env), (false, eval (.Constant (.int b) k2 p3) env)] := by rfl) :
    wpAny (model prog w) A (eval (.List [.Constant (.int a) k1 p1, .Constant (.int b) k2 p3] p2) env) Q E s := by
  refine List_ ?_
  rw [hs]
  refine spliced_cons (wpAny_Constant_int (spliced_cons (wpAny_Constant_int (spliced_nil (wpAny_newList ?_ (hsz := by show 2 ≤ sizeLine; decide))))))
  exact h _ _ _ _ _ ⟨_, Heap.get?_push_size _ rfl, rfl, 0, rfl⟩ fun b o e => Heap.get?_push_of_some _ e
end
section
variable {prog : Program} {w : World} {A : Around} {E : Value → Shared → Prop} {s : Shared} {G : Heap} {L fa : Addr} {cd : Value} {m mg mb : Str → Option Value} {cm : Nat → Option Value} {ac cc : Addr} {p lim hi : Int}
set_option maxHeartbeats 1000000 in
theorem line97 {l : Addr} {vs : List Value} {ns : List Int} {Q : Flow → Shared → Prop} (hh : A.handled = none) (TP : Tops G mg mb ac cc) (nsum : mg "sum" = none) (bsum : mb "sum" = some (.builtin "sum")) (hGL : @LE.le Nat _ G.objs.size L)
    (x : LS G L m cm s.heap) (hl : m (Str.ofString "script") = some (.ref l)) (hG : G.IsList l vs.toArray) (hi' : IntsAre vs ns)
    (hQ : ∀ h' tk p t, (p = 7 ∨ p = 11) → LS G L m (fun j => if j = 1 then some (.int p t) else cm j) h' → (∀ b o, b ≠ cA L 1 → s.heap.get? b = some o → h'.get? b = some o) → Q .next { s with heap := h', toks := tk }) :
    wpAny (model prog w) A (exec (st 0) (lawE L fa cd)) Q E s := by
  conv => arg 3; arg 1; whnf
  refine wpAny_Assign_Name (subB (lits2 fun h₁ tk₁ D t u hD k₁ => ?_))
  have x₁ := x.keeps k₁
  have lk : h₁.IsList l vs.toArray := let ⟨o, e, r⟩ := hG; ⟨o, x₁.keep _ _ e, r⟩
  obtain ⟨xs, hxs⟩ := hi'.allInts.items
  rw [hxs] at lk
  refine wpAny_BinOp (cB1 (id := "sum") (fun Q hq => nmB (TP.base.keeps x₁.keep) nsum bsum hq) (nmL x₁.ns hl (sum_intListG hh lk fun h₂ tk₂ t₂ k₂ => ?_)))
  dsimp only at k₂
  refine wpAny_Constant_int (mod_int (by decide) ?_)
  generalize preSum (numAt xs) xs.size = z
  have hD₂ : h₂.IsList D #[Value.int 7 t, Value.int 11 u] := let ⟨o, e, r⟩ := hD; ⟨o, k₂ _ _ e, r⟩
  have x₂ := x₁.keeps k₂
  have hz : z.fmod 2 = 0 ∨ z.fmod 2 = 1 := by
    rw [Int.fmod_eq_emod_of_nonneg _ (by decide)]
    omega
  have fin : ∀ (i : Int) (q : Value) tk r, z.fmod 2 = i → (i = 0 ∨ i = 1) → #[Value.int 7 t, Value.int 11 u][i.toNat]? = some q → (∃ p t, q = .int p t ∧ (p = 7 ∨ p = 11)) → SubscriptOn (model prog w) A (.ref D) (.int (z.fmod 2) r)
      (fun v s₁ => wpAny (model prog w) A (storeName (lawE L fa cd) (Str.ofString "many") v) (fun _ => Q .next) E s₁) E { s with heap := h₂, toks := tk } := by
    rintro i q tk r e hi hq ⟨p, t', rfl, hp⟩
    rw [e]
    refine ⟨"list", "list.__getitem__", slot_list_getitem.lookup, let ⟨o, ho, hc, _⟩ := hD₂; ⟨o, ho, hc⟩, wpAny_getItem_list hD₂ (by omega) (by omega) hq ?_⟩
    exact stC hGL x₂ (k := 1) (by decide) (by decide) fun h₃ x₃ S₃ k₃ => hQ h₃ _ p t' hp x₃ fun b o hb e => k₃ b o hb (k₂ b o (k₁ b o e))
  rcases hz with e | e
  · exact fin 0 _ _ _ e (.inl rfl) rfl ⟨_, _, rfl, .inl rfl⟩
  · exact fin 1 _ _ _ e (.inr rfl) rfl ⟨_, _, rfl, .inr rfl⟩
end
end Gy
end

section
open PySem PySem.W PySem.Calls PyProof.Rows
set_option maxRecDepth 100000
namespace Gy
/-- what the row's own heap tells of a def -/
structure FnK (K : Frag) (x : Str) (n : Nat) (a : Addr) : Prop where
  g : nsIn K mainGlobals x = some (some (.ref a))
  fn : ∃ oc od name qual params body scope dV kV doc pm an cdv ct osl, K.lookup a = some ⟨oc, od, .func (fnOf name qual params body scope dV kV doc pm an cdv ct), osl⟩ ∧ codeIn K cdv qual = true ∧ body = fB n ∧ scope = fS n ∧ params = fP n ∧ dV = .none ∧ kV = .none
theorem FnK.of {K : Frag} {x : Str} {n : Nat} {a : Addr} {oc : Value} {od : Option Addr} {name qual : Str} {params : Arguments} {body : List Stmt} {scope : Scope} {dV kV doc pm cdv ct : Value} {an : Option Addr} {osl : Array (Option Value)}
    (g : nsIn K mainGlobals x = some (some (.ref a))) (o : K.lookup a = some ⟨oc, od, .func (fnOf name qual params body scope dV kV doc pm an cdv ct), osl⟩) (c : codeIn K cdv qual = true) (e1 : body = fB n) (e2 : scope = fS n) (e3 : params = fP n) (e4 : dV = .none) (e5 : kV = .none) : FnK K x n a :=
  ⟨g, _, _, _, _, _, _, _, _, _, _, _, _, _, _, _, o, c, e1, e2, e3, e4, e5⟩
theorem FnK.is {K : Frag} {x : Str} {n : Nat} {a : Addr} {G : Heap} (k : FnK K x n a) (X : K.In G) : FnIs G a n := by
  obtain ⟨_, oc, od, name, qual, params, body, scope, dV, kV, doc, pm, an, cdv, ct, osl, o, c, e1, e2, e3, e4, e5⟩ := k
  subst e1 e2 e3 e4 e5
  exact ⟨_, _, X _ _ o, rfl, rfl, rfl, rfl, rfl, rfl, rfl, rfl, rfl, codeRec_of X c⟩
theorem tops_of {K : Frag} {G : Heap} {pr : Program} {loose : List Str} {mean : ExcName → Option Value} {mg mb : Str → Option Value} {ac cc : Addr} (X : K.In G) (T : Top pr loose mean mg mb G)
    (fa : FnK K "add_callers" 1 ac) (fc : FnK K "count_calls" 2 cc) (fd : FnK K "int_divmod" 10 70)
    (n1 : nsIn K mainGlobals "sorted" = some none) (n2 : nsIn K mainGlobals "dict" = some none) (n3 : nsIn K mainGlobals "range" = some none) (n4 : nsIn K mainGlobals "len" = some none) : Tops G mg mb ac cc where
  base := ⟨T.g, T.b, T.nolimit⟩
  mac := mg_of X T.g fa.g
  mcc := mg_of X T.g fc.g
  mdm := mg_of X T.g fd.g
  fac := fa.is X
  fcc := fc.is X
  fdm := (fd.is X).fn
  nsorted := mg_none_of X T.g n1
  ndict := mg_none_of X T.g n2
  nrange := mg_none_of X T.g n3
  nlen := mg_none_of X T.g n4
  bsorted := (T.builtins _ (by decide)).trans rfl
  bdict := (T.builtins _ (by decide)).trans rfl
  brange := (T.builtins _ (by decide)).trans rfl
  blen := (T.builtins _ (by decide)).trans rfl
/-- the post of the row where the law gives back True -/
theorem good_true {c : ClaimW} {cl : Str → Option Addr} {mean : ExcName → Option Value} {args : List WData} {s₁ s' : Shared} (k : ∀ b o, s₁.heap.get? b = some o → s'.heap.get? b = some o) (hg : s'.gens = #[]) (hn : ∀ cls, c.raises args cls = false) (hp : c.post args (.bool true) args = true) (hos : s'.os = s₁.os) :
    GoodW c cl mean args s₁ (.ok (.ret (.bool true))) s' := ⟨.inl ⟨_, _, _, rfl, hn, .bool true, hp, unshared_nil⟩, k, hos, hg⟩
set_option maxHeartbeats 1000000 in
theorem law_all {w : World} {G : Heap} {L fa ac cc l : Addr} {cd : Value} {mg mb m : Str → Option Value} {K : Frag} {pr : Program} {loose : List Str} {mean : ExcName → Option Value} {prog : Program} {s : Shared} {P : Flow → Shared → Prop} {E : Value → Shared → Prop} {vs : List Value} {ns : List Int}
    {o1 o2 o3 o4 o5 o6 : Obj} {v1 v2 v3 v4 v5 v6 : Option Value}
    (X : K.In G) (T : Top pr loose mean mg mb G) (F : Fr G L s.heap m)
    (N : News G L s.heap [(L + 1 + 1 + 1 + 1 + 1 + 1, o6), (L + 1 + 1 + 1 + 1 + 1, o5), (L + 1 + 1 + 1 + 1, o4), (L + 1 + 1 + 1, o3), (L + 1 + 1, o2), (L + 1, o1), (51, tabObj #[]), (44, tabObj #[])])
    (d1 : o1.data = .cell v1) (d2 : o2.data = .cell v2) (d3 : o3.data = .cell v3) (d4 : o4.data = .cell v4) (d5 : o5.data = .cell v5) (d6 : o6.data = .cell v6) (hlt : 51 < L ∧ 44 < L)
    (k1 : FnK K "add_callers" 1 ac) (k2 : FnK K "count_calls" 2 cc) (k3 : FnK K "int_divmod" 10 70) (n0 : nsIn K mainGlobals "sum" = some none)
    (n1 : nsIn K mainGlobals "sorted" = some none) (n2 : nsIn K mainGlobals "dict" = some none) (n3 : nsIn K mainGlobals "range" = some none) (n4 : nsIn K mainGlobals "len" = some none)
    (hl : m (Str.ofString "script") = some (.ref l)) (hG : G.IsList l vs.toArray) (hi : IntsAre vs ns) (hsz : ¬ (63 : Int) < ns.length)
    (DE7 : DmE prog w (callerA.deeper (lawE L fa cd)) G L 7 1 2) (DH7 : DmH prog w (callerA.deeper (lawE L fa cd)) G L 7 1 8) (DL7 : DmH prog w (callerA.deeper (lawE L fa cd)) G L 7 8 64)
    (DE11 : DmE prog w (callerA.deeper (lawE L fa cd)) G L 11 1 2) (DH11 : DmH prog w (callerA.deeper (lawE L fa cd)) G L 11 1 16) (DL11 : DmH prog w (callerA.deeper (lawE L fa cd)) G L 11 16 128)
    (hP : ∀ h tk, (∀ b o, G.get? b = some o → h.get? b = some o) → Tabs h → P (.ret (.bool true)) { s with heap := h, toks := tk }) :
    wpAny (model prog w) (callerA.deeper (lawE L fa cd)) (execs (fB 12) (lawE L fa cd)) P E s := by
  have TP : Tops G mg mb ac cc := tops_of X T k1 k2 k3 n1 n2 n3 n4
  have hGL : @LE.le Nat _ G.objs.size L := F.above
  have x : LS G L m (fun j => if j = 1 then v1 else if j = 2 then v2 else if j = 3 then v3 else if j = 4 then v4 else if j = 5 then v5 else v6) s.heap := by
    refine ⟨F.ns, fun k h1 h2 => ?_, F.keep⟩
    obtain rfl | rfl | rfl | rfl | rfl | rfl : k = 1 ∨ k = 2 ∨ k = 3 ∨ k = 4 ∨ k = 5 ∨ k = 6 := by omega
    · exact ⟨o1, (N _ (.tail _ (.tail _ (.tail _ (.tail _ (.tail _ (.head _))))))).1, d1⟩
    · exact ⟨o2, (N _ (.tail _ (.tail _ (.tail _ (.tail _ (.head _)))))).1, d2⟩
    · exact ⟨o3, (N _ (.tail _ (.tail _ (.tail _ (.head _))))).1, d3⟩
    · exact ⟨o4, (N _ (.tail _ (.tail _ (.head _)))).1, d4⟩
    · exact ⟨o5, (N _ (.tail _ (.head _))).1, d5⟩
    · exact ⟨o6, (N _ (.head _)).1, d6⟩
  have N51 := N (51, tabObj #[]) (.tail _ (.tail _ (.tail _ (.tail _ (.tail _ (.tail _ (.head _)))))))
  have N44 := N (44, tabObj #[]) (.tail _ (.tail _ (.tail _ (.tail _ (.tail _ (.tail _ (.tail _ (.head _))))))))
  have hd : (callerA.deeper (lawE L fa cd)).depth < recursionLimit := by show 1 + claimMargin + 1 < recursionLimit; decide
  have hu : (callerA.deeper (lawE L fa cd)).units + 64 < cLine := by show 4 + 3 + 64 < cLine; decide
  have hh : (callerA.deeper (lawE L fa cd)).handled = none := rfl
  have hv : vs.length ≤ 1000 := by rw [hi.length]; omega
  rw [stmts]
  refine wpAny_execs_cons (line97 hh TP (mg_none_of X T.g n0) ((T.builtins _ (by decide)).trans rfl) hGL x hl hG hi fun h₁ tk₁ p t hp x₁ k₁ => ?_)
  have n51 : (51 : Addr) ≠ cA L 1 := fun q => absurd hlt.1 (Nat.not_lt_of_le (show @LE.le Nat _ L 51 from q ▸ Nat.le_add_right ..))
  have n44 : (44 : Addr) ≠ cA L 1 := fun q => absurd hlt.2 (Nat.not_lt_of_le (show @LE.le Nat _ L 44 from q ▸ Nat.le_add_right ..))
  rcases hp with rfl | rfl
  · refine law_rest (lim := 8) (hi := 64) (s := { s with heap := h₁, toks := tk₁ }) hd hu hh TP ⟨DE7, DH7, DL7, N51.2.2, N44.2.2, hlt.1, hlt.2⟩ hGL (.inl rfl) (by decide) (by decide) x₁ rfl hl hG hi hv (k₁ _ _ n51 N51.1) (k₁ _ _ n44 N44.1) hP
  · refine law_rest (lim := 16) (hi := 128) (s := { s with heap := h₁, toks := tk₁ }) hd hu hh TP ⟨DE11, DH11, DL11, N51.2.2, N44.2.2, hlt.1, hlt.2⟩ hGL (.inr rfl) (by decide) (by decide) x₁ rfl hl hG hi hv (k₁ _ _ n51 N51.1) (k₁ _ _ n44 N44.1) hP
end Gy
end

section
open PySem PySem.W PySem.Calls PyProof.Rows
set_option maxRecDepth 100000
namespace Gy
/-- an equation that omega does not see -/
def Is (z e : Int) : Prop := z = e
section
variable {prog : Program} {w : World} {A : Around} {E : Value → Shared → Prop} {s : Shared} {Q : Value → Shared → Prop} {a : Int} {t : Tok}
/-- bit_length of an int of one digit, of two, of any in sight -/
theorem bl8 (h1 : 1 ≤ a) (h2 : a < 8) (h : ∀ n : Int, 1 ≤ n → n ≤ 3 → Q (.int n s.toks) { s with toks := s.toks + 1 }) : wpAny (model prog w) A (call (.builtin "int.bit_length") [.int a t]) Q E s :=
  blS (Int.le_trans (by decide) h1) (Int.lt_trans h2 (by decide)) fun n _ _ g1 g2 _ _ _ _ _ => h n (g1 h1) (g2 h2)
theorem bl16 (h1 : 1 ≤ a) (h2 : a < 16) (h : ∀ n : Int, 1 ≤ n → n ≤ 4 → Q (.int n s.toks) { s with toks := s.toks + 1 }) : wpAny (model prog w) A (call (.builtin "int.bit_length") [.int a t]) Q E s :=
  blS (Int.le_trans (by decide) h1) (Int.lt_trans h2 (by decide)) fun n _ _ g1 _ g2 _ _ _ _ => h n (g1 h1) (g2 h2)
theorem bl64 (h1 : 8 ≤ a) (h2 : a < 64) (h : ∀ n : Int, 4 ≤ n → n ≤ 6 → Q (.int n s.toks) { s with toks := s.toks + 1 }) : wpAny (model prog w) A (call (.builtin "int.bit_length") [.int a t]) Q E s :=
  blS (Int.le_trans (by decide) h1) (Int.lt_trans h2 (by decide)) fun n _ _ _ _ _ g1 _ g2 _ => h n (g1 h1) (g2 h2)
theorem bl128 (h1 : 16 ≤ a) (h2 : a < 128) (h : ∀ n : Int, 5 ≤ n → n ≤ 7 → Q (.int n s.toks) { s with toks := s.toks + 1 }) : wpAny (model prog w) A (call (.builtin "int.bit_length") [.int a t]) Q E s :=
  blS (Int.le_trans (by decide) h1) (Int.lt_trans h2 (by decide)) fun n _ _ _ _ _ _ g1 _ g2 => h n (g1 h1) (g2 h2)
theorem bl20 (h1 : 0 ≤ a) (h2 : a < 256) (h : ∀ n : Int, 0 ≤ n → n ≤ 20 → Q (.int n s.toks) { s with toks := s.toks + 1 }) : wpAny (model prog w) A (call (.builtin "int.bit_length") [.int a t]) Q E s :=
  blS h1 h2 fun n g1 g2 _ _ _ _ _ _ _ => h n g1 g2
end
/-- the divisor, its bits, two to its bits, a bound of two digits -/
def HB (b n m k : Int) : Prop := (b = 7 ∧ n = 3 ∧ m = 8 ∧ k = 64) ∨ (b = 11 ∧ n = 4 ∧ m = 16 ∧ k = 128)
theorem HB.bnds {b n m k : Int} (h : HB b n m k) : (7 ≤ b ∧ b ≤ 11) ∧ (3 ≤ n ∧ n ≤ 4) ∧ (8 ≤ m ∧ m ≤ 16) ∧ (64 ≤ k ∧ k ≤ 128) := by
  rcases h with ⟨rfl, rfl, rfl, rfl⟩ | ⟨rfl, rfl, rfl, rfl⟩ <;> decide
section
variable {prog : Program} {w : World} {A : Around} {E : Value → Shared → Prop} {s : Shared} {Q : Value → Shared → Prop} {a b n m k e c y : Int} {t u : Tok}
theorem eqF (h : a ≠ b) (hQ : Q (.bool false) s) : wpAny (model prog w) A (compareOp .Eq (.int a t) (.int b u)) Q E s := by
  refine PyProof.Rows.eq_int ?_
  rw [show (a == b) = false from beq_eq_false_iff_ne.mpr h]; exact hQ
theorem blB (h : HB b n m k) (hQ : Q (.int n s.toks) { s with toks := s.toks + 1 }) : wpAny (model prog w) A (call (.builtin "int.bit_length") [.int b t]) Q E s := by
  rcases h with ⟨rfl, rfl, rfl, rfl⟩ | ⟨rfl, rfl, rfl, rfl⟩
  · exact bl 3 (by decide) hQ
  · exact bl 4 (by decide) hQ
theorem blD1 (h : HB b n m k) (h1 : 1 ≤ a) (h2 : a < m) (hQ : ∀ c : Int, 1 ≤ c → c ≤ n → Q (.int c s.toks) { s with toks := s.toks + 1 }) : wpAny (model prog w) A (call (.builtin "int.bit_length") [.int a t]) Q E s := by
  rcases h with ⟨rfl, rfl, rfl, rfl⟩ | ⟨rfl, rfl, rfl, rfl⟩
  · exact bl8 h1 h2 hQ
  · exact bl16 h1 h2 hQ
theorem fdE (h : HB b n m k) (h1 : 1 ≤ c) (h2 : c ≤ n) (hQ : Q (.int 1 s.toks) { s with toks := s.toks + 1 }) : wpAny (model prog w) A (binaryOp .FloorDiv (.int (c + n - 1) t) (.int n u)) Q E s := by
  obtain ⟨_, ⟨_, _⟩, _⟩ := h.bnds
  refine floordiv_int (by omega) ?_ (.inl (PyProof.noPylong_small (by omega)))
  have e : (c + n - 1).fdiv n = 1 := by
    rw [Int.fdiv_eq_ediv_of_nonneg _ (by omega)]
    have g1 : 1 ≤ (c + n - 1) / n := Int.le_ediv_of_mul_le (by omega) (by omega)
    have g2 : (c + n - 1) / n < 2 := Int.ediv_lt_of_lt_mul (by omega) (by omega)
    omega
  rw [e]; exact hQ
theorem fdLG (h : HB b n m k) (h1 : n + 1 ≤ c) (h2 : c ≤ 2 * n) (hQ : Q (.int 2 s.toks) { s with toks := s.toks + 1 }) : wpAny (model prog w) A (binaryOp .FloorDiv (.int (c + n - 1) t) (.int n u)) Q E s := by
  obtain ⟨_, ⟨_, _⟩, _⟩ := h.bnds
  refine floordiv_int (by omega) ?_ (.inl (PyProof.noPylong_small (by omega)))
  have e : (c + n - 1).fdiv n = 2 := by
    rw [Int.fdiv_eq_ediv_of_nonneg _ (by omega)]
    have g1 : 2 ≤ (c + n - 1) / n := Int.le_ediv_of_mul_le (by omega) (by omega)
    have g2 : (c + n - 1) / n < 3 := Int.ediv_lt_of_lt_mul (by omega) (by omega)
    omega
  rw [e]; exact hQ
theorem blD2 (h : HB b n m k) (h1 : m ≤ a) (h2 : a < k) (hQ : ∀ c : Int, n + 1 ≤ c → c ≤ 2 * n → Q (.int c s.toks) { s with toks := s.toks + 1 }) : wpAny (model prog w) A (call (.builtin "int.bit_length") [.int a t]) Q E s := by
  rcases h with ⟨rfl, rfl, rfl, rfl⟩ | ⟨rfl, rfl, rfl, rfl⟩
  · exact bl64 h1 h2 fun c e1 e2 => hQ c e1 e2
  · exact bl128 h1 h2 fun c e1 e2 => hQ c e1 (Int.le_trans e2 (by decide))
theorem rshI (k m : Int) (h0 : 0 ≤ a) (hn : n = k) (hk : 0 ≤ k) (hm : (2 : Int) ^ k.toNat = m) (hm1 : 1 ≤ m) (hQ : ∀ z, Is z (a / m) → 0 ≤ z → z ≤ a → Q (.int z s.toks) { s with toks := s.toks + 1 }) : wpAny (model prog w) A (binaryOp .RShift (.int a t) (.int n u)) Q E s :=
  rsh k m h0 hn hk hm fun z e => hQ z e (e ▸ Int.ediv_nonneg h0 (Int.le_trans (by decide) hm1)) (e ▸ Int.ediv_le_self _ h0)
theorem lshI (k m : Int) (h0 : 0 ≤ a) (h1 : a < 2 ^ 20) (hn : n = k) (hk : 0 ≤ k) (hk2 : k ≤ 1000000) (hm : (2 : Int) ^ k.toNat = m) (hm1 : 0 ≤ m) (hQ : ∀ z, Is z (a * m) → 0 ≤ z → z ≤ m * a → Q (.int z s.toks) { s with toks := s.toks + 1 }) : wpAny (model prog w) A (binaryOp .LShift (.int a t) (.int n u)) Q E s :=
  lsh k m h0 h1 hn hk hk2 hm fun z e => hQ z e (e ▸ Int.mul_nonneg h0 hm1) (by rw [e, Int.mul_comm]; exact Int.le_refl _)
theorem xorI (m : Int) (hm : m = 8 ∨ m = 16) (h0 : 0 ≤ a) (h1 : a < 128) (e1 : Is y (c * m)) (e2 : Is c (a / m)) (hQ : ∀ z, Is z (a % m) → 0 ≤ z → z < m → Q (.int z s.toks) { s with toks := s.toks + 1 }) : wpAny (model prog w) A (binaryOp .BitXor (.int a t) (.int y u)) Q E s :=
  xorS m hm h0 h1 (by rw [show y = c * m from e1, show c = a / m from e2]) fun z e => hQ z e (e ▸ Int.emod_nonneg _ (by rcases hm with rfl | rfl <;> decide)) (e ▸ Int.emod_lt_of_pos _ (by rcases hm with rfl | rfl <;> decide))
theorem divI {h₀ : Heap} {L : Addr} {mf : Str → Option Value} {news : List (Addr × Obj)} (c : Int) (hc : 0 < c) (hc2 : c < 2 ^ 20) (h0 : 0 ≤ a) (h1 : a < 2 ^ 20) (F : Fr h₀ L s.heap mf) (N : News h₀ L s.heap news)
    (hQ : ∀ q r D h', Is q (a / c) → Is r (a % c) → 0 ≤ q → q ≤ a → 0 ≤ r → r < c → Fr h₀ L h' mf → News h₀ L h' ((D, { cls := .type "tuple", data := .seq #[.int q s.toks, .int r (s.toks + 1)] }) :: news) → (∀ p ∈ news, p.1 < D) → Q (.ref D) { s with toks := s.toks + 1 + 1, heap := h' }) :
    wpAny (model prog w) A (call (.builtin "divmod") [.int a t, .int c u]) Q E s :=
  divmod_S c rfl hc hc2 h0 h1 F N fun q r D h' e1 e2 => hQ q r D h' e1 e2 (e1 ▸ Int.ediv_nonneg h0 (Int.le_of_lt hc)) (e1 ▸ Int.ediv_le_self _ h0) (e2 ▸ Int.emod_nonneg _ (Int.ne_of_gt hc)) (e2 ▸ Int.emod_lt_of_pos _ hc)
theorem rshG (h : HB b n m k) (h0 : 0 ≤ a) (hn : e = n) (hQ : ∀ z, Is z (a / m) → 0 ≤ z → z ≤ a → Q (.int z s.toks) { s with toks := s.toks + 1 }) : wpAny (model prog w) A (binaryOp .RShift (.int a t) (.int e u)) Q E s := by
  rcases h with ⟨rfl, rfl, rfl, rfl⟩ | ⟨rfl, rfl, rfl, rfl⟩
  · exact rshI 3 8 h0 hn (by decide) (by decide) (by decide) hQ
  · exact rshI 4 16 h0 hn (by decide) (by decide) (by decide) hQ
theorem lshG (h : HB b n m k) (h0 : 0 ≤ a) (h1 : a < 2 ^ 15) (hn : e = n) (hQ : ∀ z, Is z (a * m) → 0 ≤ z → z ≤ 16 * a → Q (.int z s.toks) { s with toks := s.toks + 1 }) : wpAny (model prog w) A (binaryOp .LShift (.int a t) (.int e u)) Q E s := by
  rcases h with ⟨rfl, rfl, rfl, rfl⟩ | ⟨rfl, rfl, rfl, rfl⟩
  · exact lshI 3 8 h0 (by omega) hn (by decide) (by decide) (by decide) (by decide) fun z e g1 g2 => hQ z e g1 (by omega)
  · exact lshI 4 16 h0 (by omega) hn (by decide) (by decide) (by decide) (by decide) fun z e g1 g2 => hQ z e g1 g2
theorem xorG (h : HB b n m k) (h0 : 0 ≤ a) (h1 : a < 128) (e1 : Is y (c * m)) (e2 : Is c (a / m)) (hQ : ∀ z, Is z (a % m) → 0 ≤ z → z < m → Q (.int z s.toks) { s with toks := s.toks + 1 }) : wpAny (model prog w) A (binaryOp .BitXor (.int a t) (.int y u)) Q E s := by
  rcases h with ⟨rfl, rfl, rfl, rfl⟩ | ⟨rfl, rfl, rfl, rfl⟩
  · exact xorI 8 (.inl rfl) h0 h1 e1 e2 hQ
  · exact xorI 16 (.inr rfl) h0 h1 e1 e2 hQ
theorem divmod_G {h₀ : Heap} {L : Addr} {mf : Str → Option Value} {news : List (Addr × Obj)} (h : HB b n m k) (h0 : 0 ≤ a) (h1 : a < 2 ^ 20) (F : Fr h₀ L s.heap mf) (N : News h₀ L s.heap news)
    (hQ : ∀ q r D h', Is q (a / b) → Is r (a % b) → 0 ≤ q → q ≤ a → 0 ≤ r → r < b → Fr h₀ L h' mf → News h₀ L h' ((D, { cls := .type "tuple", data := .seq #[.int q s.toks, .int r (s.toks + 1)] }) :: news) → (∀ p ∈ news, p.1 < D) → Q (.ref D) { s with toks := s.toks + 1 + 1, heap := h' }) :
    wpAny (model prog w) A (call (.builtin "divmod") [.int a t, .int b u]) Q E s := by
  rcases h with ⟨rfl, rfl, rfl, rfl⟩ | ⟨rfl, rfl, rfl, rfl⟩
  · exact divI 7 (by decide) (by decide) h0 h1 F N hQ
  · exact divI 11 (by decide) (by decide) h0 h1 F N hQ
end
theorem oneMul {x n : Int} (h : x = 1) : x * n = n := by rw [h, Int.one_mul]
/-- addresses told apart by their making -/
theorem ltA {x d : Nat} {o : Obj} {l : List (Addr × Obj)} (h : ∀ p ∈ l, @LT.lt Nat _ p.1 d) (m : (x, o) ∈ l) : x < d := h _ m
theorem law_all3 {w : World} {G : Heap} {L fa ac cc l : Addr} {cd : Value} {mg mb m : Str → Option Value} {K : Frag} {pr : Program} {loose : List Str} {mean : ExcName → Option Value} {prog : Program} {s : Shared} {P : Flow → Shared → Prop} {E : Value → Shared → Prop} {vs : List Value} {ns : List Int}
    {o1 o2 o3 o4 o5 o6 : Obj} {v1 v2 v3 v4 v5 v6 : Option Value}
    (X : K.In G) (T : Top pr loose mean mg mb G) (F : Fr G L s.heap m)
    (N : News G L s.heap [(L + 1 + 1 + 1 + 1 + 1 + 1, o6), (L + 1 + 1 + 1 + 1 + 1, o5), (L + 1 + 1 + 1 + 1, o4), (L + 1 + 1 + 1, o3), (L + 1 + 1, o2), (L + 1, o1), (51, tabObj #[]), (44, tabObj #[])])
    (d1 : o1.data = .cell v1) (d2 : o2.data = .cell v2) (d3 : o3.data = .cell v3) (d4 : o4.data = .cell v4) (d5 : o5.data = .cell v5) (d6 : o6.data = .cell v6) (hlt : 51 < L ∧ 44 < L)
    (k1 : FnK K "add_callers" 1 ac) (k2 : FnK K "count_calls" 2 cc) (k3 : FnK K "int_divmod" 10 70) (n0 : nsIn K mainGlobals "sum" = some none)
    (n1 : nsIn K mainGlobals "sorted" = some none) (n2 : nsIn K mainGlobals "dict" = some none) (n3 : nsIn K mainGlobals "range" = some none) (n4 : nsIn K mainGlobals "len" = some none)
    (hl : m (Str.ofString "script") = some (.ref l)) (hG : G.IsList l vs.toArray) (hi : IntsAre vs ns) (hsz : ¬ (63 : Int) < ns.length)
    (DE : ∀ b n m k, HB b n m k → DmE prog w (callerA.deeper (lawE L fa cd)) G L b 1 2) (DH : ∀ b n m k, HB b n m k → DmH prog w (callerA.deeper (lawE L fa cd)) G L b 1 m) (DL : ∀ b n m k, HB b n m k → DmH prog w (callerA.deeper (lawE L fa cd)) G L b m k)
    (hP : ∀ h tk, (∀ b o, G.get? b = some o → h.get? b = some o) → Tabs h → P (.ret (.bool true)) { s with heap := h, toks := tk }) :
    wpAny (model prog w) (callerA.deeper (lawE L fa cd)) (execs (fB 12) (lawE L fa cd)) P E s :=
  have q7 : HB 7 3 8 64 := .inl ⟨rfl, rfl, rfl, rfl⟩
  have q11 : HB 11 4 16 128 := .inr ⟨rfl, rfl, rfl, rfl⟩
  law_all X T F N d1 d2 d3 d4 d5 d6 hlt k1 k2 k3 n0 n1 n2 n3 n4 hl hG hi hsz (DE _ _ _ _ q7) (DH _ _ _ _ q7) (DL _ _ _ _ q7) (DE _ _ _ _ q11) (DH _ _ _ _ q11) (DL _ _ _ _ q11) hP
end Gy
end

open PySem PySem.W PyProof.Rows
local macro_rules | `(tactic| walk_at "call builtin:int.bit_length") => `(tactic| first | refine Gy.blB (by with_reducible assumption) ?_ | with_reducible refine Gy.bl 1 (by decide) ?_ | (refine Gy.blD1 (by with_reducible assumption) (by with_reducible assumption) (by with_reducible assumption) ?_; intro n' _ _) | (refine Gy.blD2 (by with_reducible assumption) (by with_reducible assumption) (by with_reducible assumption) ?_; intro n' _ _) | (refine Gy.bl20 (by omega) (by omega) ?_; intro n' _ _))
local macro_rules | `(tactic| k_lt $h) => `(tactic| (have hL := $h; replace $h := allLt_of $h; simp only [AllLt, and_true] at $h:ident))
local macro_rules | `(tactic| k_ne) => `(tactic| (refine neN ?_; (try dsimp only); first | (refine Nat.ne_of_lt ?_; (repeat refine Nat.lt_succ_of_lt ?_); exact Gy.ltA (by with_reducible assumption) (by k_mem)) | (refine Nat.ne_of_gt ?_; (repeat refine Nat.lt_succ_of_lt ?_); exact Gy.ltA (by with_reducible assumption) (by k_mem)) | omega))
local macro_rules | `(tactic| size_fits) => `(tactic| exact Nat.le_of_ble_eq_true rfl)
local macro_rules | `(tactic| walk_at "binaryOp FloorDiv int int") => `(tactic| first | refine Gy.fdE (by with_reducible assumption) (by first | with_reducible assumption | omega) (by first | with_reducible assumption | omega) ?_ | refine Gy.fdLG (by with_reducible assumption) (by with_reducible assumption) (by with_reducible assumption) ?_)
local macro_rules | `(tactic| walk_at "binaryOp RShift int int") => `(tactic| (refine Gy.rshG (by with_reducible assumption) (by first | with_reducible assumption | omega) (by first | exact rfl | exact Gy.oneMul (by decide) | omega) ?_; intro z' _ _ _))
local macro_rules | `(tactic| walk_at "binaryOp LShift int int") => `(tactic| (refine Gy.lshG (by with_reducible assumption) (by first | with_reducible assumption | omega) (by omega) (by first | exact rfl | exact Gy.oneMul (by decide) | omega) ?_; intro z' _ _ _))
local macro_rules | `(tactic| walk_at "binaryOp BitXor int int") => `(tactic| (refine Gy.xorG (by with_reducible assumption) (by first | with_reducible assumption | omega) (by omega) (by with_reducible assumption) (by with_reducible assumption) ?_; intro z' _ _ _))
local macro_rules | `(tactic| walk_at "compareOp Eq int int") => `(tactic| refine Gy.eqF (by omega) ?_)
local macro_rules | `(tactic| walk_at "truthy int") => `(tactic| (with_reducible refine Gy.truthy_pos (by omega) ?_))
local macro_rules | `(tactic| walk_at "call builtin:divmod") => `(tactic| (k_dflt (refine' Gy.divmod_G ?gyH (by omega) (by omega) ?gyF ?gyN ?_; (case gyH => with_reducible assumption); (case gyF => k_asm); (case gyN => k_asm)); intro q' r' D' h' _ _ _ _ _ _ F' N' l1; (try k_lt l1); (try k_sweep)))
set_option maxRecDepth 100000 in
set_option maxHeartbeats 40000000 in
theorem PySem.Challenge.cw_gy0002_01_holds : PySem.Challenge.rw_gy0002_01.Holds := by
  (w_on; o_law; k_head; (case hw => w_witness2); w_strict (k_go0; (refine' Gy.law_all3 ?gyX ?gyT ?gyF ?gyN ?gd1 ?gd2 ?gd3 ?gd4 ?gd5 ?gd6 ?glt ?gk1 ?gk2 ?gk3 ?gn0 ?gn1 ?gn2 ?gn3 ?gn4 ?ghl ?ghG ?ghi ?ghs ?gyE ?gyH ?gyL ?gP; (case gyX => k_asm); (case gyT => k_asm); (case gyF => k_asm); (case gyN => k_asm); (case gd1 => assumption); (case gd2 => assumption); (case gd3 => assumption); (case gd4 => assumption); (case gd5 => assumption); (case gd6 => assumption); (case glt => assumption); (case gk1 => (refine' Gy.FnK.of ?g1 ?o1 ?c1 ?b1 ?b2 ?b3 ?b4 ?b5; (case g1 => k_is); (case o1 => k_is); (case c1 => k_is); (case b1 => exact rfl); (case b2 => exact rfl); (case b3 => exact rfl); (case b4 => exact rfl); (case b5 => exact rfl))); (case gk2 => (refine' Gy.FnK.of ?g1 ?o1 ?c1 ?b1 ?b2 ?b3 ?b4 ?b5; (case g1 => k_is); (case o1 => k_is); (case c1 => k_is); (case b1 => exact rfl); (case b2 => exact rfl); (case b3 => exact rfl); (case b4 => exact rfl); (case b5 => exact rfl))); (case gk3 => (refine' Gy.FnK.of ?g1 ?o1 ?c1 ?b1 ?b2 ?b3 ?b4 ?b5; (case g1 => k_is); (case o1 => k_is); (case c1 => k_is); (case b1 => exact rfl); (case b2 => exact rfl); (case b3 => exact rfl); (case b4 => exact rfl); (case b5 => exact rfl))); (case gn0 => k_is); (case gn1 => k_is); (case gn2 => k_is); (case gn3 => k_is); (case gn4 => k_is); (case ghl => exact rfl); (case ghG => assumption); (case ghi => assumption); (case ghs => assumption); (case gP => (intro h9 tk9 k9 t9; (try dsimp only); (refine' And.intro (Gy.good_true k9 ?gg (raisesW_false ?gr) ?gp rfl) (And.intro t9.1 (And.intro t9.2 True.intro)); (case gg => assumption); (case gr => wrow_none_raised); (case gp => first | kc_post | wrow_post))))); (case gyE => intro b8 n8 m8 k8 hB8; obtain ⟨⟨_, _⟩, ⟨_, _⟩, ⟨_, _⟩, ⟨_, _⟩⟩ := Gy.HB.bnds hB8; unfold Gy.DmE; intro s9 m9 R9 E9 a9 t9 u9 F9 N9 lo9 hi9 hR9; obtain rfl : a9 = 1 := (by omega); clear lo9 hi9; obtain ⟨h9s, g9s, d9s, k9s, o9s⟩ := s9; (refine' Gy.dm_enter ?gy1 F9 ?gy3 N9 ?gy5 ?gyA ?gyF ?gyK ?gy6 ?gy7 ?gy8 ?gy9 ?gyB ?_ ?gc2 ?gc3 ?gc4 ?gc5; (case gyA => exact rfl); (case gyF => exact rfl); (case gyK => exact rfl); (case gy1 => k_asm); (case gy3 => k_asm); (case gy5 => k_asm); (case gy6 => k_is); (case gy7 => k_is); (case gy8 => k_room); (case gy9 => exact BindsTo.of_eq rfl); (case gc5 => decide); (case gyB => exact locs rfl); (case gc2 => exact rfl); (case gc3 => exact rfl); (case gc4 => exact rfl)); intro g9 L9 h9 FA9 NA9 BA9 XA9 TA9 GS9 l9 sz9; (try k_lt l9); (try dsimp only); (try k_lift BA9); (try k_fold);k_steps; (rename News g9 L9 _ _ => kN9); (rename Fr g9 L9 _ _ => kF9); (refine' Gy.dm_fin hR9 GS9 ?gad kF9 kN9 ?gmD ?ghr ?gm44 ?gm51 ?gmc ?gmd ?ge1 ?ge2 ?ge3 ?ge4 ?glc (Below.stays BA9) F9 ?gcd); (case gmD => k_mem); (case ghr => (unfold Gy.Is at *; unfold Gy.HB at hB8; rcases hB8 with ⟨e1, e2, e3, e4⟩ | ⟨e1, e2, e3, e4⟩ <;> subst e1 e2 e3 e4 <;> omega)); (case gm44 => k_mem); (case gm51 => k_mem); (case gmc => k_mem); (case gmd => k_mem); (case ge1 => assumption); (case ge2 => assumption); (case ge3 => assumption); (case ge4 => assumption); (case glc => exact ⟨by omega, by omega, by omega⟩); (case gcd => (intro hb; obtain ⟨p9, hp9, q9⟩ := List.mem_map.mp hb; exact (N9 p9 hp9).2.1 q9)); (case gad => (intro b hb; rcases List.mem_cons.mp hb with hb | hb; exact Or.inl hb; exact Or.inr (Or.inl (List.mem_singleton.mp hb))))); (case gyH => intro b8 n8 m8 k8 hB8; obtain ⟨⟨_, _⟩, ⟨_, _⟩, ⟨_, _⟩, ⟨_, _⟩⟩ := Gy.HB.bnds hB8; unfold Gy.DmH; intro s9 m9 R9 E9 a9 t9 u9 c9 d9 oc9 od9 vc9 vd9 tc9 td9 F9 N9 ec1 ec2 ed1 ed2 lc9 lo9 hi9 hR9; obtain ⟨h9s, g9s, d9s, k9s, o9s⟩ := s9; (refine' Gy.dm_enter ?gy1 F9 ?gy3 N9 ?gy5 ?gyA ?gyF ?gyK ?gy6 ?gy7 ?gy8 ?gy9 ?gyB ?_ ?gc2 ?gc3 ?gc4 ?gc5; (case gyA => exact rfl); (case gyF => exact rfl); (case gyK => exact rfl); (case gy1 => k_asm); (case gy3 => k_asm); (case gy5 => k_asm); (case gy6 => k_is); (case gy7 => k_is); (case gy8 => k_room); (case gy9 => exact BindsTo.of_eq rfl); (case gc5 => decide); (case gyB => exact locs rfl); (case gc2 => exact rfl); (case gc3 => exact rfl); (case gc4 => exact rfl)); intro g9 L9 h9 FA9 NA9 BA9 XA9 TA9 GS9 l9 sz9; (try k_lt l9); (try dsimp only); (try k_lift BA9); (try k_fold);k_steps; (rename News g9 L9 _ _ => kN9); (rename Fr g9 L9 _ _ => kF9); (refine' Gy.dm_fin hR9 GS9 ?gad kF9 kN9 ?gmD ?ghr ?gm44 ?gm51 ?gmc ?gmd ?ge1 ?ge2 ?ge3 ?ge4 ?glc (Below.stays BA9) F9 ?gcd); (case gmD => k_mem); (case ghr => (unfold Gy.Is at *; unfold Gy.HB at hB8; rcases hB8 with ⟨e1, e2, e3, e4⟩ | ⟨e1, e2, e3, e4⟩ <;> subst e1 e2 e3 e4 <;> omega)); (case gm44 => k_mem); (case gm51 => k_mem); (case gmc => k_mem); (case gmd => k_mem); (case ge1 => assumption); (case ge2 => assumption); (case ge3 => assumption); (case ge4 => assumption); (case glc => exact ⟨by omega, by omega, by omega⟩); (case gcd => (intro hb; obtain ⟨p9, hp9, q9⟩ := List.mem_map.mp hb; exact (N9 p9 hp9).2.1 q9)); (case gad => (intro b hb; rcases List.mem_cons.mp hb with hb | hb; exact Or.inr (Or.inr ⟨_, by (rw [hb]; k_mem), by (rw [hb]; exact (N9 _ (.head _)).1)⟩); rcases List.mem_cons.mp hb with hb | hb; exact Or.inr (Or.inr ⟨_, by (rw [hb]; k_mem), by (rw [hb]; exact (N9 _ (.tail _ (.head _))).1)⟩); rcases List.mem_cons.mp hb with hb | hb; exact Or.inl hb; exact Or.inr (Or.inl (List.mem_singleton.mp hb))))); (case gyL => intro b8 n8 m8 k8 hB8; obtain ⟨⟨_, _⟩, ⟨_, _⟩, ⟨_, _⟩, ⟨_, _⟩⟩ := Gy.HB.bnds hB8; unfold Gy.DmH; intro s9 m9 R9 E9 a9 t9 u9 c9 d9 oc9 od9 vc9 vd9 tc9 td9 F9 N9 ec1 ec2 ed1 ed2 lc9 lo9 hi9 hR9; obtain ⟨h9s, g9s, d9s, k9s, o9s⟩ := s9; (refine' Gy.dm_enter ?gy1 F9 ?gy3 N9 ?gy5 ?gyA ?gyF ?gyK ?gy6 ?gy7 ?gy8 ?gy9 ?gyB ?_ ?gc2 ?gc3 ?gc4 ?gc5; (case gyA => exact rfl); (case gyF => exact rfl); (case gyK => exact rfl); (case gy1 => k_asm); (case gy3 => k_asm); (case gy5 => k_asm); (case gy6 => k_is); (case gy7 => k_is); (case gy8 => k_room); (case gy9 => exact BindsTo.of_eq rfl); (case gc5 => decide); (case gyB => exact locs rfl); (case gc2 => exact rfl); (case gc3 => exact rfl); (case gc4 => exact rfl)); intro g9 L9 h9 FA9 NA9 BA9 XA9 TA9 GS9 l9 sz9; (try k_lt l9); (try dsimp only); (try k_lift BA9); (try k_fold);k_steps; (rename News g9 L9 _ _ => kN9); (rename Fr g9 L9 _ _ => kF9); (refine' Gy.dm_fin hR9 GS9 ?gad kF9 kN9 ?gmD ?ghr ?gm44 ?gm51 ?gmc ?gmd ?ge1 ?ge2 ?ge3 ?ge4 ?glc (Below.stays BA9) F9 ?gcd); (case gmD => k_mem); (case ghr => (unfold Gy.Is at *; unfold Gy.HB at hB8; rcases hB8 with ⟨e1, e2, e3, e4⟩ | ⟨e1, e2, e3, e4⟩ <;> subst e1 e2 e3 e4 <;> omega)); (case gm44 => k_mem); (case gm51 => k_mem); (case gmc => k_mem); (case gmd => k_mem); (case ge1 => assumption); (case ge2 => assumption); (case ge3 => assumption); (case ge4 => assumption); (case glc => exact ⟨by omega, by omega, by omega⟩); (case gcd => (intro hb; obtain ⟨p9, hp9, q9⟩ := List.mem_map.mp hb; exact (N9 p9 hp9).2.1 q9)); (case gad => (intro b hb; rcases List.mem_cons.mp hb with hb | hb; exact Or.inr (Or.inr ⟨_, by (rw [hb]; k_mem), by (rw [hb]; exact (N9 _ (.head _)).1)⟩); rcases List.mem_cons.mp hb with hb | hb; exact Or.inr (Or.inr ⟨_, by (rw [hb]; k_mem), by (rw [hb]; exact (N9 _ (.tail _ (.head _))).1)⟩); rcases List.mem_cons.mp hb with hb | hb; exact Or.inl hb; exact Or.inr (Or.inl (List.mem_singleton.mp hb))))); skip))
