import PyProof.Rows.All
import Wide.All
import OpenK.AllK
import Wide.FinOn
import PySem.Challenge.RW_ga0001_01
set_option Elab.async false

section
open PySem PySem.W PyProof.Rows
namespace Mine
section
variable {prog : Program} {w : World}

/-- a key part: a text or an int -/
def isMix : Str ⊕ Int → Value → Bool
  | .inl x, v => Value.isStrOf x v
  | .inr n, v => Value.isInt n v

theorem isMix_shape {k : Str ⊕ Int} {v : Value} (h : isMix k v = true) : (∃ x t, k = .inl x ∧ v = .str x t) ∨ (∃ n t, k = .inr n ∧ v = .int n t) := by
  cases k with
  | inl x => obtain ⟨t, rfl⟩ := Value.isStrOf_shape (x := x) h; exact .inl ⟨x, t, rfl, rfl⟩
  | inr n => obtain ⟨t, rfl⟩ := Value.isInt_shape (k := n) h; exact .inr ⟨n, t, rfl, rfl⟩

def hashMix (w : World) : Str ⊕ Int → Int
  | .inl x => hashStr w x
  | .inr n => hashInt n

theorem eqBool_si {A : Around} {E : Value → Shared → Prop} {s : Shared} {a : Str} {t : Tok} {b : Int} {u : Tok} {Q : Bool → Shared → Prop} (h : Q false s) :
    wpAny (model prog w) A (eqBool (.str a t) (.int b u)) Q E s := by
  unfold eqBool
  refine wpAny_holding ?_
  rw [if_neg (by intro e; have := eq_of_beq e; cases this)]
  refine wpAny_bind ?_
  exact EqMixed.eq_str_int (wpAny_truthy_bool h)

theorem eqBool_is {A : Around} {E : Value → Shared → Prop} {s : Shared} {a : Str} {t : Tok} {b : Int} {u : Tok} {Q : Bool → Shared → Prop} (h : Q false s) :
    wpAny (model prog w) A (eqBool (.int b u) (.str a t)) Q E s := by
  unfold eqBool
  refine wpAny_holding ?_
  rw [if_neg (by intro e; have := eq_of_beq e; cases this)]
  refine wpAny_bind ?_
  exact EqMixed.eq_int_str (wpAny_truthy_bool h)

def mix (prog : Program) (w : World) : KeyKind prog w (Str ⊕ Int) where
  is := isMix
  hash := hashMix w
  inj := fun v a b ha hb => by
    rcases isMix_shape ha with ⟨x, t, rfl, rfl⟩ | ⟨n, t, rfl, rfl⟩ <;> rcases isMix_shape hb with ⟨y, u, rfl, e⟩ | ⟨m, u, rfl, e⟩ <;> cases e <;> rfl
  byValue := fun k v h => by
    rcases isMix_shape h with ⟨x, t, rfl, rfl⟩ | ⟨n, t, rfl, rfl⟩ <;> rfl
  pyHash := fun hv h => by
    rcases isMix_shape hv with ⟨x, t, rfl, rfl⟩ | ⟨n, t, rfl, rfl⟩
    · exact wpAny_pyHash_str h
    · exact wpAny_pyHash_int h
  eqBool := fun {A E s a b u v Q} hu hv h => by
    rcases isMix_shape hu with ⟨x, t, rfl, rfl⟩ | ⟨n, t, rfl, rfl⟩ <;> rcases isMix_shape hv with ⟨y, t', rfl, rfl⟩ | ⟨m, t', rfl, rfl⟩
    · refine wpAny_eqBool_str ?_
      rwa [show decide (Sum.inl x = (Sum.inl y : Str ⊕ Int)) = decide (x = y) by simp] at h
    · exact eqBool_si (by simpa using h)
    · exact eqBool_is (by simpa using h)
    · refine wpAny_eqBool_int ?_
      have e : decide (Sum.inr n = (Sum.inr m : Str ⊕ Int)) = (n == m) := by by_cases q : n = m <;> simp [q]
      exact e ▸ h
  «strs» := fun k x t v h => by
    rcases isMix_shape h with ⟨y, u, rfl, e⟩ | ⟨n, u, rfl, e⟩
    · cases e; cases v <;> rfl
    · cases e
end
end Mine
end

section
open PySem PySem.W PyProof.Rows
namespace Mine
/-! Dicts by their entries alone (whatever their keys are): the three views and their iterators. -/
def RD (h : Heap) (d : Addr) (es : Array DictEntry) (ep : Nat) : Prop := ∃ o, h.get? d = some o ∧ o.ExactDict ∧ o.data = .dict es ep
theorem RD.at {h h' : Heap} {d : Addr} {es : Array DictEntry} {ep : Nat} (x : RD h d es ep) (k : ∀ o, h.get? d = some o → h'.get? d = some o) : RD h' d es ep :=
  let ⟨o, ho, r⟩ := x; ⟨o, k o ho, r⟩
theorem RD.typeIs {s : Shared} {d : Addr} {es : Array DictEntry} {ep : Nat} (x : RD s.heap d es ep) : s.TypeIs (.ref d) "dict" :=
  let ⟨o, ho, hc, _⟩ := x; ⟨o, ho, hc.1⟩
section
variable {prog : Program} {w : World} {A : Around} {E : Value → Shared → Prop} {s : Shared} {d it v : Addr} {es : Array DictEntry} {ep i : Nat}

theorem rd_items {Q : Value → Shared → Prop} (hd : (d == sysModules) = false) (hm : RD s.heap d es ep)
    (h : Q (.ref s.heap.objs.size) { s with heap := s.heap.push { cls := .type "dict_items", data := .fields #[.ref d] } }) :
    wpAny (model prog w) A (call (.builtin "dict.items") [.ref d]) Q E s := by
  refine wpAny_call_entry F.slot_dict_items hm.typeIs F.entry_dict_items ?_ (F.args_dict_items_1 _)
  unfold Builtin.«dict.items» Builtin.Dict.noArgs
  refine wpAny_bind (wpAny_bind (wpAny_notOrdered_dict hm.typeIs ?_))
  refine wpAny_pure ?_
  unfold Builtin.Dict.showsAll
  rw [if_neg (by rw [hd]; exact Bool.false_ne_true)]
  exact wpAny_bind (wpAny_pure (wpAny_bind (wpAny_newObj_type (wpAny_pure ⟨_, rfl, h⟩))))
theorem rd_values {Q : Value → Shared → Prop} (hd : (d == sysModules) = false) (hm : RD s.heap d es ep)
    (h : Q (.ref s.heap.objs.size) { s with heap := s.heap.push { cls := .type "dict_values", data := .fields #[.ref d] } }) :
    wpAny (model prog w) A (call (.builtin "dict.values") [.ref d]) Q E s := by
  refine wpAny_call_entry F.slot_dict_values hm.typeIs F.entry_dict_values ?_ (F.args_dict_values_1 _)
  refine wpAny_bind ?_
  unfold Builtin.Dict.noArgs
  refine wpAny_bind (wpAny_notOrdered_dict hm.typeIs ?_)
  refine wpAny_pure ?_
  show wpAny _ _ (Builtin.Dict.showsAll d >>= _) _ _ s
  unfold Builtin.Dict.showsAll
  rw [if_neg (by rw [hd]; exact Bool.false_ne_true)]
  exact wpAny_bind (wpAny_pure (wpAny_bind (wpAny_newObj_type (wpAny_pure ⟨_, rfl, h⟩))))

theorem rd_iter_keys {Q : Value → Shared → Prop} (hd : (d == sysModules) = false) (hm : RD s.heap d es ep)
    (hQ : Q (.ref s.heap.objs.size) { s with heap := s.heap.push { cls := .type "dict_keyiterator", data := .fields #[.ref d, .int 0 0, .int es.size 0, .int ep 0] } }) :
    wpAny (model prog w) A (pyIter (.ref d)) Q E s := by
  obtain ⟨o, ho, hc, hdat⟩ := id hm
  refine wpAny_pyIter_slot hm.typeIs F.slot_dict_iter (wpAny_call_entry F.slot_dict_iter hm.typeIs F.entry_dict_iter ?_ (F.args_dict_iter_1 _))
  unfold Builtin.«dict.__iter__» Builtin.Dict.dictSlotNone
  refine wpAny_bind (wpAny_bind (wpAny_notOrdered_dict hm.typeIs ?_))
  refine wpAny_pure ?_
  show wpAny _ _ (Builtin.Dict.showsAll d >>= _) _ _ s
  unfold Builtin.Dict.showsAll
  rw [if_neg (by rw [hd]; exact Bool.false_ne_true)]
  refine wpAny_bind (wpAny_pure (wpAny_bind (wpAny_dictEntries ho hdat (wpAny_bind (wpAny_dictEpoch ho hdat ?_)))))
  exact wpAny_bind (wpAny_newObj_type (wpAny_pure ⟨_, rfl, "dict_keyiterator", _, ⟨_, Heap.get?_push_size _ rfl, rfl⟩, F.slot_dict_keyiterator_next.lookup, hQ⟩))
theorem rd_iter_items {Q : Value → Shared → Prop} (hv : s.heap.IsItemsView v d) (hm : RD s.heap d es ep)
    (hQ : Q (.ref s.heap.objs.size) { s with heap := s.heap.push { cls := .type "dict_itemiterator", data := .fields #[.none, .bool false, .ref d, .int 0 0, .int es.size 0, .int ep 0, .none, .none] } }) :
    wpAny (model prog w) A (pyIter (.ref v)) Q E s := by
  obtain ⟨ov, hov, hcv, hdv⟩ := id hv
  obtain ⟨o, ho, hc, hdat⟩ := id hm
  refine wpAny_pyIter_slot hv.typeIs F.slot_dict_items_iter (wpAny_call_entry F.slot_dict_items_iter hv.typeIs F.entry_dict_items_iter ?_ (F.args_dict_items_iter_1 _))
  unfold Builtin.«dict_items.__iter__»
  refine wpAny_bind (wpAny_pure (wpAny_bind ?_))
  unfold Builtin.Dict_items.dictOf
  refine wpAny_bind (wpAny_field hov hdv (x := .ref d) rfl (wpAny_pure (wpAny_bind ?_)))
  unfold Builtin.Dict_items.newIterator
  refine wpAny_bind (wpAny_dictEntries ho hdat (wpAny_bind (wpAny_dictEpoch ho hdat ?_)))
  simp only [show Builtin.Dict_items.ownsTuple "dict_itemiterator" = true by decide, if_true]
  exact wpAny_newObj_type (wpAny_pure ⟨_, rfl, "dict_itemiterator", _, ⟨_, Heap.get?_push_size _ rfl, rfl⟩, F.slot_dict_itemiterator_next.lookup, hQ⟩)
    (by simp only [sizeOk, Builtin.Dict_items.ownedTupleFields, List.size_toArray, List.length_append, List.length_cons, List.length_nil, sizeLine_eq]; omega)
theorem rd_iter_values {Q : Value → Shared → Prop} (hv : s.heap.IsValuesView v d) (hm : RD s.heap d es ep)
    (hQ : Q (.ref s.heap.objs.size) { s with heap := s.heap.push { cls := .type "dict_valueiterator", data := .fields #[.ref d, .int 0 0, .int es.size 0, .int ep 0] } }) :
    wpAny (model prog w) A (pyIter (.ref v)) Q E s := by
  obtain ⟨ov, hov, hcv, hdv⟩ := id hv
  obtain ⟨o, ho, hc, hdat⟩ := id hm
  refine wpAny_pyIter_slot hv.typeIs F.slot_dict_values_iter (wpAny_call_entry F.slot_dict_values_iter hv.typeIs F.entry_dict_values_iter ?_ (F.args_dict_values_iter_1 _))
  unfold Builtin.«dict_values.__iter__»
  refine wpAny_bind (wpAny_pure (wpAny_bind ?_))
  unfold Builtin.Dict_items.dictOf
  refine wpAny_bind (wpAny_field hov hdv (x := .ref d) rfl (wpAny_pure (wpAny_bind ?_)))
  unfold Builtin.Dict_items.newIterator
  refine wpAny_bind (wpAny_dictEntries ho hdat (wpAny_bind (wpAny_dictEpoch ho hdat ?_)))
  simp only [show Builtin.Dict_items.ownsTuple "dict_valueiterator" = false by decide, Bool.false_eq_true, if_false]
  exact wpAny_newObj_type (wpAny_pure ⟨_, rfl, "dict_valueiterator", _, ⟨_, Heap.get?_push_size _ rfl, rfl⟩, F.slot_dict_valueiterator_next.lookup, hQ⟩)

/-- an ended iterator: what it raises is caught by the loop -/
theorem rd_stop {o : Obj} {fs : Array Value} {j : Nat} {Q : Option Value → Shared → Prop} (hh : A.handled = none) (ho : s.heap.get? it = some o) (hd : o.data = .fields fs) (hj : j < fs.size)
    (hQ : ∀ h', Heap.ExtBut it s.heap h' → Q none { s with heap := h' }) :
    wpAny (model prog w) A.in1 (setField (.ref it) j .none >>= fun _ => newExc (.type "StopIteration") [] >>= fun e => (raiseNew e : Sem PySem.Fin))
      (fun fin s' => ∃ v, fin = .done (.ret v) ∧ wpAny (model prog w) A (pure (some v)) Q E s') 
      (fun e s' => wpAny (model prog w) A (do if ← isInstance e (.type "StopIteration") then return none else throw e) Q E s') s := by
  refine wpAny_bind (wpAny_setField ho hd hj ?_)
  refine wpAny_bind ?_
  simp only [newExc, newTuple]
  refine wpAny_bind (wpAny_newObj_type ?_ (by size_fits))
  refine wpAny_bind (m := firstArgMember _ _) (wpAny_of_eq (a := Value.none) (by first | rfl | (simp only [firstArgMember]; rfl)) ?_)
  refine wpAny_newObj_type ?_ (by size_fits)
  simp only [raiseNew]
  refine wpAny_bind (wpAny_handled ?_)
  rw [show A.in1.handled = none from hh]
  refine wpAny_bind (wpAny_pure (wpAny_throw ?_))
  refine wpAny_bind (wpAny_isInstance (T := "StopIteration") (b := true) ⟨_, Heap.get?_push_size _ rfl, rfl⟩ isSubtype_stop ?_)
  exact wpAny_pure (hQ _ (((Heap.SameBut.update ..).extBut.push _).push _))
end
end Mine
end

section
open PySem PySem.W PyProof.Rows
namespace Mine
section
variable {prog : Program} {w : World} {A : Around} {E : Value → Shared → Prop} {s : Shared} {d it v : Addr} {es : Array DictEntry} {ep i : Nat}

theorem rd_next_key {e : DictEntry} {Q : Option Value → Shared → Prop} (hit : s.heap.IsKeyIter it d i es.size ep) (hm : RD s.heap d es ep) (hx : es[i]? = some e)
    (hQ : ∀ h', h'.IsKeyIter it d (i + 1) es.size ep → Heap.SameBut it s.heap h' → Q (some e.key) { s with heap := h' }) :
    wpAny (model prog w) A (pyNext (.ref it)) Q E s := by
  obtain ⟨o, ho, hc, hd⟩ := id hit
  obtain ⟨od, hod, hcd, hdd⟩ := id hm
  unfold pyNext
  refine wpAny_bind (wpAny_attempt (wpAny_callSpecial?_slot (name := Str.ofString "__next__") hit.typeIs F.slot_dict_keyiterator_next
    (wpAny_call_entry F.slot_dict_keyiterator_next hit.typeIs F.entry_dict_keyiterator_next ?_ (F.args_dict_keyiterator_next_1 _))))
  refine wpAny_bind (wpAny_pure (wpAny_bind (wpAny_bind (wpAny_bind (wpAny_typeNameOfWhole_keyiter hit.typeIs (wpAny_pure ?_))))))
  refine wpAny_bind (wpAny_fieldsOf ho hd ?_)
  simp only [show Builtin.Dict_items.ownsTuple "dict_keyiterator" = false by decide, Bool.false_eq_true, if_false]
  show wpAny _ _ (if (Value.ref d == Value.none) = true then _ else _) _ _ s
  rw [if_neg (show ¬ ((Value.ref d == Value.none) = true) from Bool.false_ne_true)]
  refine wpAny_bind (wpAny_pure (wpAny_bind (wpAny_dictEntries hod hdd ?_)))
  rw [if_neg (by simp)]
  refine wpAny_bind (wpAny_pure (wpAny_bind (wpAny_dictEpoch hod hdd ?_)))
  rw [if_neg (by simp)]
  refine wpAny_pure ?_
  simp only [show ¬ ((i : Int) < 0) from by omega, if_false, Int.toNat_natCast, hx]
  refine wpAny_bind (wpAny_bind (wpAny_typeNameOfWhole_keyiter hit.typeIs (wpAny_pure ?_)))
  refine wpAny_bind (wpAny_isOneOf_keyiter hit.typeIs ?_)
  show wpAny _ _ (setField (.ref it) 1 (rawInt ((i : Int) + 1)) >>= _) _ _ s
  refine wpAny_bind (wpAny_setField ho hd (by simp) ?_)
  have hit' : (s.heap.update it (Obj.mapFields (·.setIfInBounds 1 (rawInt ((i : Int) + 1))))).IsKeyIter it d (i + 1) es.size ep :=
    ⟨_, Heap.get?_update_self _ ho (Obj.isFreed_of_fields (Obj.data_mapFields hd _)), (Obj.cls_mapFields ..).trans hc, by rw [Obj.data_mapFields hd]; simp [rawInt]⟩
  refine wpAny_bind (wpAny_holding ?_)
  refine wpAny_bind (wpAny_isOneOf_keyiter (s := { s with heap := s.heap.update it (Obj.mapFields (·.setIfInBounds 1 (rawInt ((i : Int) + 1)))) }) hit'.typeIs ?_)
  exact wpAny_pure (wpAny_pure ⟨_, rfl, wpAny_pure (hQ _ hit' (Heap.SameBut.update ..))⟩)

theorem rd_end_key {Q : Option Value → Shared → Prop} (hh : A.handled = none) (hit : s.heap.IsKeyIter it d i es.size ep) (hm : RD s.heap d es ep) (hx : es[i]? = none)
    (hQ : ∀ h', Heap.ExtBut it s.heap h' → Q none { s with heap := h' }) : wpAny (model prog w) A (pyNext (.ref it)) Q E s := by
  obtain ⟨o, ho, hc, hd⟩ := id hit
  obtain ⟨od, hod, hcd, hdd⟩ := id hm
  unfold pyNext
  refine wpAny_bind (wpAny_attempt (wpAny_callSpecial?_slot (name := Str.ofString "__next__") hit.typeIs F.slot_dict_keyiterator_next
    (wpAny_call_entry F.slot_dict_keyiterator_next hit.typeIs F.entry_dict_keyiterator_next ?_ (F.args_dict_keyiterator_next_1 _))))
  refine wpAny_bind (wpAny_pure (wpAny_bind (wpAny_bind (wpAny_bind (wpAny_typeNameOfWhole_keyiter hit.typeIs (wpAny_pure ?_))))))
  refine wpAny_bind (wpAny_fieldsOf ho hd ?_)
  simp only [show Builtin.Dict_items.ownsTuple "dict_keyiterator" = false by decide, Bool.false_eq_true, if_false]
  show wpAny _ _ (if (Value.ref d == Value.none) = true then _ else _) _ _ s
  rw [if_neg (show ¬ ((Value.ref d == Value.none) = true) from Bool.false_ne_true)]
  refine wpAny_bind (wpAny_pure (wpAny_bind (wpAny_dictEntries hod hdd ?_)))
  rw [if_neg (by simp)]
  refine wpAny_bind (wpAny_pure (wpAny_bind (wpAny_dictEpoch hod hdd ?_)))
  rw [if_neg (by simp)]
  refine wpAny_pure ?_
  simp only [show ¬ ((i : Int) < 0) from by omega, if_false, Int.toNat_natCast, hx]
  refine wpAny_bind (wpAny_bind (wpAny_typeNameOfWhole_keyiter hit.typeIs (wpAny_pure ?_)))
  exact wpAny_mono (rd_stop (Q := Q) (E := E) hh ho hd (by simp <;> decide) hQ) (fun fin s' ⟨v, e, h⟩ => ⟨v, e, h⟩) fun _ _ h => h

theorem rd_next_val {e : DictEntry} {Q : Option Value → Shared → Prop} (hit : s.heap.IsValIter it d i es.size ep) (hm : RD s.heap d es ep) (hx : es[i]? = some e)
    (hQ : ∀ h', h'.IsValIter it d (i + 1) es.size ep → Heap.SameBut it s.heap h' → Q (some e.val) { s with heap := h' }) :
    wpAny (model prog w) A (pyNext (.ref it)) Q E s := by
  obtain ⟨o, ho, hc, hd⟩ := id hit
  obtain ⟨od, hod, hcd, hdd⟩ := id hm
  unfold pyNext
  refine wpAny_bind (wpAny_attempt (wpAny_callSpecial?_slot (name := Str.ofString "__next__") hit.typeIs F.slot_dict_valueiterator_next
    (wpAny_call_entry F.slot_dict_valueiterator_next hit.typeIs F.entry_dict_valueiterator_next ?_ (F.args_dict_valueiterator_next_1 _))))
  refine wpAny_bind (wpAny_pure (wpAny_bind (wpAny_bind (wpAny_bind (wpAny_typeNameOfWhole_valiter hit.typeIs (wpAny_pure ?_))))))
  refine wpAny_bind (wpAny_fieldsOf ho hd ?_)
  simp only [show Builtin.Dict_items.ownsTuple "dict_valueiterator" = false by decide, Bool.false_eq_true, if_false]
  show wpAny _ _ (if (Value.ref d == Value.none) = true then _ else _) _ _ s
  rw [if_neg (show ¬ ((Value.ref d == Value.none) = true) from Bool.false_ne_true)]
  refine wpAny_bind (wpAny_pure (wpAny_bind (wpAny_dictEntries hod hdd ?_)))
  rw [if_neg (by simp)]
  refine wpAny_bind (wpAny_pure (wpAny_bind (wpAny_dictEpoch hod hdd ?_)))
  rw [if_neg (by simp)]
  refine wpAny_pure ?_
  simp only [show ¬ ((i : Int) < 0) from by omega, if_false, Int.toNat_natCast, hx]
  refine wpAny_bind (wpAny_bind (wpAny_typeNameOfWhole_valiter hit.typeIs (wpAny_pure ?_)))
  refine wpAny_bind (wpAny_isOneOf_valiter hit.typeIs ?_)
  show wpAny _ _ (setField (.ref it) 1 (rawInt ((i : Int) + 1)) >>= _) _ _ s
  refine wpAny_bind (wpAny_setField ho hd (by simp) ?_)
  have hit' : (s.heap.update it (Obj.mapFields (·.setIfInBounds 1 (rawInt ((i : Int) + 1))))).IsValIter it d (i + 1) es.size ep :=
    ⟨_, Heap.get?_update_self _ ho (Obj.isFreed_of_fields (Obj.data_mapFields hd _)), (Obj.cls_mapFields ..).trans hc, by rw [Obj.data_mapFields hd]; simp [rawInt]⟩
  refine wpAny_bind (wpAny_holding ?_)
  refine wpAny_bind (wpAny_isOneOf_valiter (s := { s with heap := s.heap.update it (Obj.mapFields (·.setIfInBounds 1 (rawInt ((i : Int) + 1)))) }) hit'.typeIs ?_)
  refine wpAny_bind (wpAny_isOneOf_valiter (s := { s with heap := s.heap.update it (Obj.mapFields (·.setIfInBounds 1 (rawInt ((i : Int) + 1)))) }) hit'.typeIs ?_)
  exact wpAny_pure (wpAny_pure ⟨_, rfl, wpAny_pure (hQ _ hit' (Heap.SameBut.update ..))⟩)

theorem rd_end_val {Q : Option Value → Shared → Prop} (hh : A.handled = none) (hit : s.heap.IsValIter it d i es.size ep) (hm : RD s.heap d es ep) (hx : es[i]? = none)
    (hQ : ∀ h', Heap.ExtBut it s.heap h' → Q none { s with heap := h' }) : wpAny (model prog w) A (pyNext (.ref it)) Q E s := by
  obtain ⟨o, ho, hc, hd⟩ := id hit
  obtain ⟨od, hod, hcd, hdd⟩ := id hm
  unfold pyNext
  refine wpAny_bind (wpAny_attempt (wpAny_callSpecial?_slot (name := Str.ofString "__next__") hit.typeIs F.slot_dict_valueiterator_next
    (wpAny_call_entry F.slot_dict_valueiterator_next hit.typeIs F.entry_dict_valueiterator_next ?_ (F.args_dict_valueiterator_next_1 _))))
  refine wpAny_bind (wpAny_pure (wpAny_bind (wpAny_bind (wpAny_bind (wpAny_typeNameOfWhole_valiter hit.typeIs (wpAny_pure ?_))))))
  refine wpAny_bind (wpAny_fieldsOf ho hd ?_)
  simp only [show Builtin.Dict_items.ownsTuple "dict_valueiterator" = false by decide, Bool.false_eq_true, if_false]
  show wpAny _ _ (if (Value.ref d == Value.none) = true then _ else _) _ _ s
  rw [if_neg (show ¬ ((Value.ref d == Value.none) = true) from Bool.false_ne_true)]
  refine wpAny_bind (wpAny_pure (wpAny_bind (wpAny_dictEntries hod hdd ?_)))
  rw [if_neg (by simp)]
  refine wpAny_bind (wpAny_pure (wpAny_bind (wpAny_dictEpoch hod hdd ?_)))
  rw [if_neg (by simp)]
  refine wpAny_pure ?_
  simp only [show ¬ ((i : Int) < 0) from by omega, if_false, Int.toNat_natCast, hx]
  refine wpAny_bind (wpAny_bind (wpAny_typeNameOfWhole_valiter hit.typeIs (wpAny_pure ?_)))
  exact wpAny_mono (rd_stop (Q := Q) (E := E) hh ho hd (by simp <;> decide) hQ) (fun fin s' ⟨v, e, h⟩ => ⟨v, e, h⟩) fun _ _ h => h

theorem rd_next_item {e : DictEntry} {ok ov : Value} {Q : Option Value → Shared → Prop} (hit : IsItemIter s.heap it d i es.size ep ok ov) (hm : RD s.heap d es ep) (hx : es[i]? = some e)
    (hQ : ∀ h', IsItemIterOut h' it d (i + 1) es.size ep e.key e.val s.heap.objs.size → h'.get? s.heap.objs.size = some { cls := .type "tuple", data := .seq #[e.key, e.val] } →
      h'.objs.size = s.heap.objs.size + 1 → (∀ b o, b ≠ it → s.heap.get? b = some o → h'.get? b = some o) → Q (some (.ref s.heap.objs.size)) { s with heap := h' }) :
    wpAny (model prog w) A (pyNext (.ref it)) Q E s := by
  obtain ⟨hp, g, dr, tk, os⟩ := s
  obtain ⟨od, hod, hcd, hdd⟩ := id hm
  have hT : Shared.TypeIs ⟨hp, g, dr, tk, os⟩ (.ref it) "dict_itemiterator" := ⟨_, hit, rfl⟩
  unfold pyNext
  refine wpAny_bind (wpAny_attempt (wpAny_callSpecial?_slot (name := Str.ofString "__next__") hT F.slot_dict_itemiterator_next
    (wpAny_call_entry F.slot_dict_itemiterator_next hT F.entry_dict_itemiterator_next ?_ (F.args_dict_itemiterator_next_1 _))))
  refine wpAny_bind (wpAny_pure (wpAny_bind (wpAny_bind (wpAny_bind (wpAny_typeNameOfWhole_itemiter hT (wpAny_pure ?_))))))
  refine wpAny_bind (wpAny_fieldsOf hit rfl ?_)
  simp only [show Builtin.Dict_items.ownsTuple "dict_itemiterator" = true by decide, if_true]
  show wpAny _ _ (if (Value.ref d == Value.none) = true then _ else _) _ _ _
  rw [if_neg (show ¬ ((Value.ref d == Value.none) = true) from Bool.false_ne_true)]
  refine wpAny_bind (wpAny_pure (wpAny_bind (wpAny_dictEntries hod hdd ?_)))
  rw [if_neg (by simp)]
  refine wpAny_bind (wpAny_pure (wpAny_bind (wpAny_dictEpoch hod hdd ?_)))
  rw [if_neg (by simp)]
  refine wpAny_pure ?_
  simp only [show ¬ ((i : Int) < 0) from by omega, if_false, Int.toNat_natCast, hx]
  refine wpAny_bind (wpAny_bind (wpAny_typeNameOfWhole_itemiter hT (wpAny_pure ?_)))
  refine wpAny_bind (wpAny_isOneOf_itemiter hT ?_)
  show wpAny _ _ (setField (.ref it) 3 (rawInt ((i : Int) + 1)) >>= _) _ _ ⟨hp, g, dr, tk, os⟩
  refine wpAny_bind (wpAny_setField_rec hit (by simp) fun h₁ he₁ hs₁ => ?_)
  replace hs₁ : Heap.SameBut it hp h₁ := hs₁
  replace he₁ : IsItemIter h₁ it d (i + 1) es.size ep ok ov := by
    have e : ((i + 1 : Nat) : Int) = (i : Int) + 1 := by omega
    unfold IsItemIter; rw [e]; simpa [rawInt] using he₁
  have hT₁ : Shared.TypeIs ⟨h₁, g, dr, tk, os⟩ (.ref it) "dict_itemiterator" := ⟨_, he₁, rfl⟩
  refine wpAny_bind (wpAny_holding (wpAny_bind (wpAny_isOneOf_itemiter hT₁ (wpAny_bind (wpAny_isOneOf_itemiter hT₁ ?_)))))
  show wpAny _ _ (Builtin.Dict_items.pairFromOwner (.ref it) 6 e.key e.val) _ _ ⟨h₁, g, dr, tk, os⟩
  unfold Builtin.Dict_items.pairFromOwner
  refine wpAny_bind (wpAny_newTuple ?_)
  have he₂ : IsItemIter (h₁.push { cls := .type "tuple", data := .seq #[e.key, e.val] }) it d (i + 1) es.size ep ok ov := Heap.get?_push_of_some _ he₁
  have hz₁ : h₁.objs.size = hp.objs.size := hs₁.1
  have hil : it < hp.objs.size := Heap.lt_size hit
  generalize hh₂ : h₁.push { cls := .type "tuple", data := .seq #[e.key, e.val] } = h₂ at he₂
  have ht₂ : h₂.get? hp.objs.size = some { cls := .type "tuple", data := .seq #[e.key, e.val] } := by rw [← hh₂, ← hz₁]; exact Heap.get?_push_size _ rfl
  have hz₂ : h₂.objs.size = hp.objs.size + 1 := by rw [← hh₂, Heap.size_push, hz₁]
  have hk₂ : ∀ b o, b ≠ it → hp.get? b = some o → h₂.get? b = some o := fun b o hb q => by rw [← hh₂]; exact Heap.get?_push_of_some _ (hs₁.extBut b o hb q)
  show wpAny _ _ (Builtin.Dict_items.ownedTupleIsFree (.ref it) >>= _) _ _ ⟨h₂, g, dr, tk, os⟩
  rw [hz₁]
  refine wpAny_bind ?_
  unfold Builtin.Dict_items.ownedTupleIsFree
  refine wpAny_bind (wpAny_field he₂ rfl (x := .none) rfl (wpAny_pure ?_))
  simp only [if_true]
  refine wpAny_bind (wpAny_field he₂ rfl (x := ok) rfl (wpAny_bind (wpAny_field he₂ rfl (x := ov) rfl ?_)))
  refine wpAny_bind (wpAny_setField_rec he₂ (by simp) fun h₃ he₃ hs₃ => ?_)
  replace hs₃ : Heap.SameBut it h₂ h₃ := hs₃
  replace he₃ : IsItemIter h₃ it d (i + 1) es.size ep e.key ov := he₃
  refine wpAny_bind (wpAny_setField_rec he₃ (by simp) fun h₄ he₄ hs₄ => ?_)
  replace hs₄ : Heap.SameBut it h₃ h₄ := hs₄
  replace he₄ : IsItemIter h₄ it d (i + 1) es.size ep e.key e.val := he₄
  refine wpAny_bind (wpAny_setField_rec he₄ (by simp) fun h₅ he₅ hs₅ => ?_)
  replace hs₅ : Heap.SameBut it h₄ h₅ := hs₅
  replace he₅ : IsItemIterOut h₅ it d (i + 1) es.size ep e.key e.val hp.objs.size := he₅
  refine wpAny_bind (wpAny_setField_rec he₅ (by simp) fun h₆ he₆ hs₆ => ?_)
  replace hs₆ : Heap.SameBut it h₅ h₆ := hs₆
  have all : Heap.SameBut it h₂ h₆ := ((hs₃.trans hs₄).trans hs₅).trans hs₆
  exact wpAny_bind (wpAny_letGo (wpAny_pure (wpAny_pure ⟨_, rfl, wpAny_pure (hQ h₆ he₆ (all.extBut _ _ (Nat.ne_of_gt hil) ht₂) (all.1.trans hz₂) fun b o hb q => all.extBut b o hb (hk₂ b o hb q))⟩)))

theorem rd_end_item {ok ov : Value} {Q : Option Value → Shared → Prop} (hh : A.handled = none) (hit : IsItemIter s.heap it d i es.size ep ok ov) (hm : RD s.heap d es ep) (hx : es[i]? = none)
    (hQ : ∀ h', Heap.ExtBut it s.heap h' → Q none { s with heap := h' }) : wpAny (model prog w) A (pyNext (.ref it)) Q E s := by
  obtain ⟨od, hod, hcd, hdd⟩ := id hm
  have hT : s.TypeIs (.ref it) "dict_itemiterator" := ⟨_, hit, rfl⟩
  unfold pyNext
  refine wpAny_bind (wpAny_attempt (wpAny_callSpecial?_slot (name := Str.ofString "__next__") hT F.slot_dict_itemiterator_next
    (wpAny_call_entry F.slot_dict_itemiterator_next hT F.entry_dict_itemiterator_next ?_ (F.args_dict_itemiterator_next_1 _))))
  refine wpAny_bind (wpAny_pure (wpAny_bind (wpAny_bind (wpAny_bind (wpAny_typeNameOfWhole_itemiter hT (wpAny_pure ?_))))))
  refine wpAny_bind (wpAny_fieldsOf hit rfl ?_)
  simp only [show Builtin.Dict_items.ownsTuple "dict_itemiterator" = true by decide, if_true]
  show wpAny _ _ (if (Value.ref d == Value.none) = true then _ else _) _ _ _
  rw [if_neg (show ¬ ((Value.ref d == Value.none) = true) from Bool.false_ne_true)]
  refine wpAny_bind (wpAny_pure (wpAny_bind (wpAny_dictEntries hod hdd ?_)))
  rw [if_neg (by simp)]
  refine wpAny_bind (wpAny_pure (wpAny_bind (wpAny_dictEpoch hod hdd ?_)))
  rw [if_neg (by simp)]
  refine wpAny_pure ?_
  simp only [show ¬ ((i : Int) < 0) from by omega, if_false, Int.toNat_natCast, hx]
  refine wpAny_bind (wpAny_bind (wpAny_typeNameOfWhole_itemiter hT (wpAny_pure ?_)))
  exact wpAny_mono (rd_stop (Q := Q) (E := E) hh hit rfl (by simp <;> decide) hQ) (fun fin s' ⟨v, e, h⟩ => ⟨v, e, h⟩) fun _ _ h => h
end
end Mine
end

section
open PySem PySem.W PyProof.Rows
namespace Mine
/-! What a step leaves as it was: all but the addresses W; the tuples always; what stood in h₀ always. -/
def IsTup (o : Obj) : Prop := o.cls = .type "tuple" ∧ ∃ xs n, o.data = .seq xs n
def NotTup (h : Heap) (a : Addr) : Prop := ∀ o, h.get? a = some o → ¬ IsTup o
structure Kp (h₀ : Heap) (W : List Addr) (h h' : Heap) : Prop where
  keep : ∀ b o, b ∉ W → h.get? b = some o → h'.get? b = some o
  old : ∀ b o, h₀.get? b = some o → h.get? b = some o → h'.get? b = some o
  tup : ∀ b o, h.get? b = some o → IsTup o → h'.get? b = some o
structure Chg (h₀ : Heap) (W : List Addr) (h h' : Heap) : Prop extends Kp h₀ W h h' where
  live : ∀ b o, h.get? b = some o → ∃ o', h'.get? b = some o'
section
variable {h₀ h h' h'' : Heap} {W W' : List Addr} {a : Addr}
theorem not_h₀ (ha : h₀.objs.size ≤ a) : h₀.get? a = none := by
  cases e : h₀.get? a with
  | none => rfl
  | some o => exact absurd (Heap.lt_size e) (Nat.not_lt.mpr ha)
theorem Kp.refl : Kp h₀ W h h := ⟨fun _ _ _ e => e, fun _ _ _ e => e, fun _ _ e _ => e⟩
theorem Kp.trans (x : Kp h₀ W h h') (y : Kp h₀ W h' h'') : Kp h₀ W h h'' :=
  ⟨fun b o hb e => y.keep b o hb (x.keep b o hb e), fun b o h0 e => y.old b o h0 (x.old b o h0 e), fun b o e t => y.tup b o (x.tup b o e t) t⟩
theorem Kp.mono (x : Kp h₀ W h h') (s : ∀ b ∈ W, b ∈ W') : Kp h₀ W' h h' := ⟨fun b o hb e => x.keep b o (fun m => hb (s b m)) e, x.old, x.tup⟩
/-- changed addresses that did not stand need no word -/
theorem Kp.step (x : Kp h₀ W h h') (y : Kp h₀ W' h' h'') (ha : ∀ a ∈ W', a ∈ W ∨ h.get? a = none) : Kp h₀ W h h'' :=
  ⟨fun b o hb e => y.keep b o (fun m => (ha b m).elim hb fun q => by rw [e] at q; cases q) (x.keep b o hb e),
    fun b o h0 e => y.old b o h0 (x.old b o h0 e), fun b o e t => y.tup b o (x.tup b o e t) t⟩
theorem Kp.push (o : Obj) : Kp h₀ W h (h.push o) := ⟨fun _ _ _ e => Heap.get?_push_of_some _ e, fun _ _ _ e => Heap.get?_push_of_some _ e, fun _ _ e _ => Heap.get?_push_of_some _ e⟩
theorem Kp.ofKeep {V : List Addr} (x : ∀ b o, b ∉ V → h.get? b = some o → h'.get? b = some o) (n : ∀ a ∈ V, NotTup h a) (ha : ∀ a ∈ V, h₀.objs.size ≤ a) : Kp h₀ V h h' :=
  ⟨x, fun b o h0 e => x b o (fun q => by rw [not_h₀ (ha b q)] at h0; cases h0) e, fun b o e t => x b o (fun q => n b q o e t) e⟩
theorem Kp.ofExt (x : Heap.ExtBut a h h') (n : NotTup h a) (ha : h₀.objs.size ≤ a) : Kp h₀ [a] h h' :=
  .ofKeep (fun b o hb e => x b o (fun q => hb (q ▸ .head _)) e) (fun b q => by rw [List.mem_singleton.mp q]; exact n) (fun b q => by rw [List.mem_singleton.mp q]; exact ha)
theorem Kp.same (x : Heap.SameBut a h h') (n : NotTup h a) (ha : h₀.objs.size ≤ a) : Kp h₀ [a] h h' := .ofExt x.extBut n ha
theorem Chg.refl : Chg h₀ W h h := ⟨.refl, fun _ o e => ⟨o, e⟩⟩
theorem Chg.trans (x : Chg h₀ W h h') (y : Chg h₀ W h' h'') : Chg h₀ W h h'' := ⟨x.toKp.trans y.toKp, fun b o e => let ⟨_, e'⟩ := x.live b o e; y.live b _ e'⟩
theorem Chg.mono (x : Chg h₀ W h h') (s : ∀ b ∈ W, b ∈ W') : Chg h₀ W' h h' := ⟨x.toKp.mono s, x.live⟩
theorem Chg.step (x : Chg h₀ W h h') (y : Chg h₀ W' h' h'') (ha : ∀ a ∈ W', a ∈ W ∨ h.get? a = none) : Chg h₀ W h h'' := ⟨x.toKp.step y.toKp ha, fun b o e => let ⟨_, e'⟩ := x.live b o e; y.live b _ e'⟩
/-- what is changed here did not stand at the start, so it may go -/
theorem Chg.past (x : Chg h₀ W h h') (y : Kp h₀ W' h' h'') (ha : ∀ a ∈ W', h.get? a = none) : Chg h₀ W h h'' :=
  ⟨x.toKp.step y fun a q => .inr (ha a q), fun b o e => let ⟨o', e'⟩ := x.live b o e; ⟨o', y.keep b o' (fun q => by rw [ha b q] at e; cases e) e'⟩⟩
theorem Chg.push (o : Obj) : Chg h₀ W h (h.push o) := ⟨.push o, fun _ _ e => ⟨_, Heap.get?_push_of_some _ e⟩⟩
theorem Chg.same {o' : Obj} (x : Heap.SameBut a h h') (n : NotTup h a) (ha : h₀.objs.size ≤ a) (e' : h'.get? a = some o') : Chg h₀ [a] h h' :=
  ⟨.same x n ha, fun b o e => if q : b = a then ⟨o', q ▸ e'⟩ else ⟨o, x.extBut b o q e⟩⟩
theorem Chg.fresh (x : Chg h₀ W h h') : h.get? h'.objs.size = none := by
  cases e : h.get? h'.objs.size with
  | none => rfl
  | some o => obtain ⟨o', e'⟩ := x.live _ _ e; exact absurd (Heap.lt_size e') (Nat.lt_irrefl _)
theorem Chg.none (x : Chg h₀ W h h') (e : h'.get? a = none) : h.get? a = none := by
  cases q : h.get? a with
  | none => rfl
  | some o => obtain ⟨o', e'⟩ := x.live _ _ q; rw [e] at e'; cases e'

theorem NotTup.ns {m : Str → Option Value} (x : h.Ns a m) : NotTup h a := by
  obtain ⟨o, es, ep, ho, hd, _⟩ := x
  rintro o' ho' ⟨_, xs, n, hd'⟩
  rw [ho] at ho'; cases ho'; rw [hd] at hd'; cases hd'
theorem NotTup.list {vs : Array Value} (x : h.IsList a vs) : NotTup h a := by
  obtain ⟨o, ho, hc, _⟩ := x
  rintro o' ho' ⟨hc', _⟩
  rw [ho] at ho'; cases ho'; rw [hc] at hc'; exact absurd hc' (by decide)
theorem NotTup.cell {v : Option Value} (x : h.IsCell a v) : NotTup h a := by
  obtain ⟨o, ho, hd⟩ := x
  rintro o' ho' ⟨_, xs, n, hd'⟩
  rw [ho] at ho'; cases ho'; rw [hd] at hd'; cases hd'
theorem NotTup.rd {es : Array DictEntry} {ep : Nat} (x : RD h a es ep) : NotTup h a := by
  obtain ⟨o, ho, _, hd⟩ := x
  rintro o' ho' ⟨_, xs, n, hd'⟩
  rw [ho] at ho'; cases ho'; rw [hd] at hd'; cases hd'
theorem NotTup.fields {o : Obj} {vs : Array Value} (ho : h.get? a = some o) (hd : o.data = .fields vs) : NotTup h a := by
  rintro o' ho' ⟨_, xs, n, hd'⟩
  rw [ho] at ho'; cases ho'; rw [hd] at hd'; cases hd'

theorem Fr.chg {L : Addr} {m : Str → Option Value} (F : Fr h₀ L h m) (x : Kp h₀ W h h') (hL : L ∉ W) : Fr h₀ L h' m :=
  ⟨F.ns.at fun o e => x.keep L o hL e, fun b o e => x.old b o e (F.keep b o e), F.above⟩
theorem isList_chg {l : Addr} {vs : Array Value} (y : h.IsList l vs) (x : Kp h₀ W h h') (hl : l ∉ W) : h'.IsList l vs := y.at fun o e => x.keep l o hl e
theorem isCell_chg {l : Addr} {v : Option Value} (y : h.IsCell l v) (x : Kp h₀ W h h') (hl : l ∉ W) : h'.IsCell l v := let ⟨o, ho, hd⟩ := y; ⟨o, x.keep l o hl ho, hd⟩
theorem isTuple_chg {l : Addr} {vs : Array Value} (y : h.IsTuple l vs) (x : Kp h₀ W h h') : h'.IsTuple l vs :=
  let ⟨o, ho, hc, n, hd⟩ := y; ⟨o, x.tup l o ho ⟨hc, vs, n, hd⟩, hc, n, hd⟩
end

theorem nodup_of_map {α β : Type} {f : α → β} : ∀ {l : List α}, (l.map f).Nodup → l.Nodup
  | [], _ => List.nodup_nil
  | a :: l, h => by
    rw [List.map_cons, List.nodup_cons] at h
    exact List.nodup_cons.mpr ⟨fun m => h.1 (List.mem_map.mpr ⟨a, m, rfl⟩), nodup_of_map h.2⟩
/-! Dicts whose keys are tuples (made of κ by emb) and whose values are ints: c is what they hold, in order. -/
section
variable (prog : Program) (w : World) {κ : Type} (emb : κ → List (Str ⊕ Int))
inductive Holds2 : List (List (Str ⊕ Int) × Addr × Value) → List (κ × Int) → Prop
  | nil : Holds2 [] []
  | cons {a : Addr} {k : κ} {n : Int} {t : Tok} {xs : List (List (Str ⊕ Int) × Addr × Value)} {c : List (κ × Int)} : Holds2 xs c → Holds2 ((emb k, a, .int n t) :: xs) ((k, n) :: c)
def IsD (h : Heap) (d : Addr) (c : List (κ × Int)) : Prop := (d == sysModules) = false ∧ ∃ xs, h.DictOfH (tupleKind (mix prog w)) d xs ∧ Holds2 emb xs c
end
section
variable {prog : Program} {w : World} {κ : Type} {emb : κ → List (Str ⊕ Int)} {h h' h₀ : Heap} {W : List Addr} {d a : Addr} {c : List (κ × Int)}
theorem key_chg {k : List (Str ⊕ Int)} (y : IsTupleKey (mix prog w) h k a) (x : Kp h₀ W h h') : IsTupleKey (mix prog w) h' k a :=
  let ⟨o, items, n, ho, hc, hd, hi⟩ := y; ⟨o, items, n, x.tup a o ho ⟨hc, items, n, hd⟩, hc, hd, hi⟩
theorem dictOfH_chg {xs : List (List (Str ⊕ Int) × Addr × Value)} (y : h.DictOfH (tupleKind (mix prog w)) d xs) (x : Kp h₀ W h h') (hd : d ∉ W) : h'.DictOfH (tupleKind (mix prog w)) d xs :=
  let ⟨o, es, ep, ho, hc, hdat, he, hk, hn⟩ := y; ⟨o, es, ep, x.keep d o hd ho, hc, hdat, he, fun z hz => key_chg (hk z hz) x, hn⟩
theorem IsD.chg (y : IsD prog w emb h d c) (x : Kp h₀ W h h') (hd : d ∉ W) : IsD prog w emb h' d c := let ⟨lo, xs, hx, hh⟩ := y; ⟨lo, xs, dictOfH_chg hx x hd, hh⟩
theorem DictOfH.rd {xs : List (List (Str ⊕ Int) × Addr × Value)} (y : h.DictOfH (tupleKind (mix prog w)) d xs) : ∃ es ep, RD h d es ep ∧ es.toList = xs.map (entryOfKey (tupleKind (mix prog w))) :=
  let ⟨o, es, ep, ho, hc, hdat, he, _⟩ := y; ⟨es, ep, ⟨o, ho, hc, hdat⟩, he⟩
theorem IsD.notTup (y : IsD prog w emb h d c) : NotTup h d := let ⟨_, _, hx, _⟩ := y; let ⟨_, _, r, _⟩ := DictOfH.rd hx; NotTup.rd r
theorem IsD.lt (y : IsD prog w emb h d c) : d < h.objs.size := let ⟨_, _, ⟨_, _, _, ho, _⟩, _⟩ := y; Heap.lt_size ho
theorem Holds2.length {xs : List (List (Str ⊕ Int) × Addr × Value)} (y : Holds2 emb xs c) : xs.length = c.length := by
  induction y with
  | nil => rfl
  | cons _ ih => simp [ih]
theorem Holds2.get {xs : List (List (Str ⊕ Int) × Addr × Value)} (y : Holds2 emb xs c) : ∀ {i : Nat} {k : κ} {n : Int}, c[i]? = some (k, n) → ∃ a t, xs[i]? = some (emb k, a, .int n t) := by
  induction y with
  | nil => intro i k n e; simp at e
  | @cons a k n t xs c _ ih =>
    intro i k' n' e
    cases i with
    | zero => simp only [List.getElem?_cons_zero, Option.some.injEq, Prod.mk.injEq] at e; obtain ⟨rfl, rfl⟩ := e; exact ⟨a, t, rfl⟩
    | succ i => exact ih (by simpa using e)
theorem Holds2.append {xs ys : List (List (Str ⊕ Int) × Addr × Value)} {e : List (κ × Int)} (y : Holds2 emb xs c) (z : Holds2 emb ys e) : Holds2 emb (xs ++ ys) (c ++ e) := by
  induction y with
  | nil => exact z
  | cons _ ih => exact .cons ih
variable [DecidableEq κ]
theorem Holds2.look (inj : ∀ a b, emb a = emb b → a = b) {xs : List (List (Str ⊕ Int) × Addr × Value)} (y : Holds2 emb xs c) (k : κ) :
    (atKey xs (emb k) = none ∧ kprHas c k = false) ∨ ∃ p t n, atKey xs (emb k) = some (p, .int n t) ∧ kprHas c k = true ∧ ∀ e, kprLook c k e = n := by
  induction y with
  | nil => exact .inl ⟨rfl, rfl⟩
  | @cons a k' n t xs c _ ih =>
    by_cases e : k' = k
    · subst e
      refine .inr ⟨a, t, n, ?_, ?_, ?_⟩
      · simp [PySem.atKey]
      · simp [kpr_has_cons]
      · intro d; rw [kpr_look_cons, if_pos rfl]
    · have e' : ¬ emb k' = emb k := fun q => e (inj _ _ q)
      have h1 : atKey ((emb k', a, Value.int n t) :: xs) (emb k) = atKey xs (emb k) := by simp [PySem.atKey, List.find?_cons, e']
      rcases ih with ⟨i1, i2⟩ | ⟨p, t', n', i1, i2, i3⟩
      · exact .inl ⟨by rw [h1]; exact i1, by rw [kpr_has_cons, i2]; simp [e]⟩
      · exact .inr ⟨p, t', n', by rw [h1]; exact i1, by rw [kpr_has_cons, i2]; simp, fun d => by rw [kpr_look_cons, if_neg e]; exact i3 d⟩
theorem Holds2.map (inj : ∀ a b, emb a = emb b → a = b) {xs : List (List (Str ⊕ Int) × Addr × Value)} (y : Holds2 emb xs c) (k : κ) (n : Int) (t : Tok) :
    Holds2 emb (xs.map (putAt (emb k) (.int n t))) (c.map (kprSet k n)) := by
  induction y with
  | nil => exact .nil
  | @cons a k' n' t' xs c _ ih =>
    by_cases e : k' = k
    · subst e
      rw [List.map_cons, List.map_cons, kprSet_yes (p := (k', n')) rfl n]
      simp only [putAt]
      exact .cons ih
    · have e' : ¬ emb k' = emb k := fun q => e (inj _ _ q)
      rw [List.map_cons, List.map_cons, kprSet_no (p := (k', n')) e]
      simp only [putAt, if_neg e']
      exact .cons ih
theorem Holds2.keys {xs : List (List (Str ⊕ Int) × Addr × Value)} (y : Holds2 emb xs c) : xs.map (·.1) = (c.map (·.1)).map emb := by
  induction y with
  | nil => rfl
  | cons _ ih => simp only [List.map_cons, ih]
theorem Holds2.stored (inj : ∀ a b, emb a = emb b → a = b) {xs : List (List (Str ⊕ Int) × Addr × Value)} (y : Holds2 emb xs c) (k : κ) (a : Addr) (n : Int) (t : Tok) :
    Holds2 emb (storedH xs (emb k) a (.int n t)) (kprPut c k n) := by
  rcases y.look inj k with ⟨i1, i2⟩ | ⟨p, t', n', i1, i2, i3⟩
  · rw [storedH_new i1, kpr_put_new i2]; exact y.append (.cons .nil)
  · rw [storedH_old i1, kpr_put_old i2]; exact y.map inj k n t
theorem IsD.nodup (inj : ∀ a b, emb a = emb b → a = b) (y : IsD prog w emb h d c) : (c.map (·.1)).Nodup := by
  obtain ⟨_, xs, ⟨_, _, _, _, _, _, _, _, hn⟩, hh⟩ := y
  rw [hh.keys] at hn
  exact nodup_of_map hn
end
end Mine
end

section
open PySem PySem.W PyProof.Rows
namespace Mine
/-! The state of a frame in one word: the frame's names m, the changing objects O, all else as in hb. -/
def key3 (j : Int) : List (Str ⊕ Int) := [.inl (Str.ofString "to"), .inr j, .inl (Str.ofString "other")]
def key2 (p : Int × Int) : List (Str ⊕ Int) := [.inr p.1, .inr p.2]
theorem key3_inj : ∀ a b, key3 a = key3 b → a = b := fun a b h => by simpa [key3] using h
theorem key2_inj : ∀ a b, key2 a = key2 b → a = b := fun a b h => by
  obtain ⟨a1, a2⟩ := a; obtain ⟨b1, b2⟩ := b
  simpa [key2] using h

/-! Pairs of ints. -/
def IsPr (h : Heap) (v : Value) (p : Int × Int) : Prop := ∃ a t u, v = .ref a ∧ h.IsTuple a #[.int p.1 t, .int p.2 u]
inductive Prs (h : Heap) : List Value → List (Int × Int) → Prop
  | nil : Prs h [] []
  | cons {v : Value} {p : Int × Int} {vs : List Value} {ps : List (Int × Int)} : IsPr h v p → Prs h vs ps → Prs h (v :: vs) (p :: ps)
section
variable {h₀ : Heap} {W : List Addr}
theorem IsPr.kp {h h' : Heap} {v : Value} {p : Int × Int} (x : IsPr h v p) (k : Kp h₀ W h h') : IsPr h' v p := let ⟨a, t, u, e, y⟩ := x; ⟨a, t, u, e, isTuple_chg y k⟩
theorem Prs.kp {h h' : Heap} {vs : List Value} {ps : List (Int × Int)} (x : Prs h vs ps) (k : Kp h₀ W h h') : Prs h' vs ps := by
  induction x with
  | nil => exact .nil
  | cons p _ ih => exact .cons (p.kp k) ih
end
inductive AO where
  | lst (vs : List Value)
  | il (vs : List Value)
  | d3 (c : List (Int × Int))
  | d2 (c : List ((Int × Int) × Int))
  | di (c : List (Int × Int))
  | cell (v : Option Value)
  | pl (ps : List (Int × Int))

inductive Holds1 : List (Int × Value) → List (Int × Int) → Prop
  | nil : Holds1 [] []
  | cons {k n : Int} {t : Tok} {kvs : List (Int × Value)} {c : List (Int × Int)} : Holds1 kvs c → Holds1 ((k, .int n t) :: kvs) ((k, n) :: c)

def IsDI (prog : Program) (w : World) (h : Heap) (d : Addr) (c : List (Int × Int)) : Prop := (d == sysModules) = false ∧ ∃ kvs, h.DictOf (intKind prog w) d kvs ∧ Holds1 kvs c

def Rep (prog : Program) (w : World) (h : Heap) (a : Addr) : AO → Prop
  | .lst vs => h.PlainList a vs.toArray
  | .il vs => h.IsList a vs.toArray
  | .d3 c => IsD prog w key3 h a c
  | .d2 c => IsD prog w key2 h a c
  | .di c => IsDI prog w h a c
  | .cell v => h.IsCell a v
  | .pl ps => ∃ us : List Value, h.PlainList a us.toArray ∧ Prs h us ps

section
variable {prog : Program} {w : World} {h₀ hb h h' h'' : Heap} {W : List Addr} {a L : Addr} {o : AO} {m : Str → Option Value} {O O' : List (Addr × AO)}
theorem dictOf_rd {kvs : List (Int × Value)} (y : h.DictOf (intKind prog w) a kvs) : ∃ es ep, RD h a es ep := let ⟨o, es, ep, ho, hc, hd, _⟩ := y; ⟨es, ep, o, ho, hc, hd⟩
theorem Rep.chg (y : Rep prog w h a o) (x : Kp h₀ W h h') (hn : a ∉ W) : Rep prog w h' a o := by
  cases o with
  | lst vs => exact Heap.PlainList.at y fun o e => x.keep a o hn e
  | il vs => exact isList_chg y x hn
  | d3 c => exact IsD.chg y x hn
  | d2 c => exact IsD.chg y x hn
  | di c => obtain ⟨lo, kvs, hk, hh⟩ := y; exact ⟨lo, kvs, hk.at fun o e => x.keep a o hn e, hh⟩
  | cell v => exact isCell_chg y x hn
  | pl ps => obtain ⟨us, y1, y2⟩ := y; exact ⟨us, Heap.PlainList.at y1 fun o e => x.keep a o hn e, y2.kp x⟩
theorem Rep.notTup (y : Rep prog w h a o) : NotTup h a := by
  cases o with
  | lst vs => exact .list (Heap.PlainList.isList y)
  | il vs => exact .list y
  | d3 c => exact IsD.notTup y
  | d2 c => exact IsD.notTup y
  | di c => obtain ⟨lo, kvs, hk, hh⟩ := y; obtain ⟨es, ep, r⟩ := dictOf_rd hk; exact .rd r
  | cell v => exact .cell y
  | pl ps => obtain ⟨us, y1, _⟩ := y; exact .list (Heap.PlainList.isList y1)
theorem Rep.here (y : Rep prog w h a o) : ∃ ob, h.get? a = some ob := by
  cases o with
  | lst vs => obtain ⟨n, e⟩ := y; exact ⟨_, e⟩
  | il vs => obtain ⟨o, e, _⟩ := y; exact ⟨_, e⟩
  | d3 c => obtain ⟨_, _, ⟨_, _, _, ho, _⟩, _⟩ := y; exact ⟨_, ho⟩
  | d2 c => obtain ⟨_, _, ⟨_, _, _, ho, _⟩, _⟩ := y; exact ⟨_, ho⟩
  | di c => obtain ⟨lo, kvs, ⟨o, es, ep, e, _⟩, hh⟩ := y; exact ⟨_, e⟩
  | cell v => obtain ⟨o, e, _⟩ := y; exact ⟨_, e⟩
  | pl ps => obtain ⟨us, ⟨n, e⟩, _⟩ := y; exact ⟨_, e⟩
theorem Rep.lt (y : Rep prog w h a o) : a < h.objs.size := let ⟨_, e⟩ := y.here; Heap.lt_size e
theorem ns_here (y : h.Ns a m) : ∃ ob, h.get? a = some ob := let ⟨o, _, _, e, _⟩ := y; ⟨o, e⟩

/-- h₀: what stood before the law; hb: the heap at this stretch's start; W: what of hb the stretch may change; L: the frame; m: its names; O: objects known by what they hold. -/
structure St (prog : Program) (w : World) (h₀ hb : Heap) (W : List Addr) (L : Addr) (m : Str → Option Value) (O : List (Addr × AO)) (h : Heap) : Prop where
  fr : Fr h₀ L h m
  chg : Chg h₀ W hb h
  objs : ∀ p ∈ O, Rep prog w h p.1 p.2 ∧ h₀.objs.size ≤ p.1
  nodup : (L :: O.map (·.1)).Nodup
  may : ∀ a ∈ L :: O.map (·.1), a ∈ W ∨ hb.get? a = none

theorem St.rebase (x : St prog w h₀ hb W L m O h) : St prog w h₀ h (L :: O.map (·.1)) L m O h := ⟨x.fr, .refl, x.objs, x.nodup, fun _ h => .inl h⟩
theorem St.big (x : St prog w h₀ hb W L m O h) : h₀.objs.size ≤ h.objs.size := Nat.le_trans x.fr.above (Nat.le_of_lt x.fr.ns.lt)
/-- a step that changes L alone -/
theorem St.frame {m' : Str → Option Value} (x : St prog w h₀ hb W L m O h) (hs : Heap.SameBut L h h') (hn : h'.Ns L m') : St prog w h₀ hb W L m' O h' := by
  obtain ⟨ob, hob⟩ := ns_here hn
  have c : Chg h₀ [L] h h' := .same hs (.ns x.fr.ns) x.fr.above hob
  refine ⟨x.fr.set hn hs, x.chg.step c (fun a q => by rw [List.mem_singleton.mp q]; exact x.may L (.head _)), fun p hp => ⟨(x.objs p hp).1.chg c.toKp ?_, (x.objs p hp).2⟩, x.nodup, x.may⟩
  intro e
  have := List.mem_singleton.mp e
  exact (List.nodup_cons.mp x.nodup).1 (this ▸ List.mem_map.mpr ⟨p, hp, rfl⟩)
/-- a step that leaves L and O alone: it changes what did not stand at the start, or makes -/
theorem St.other (x : St prog w h₀ hb W L m O h) {V : List Addr} (c : Kp h₀ V h h') (hv : ∀ a ∈ V, a ∉ L :: O.map (·.1)) (hf : ∀ a ∈ V, hb.get? a = none) : St prog w h₀ hb W L m O h' :=
  ⟨Fr.chg x.fr c fun e => hv _ e (.head _), x.chg.past c hf, fun p hp => ⟨(x.objs p hp).1.chg c fun e => hv _ e (.tail _ (List.mem_map.mpr ⟨p, hp, rfl⟩)), (x.objs p hp).2⟩, x.nodup, x.may⟩
theorem St.push (x : St prog w h₀ hb W L m O h) (o : Obj) : St prog w h₀ hb W L m O (h.push o) := x.other (V := []) (.push o) (fun _ q => nomatch q) (fun _ q => nomatch q)
/-- a new object of ours -/
theorem St.add (x : St prog w h₀ hb W L m O h) (r : Rep prog w h a o) (hlo : h₀.objs.size ≤ a) (hn : a ∉ L :: O.map (·.1)) (hm : a ∈ W ∨ hb.get? a = none) : St prog w h₀ hb W L m ((a, o) :: O) h := by
  refine ⟨x.fr, x.chg, ?_, ?_, ?_⟩
  · intro p hp
    rcases List.mem_cons.mp hp with rfl | hp
    · exact ⟨r, hlo⟩
    · exact x.objs p hp
  · obtain ⟨n1, n2⟩ := List.nodup_cons.mp x.nodup
    refine List.nodup_cons.mpr ⟨?_, List.nodup_cons.mpr ⟨fun e => hn (.tail _ e), n2⟩⟩
    intro e
    rcases List.mem_cons.mp e with e | e
    · exact hn (e ▸ .head _)
    · exact n1 e
  · intro b q
    rcases List.mem_cons.mp q with rfl | q
    · exact x.may _ (.head _)
    · rcases List.mem_cons.mp q with rfl | q
      · exact hm
      · exact x.may _ (.tail _ q)
theorem St.fresh (x : St prog w h₀ hb W L m O h) : h.objs.size ∉ L :: O.map (·.1) := by
  intro e
  rcases List.mem_cons.mp e with e | e
  · exact absurd x.fr.ns.lt (e ▸ Nat.lt_irrefl _)
  · obtain ⟨p, hp, q⟩ := List.mem_map.mp e
    exact absurd (x.objs p hp).1.lt (by rw [q]; exact Nat.lt_irrefl _)
theorem St.new (x : St prog w h₀ hb W L m O h) (ob : Obj) (r : Rep prog w (h.push ob) h.objs.size o) : St prog w h₀ hb W L m ((h.objs.size, o) :: O) (h.push ob) :=
  (x.push ob).add r x.big x.fresh (.inr x.chg.fresh)
theorem set_fst {α β : Type} (l : List (α × β)) (i : Nat) (a : α) (b b' : β) (e : l[i]? = some (a, b)) : (l.set i (a, b')).map (·.1) = l.map (·.1) := by
  rw [List.map_set]
  refine List.ext_getElem? fun j => ?_
  rw [List.getElem?_set]
  split
  · rename_i q; subst q
    rw [List.getElem?_map, e]
    split
    · rfl
    · rename_i q
      have := (List.getElem?_eq_some_iff.mp e).1
      exact absurd (by simpa using this) q
  · rfl
/-- one of O changes -/
theorem St.put {i : Nat} {o o' : AO} (x : St prog w h₀ hb W L m O h) (e : O[i]? = some (a, o)) (hs : Heap.SameBut a h h') (r : Rep prog w h' a o') : St prog w h₀ hb W L m (O.set i (a, o')) h' := by
  have hm : (a, o) ∈ O := List.mem_of_getElem? e
  have ho := x.objs _ hm
  obtain ⟨n1, n2⟩ := List.nodup_cons.mp x.nodup
  have hmem : a ∈ O.map (·.1) := List.mem_map.mpr ⟨_, hm, rfl⟩
  obtain ⟨ob, hob⟩ := r.here
  have c : Chg h₀ [a] h h' := .same hs ho.1.notTup ho.2 hob
  have hLa : L ≠ a := fun q => n1 (q ▸ hmem)
  refine ⟨Fr.chg x.fr c.toKp (by simpa using hLa), x.chg.step c (fun b q => by rw [List.mem_singleton.mp q]; exact x.may a (.tail _ hmem)), ?_, ?_, ?_⟩
  · intro p hp
    obtain ⟨j, hj⟩ := List.mem_iff_getElem?.mp hp
    rw [List.getElem?_set] at hj
    split at hj
    · rename_i q; subst q
      split at hj
      · cases hj; exact ⟨r, ho.2⟩
      · cases hj
    · rename_i q
      have hp' : p ∈ O := List.mem_of_getElem? hj
      refine ⟨(x.objs p hp').1.chg c.toKp ?_, (x.objs p hp').2⟩
      intro ea
      have ea := List.mem_singleton.mp ea
      have h1 : (O.map (·.1))[i]? = some a := by rw [List.getElem?_map, e]; rfl
      have h2 : (O.map (·.1))[j]? = some a := by rw [List.getElem?_map, hj, ← ea]; rfl
      exact q ((List.getElem?_inj (List.getElem?_eq_some_iff.mp h1).1 n2).mp (h1.trans h2.symm))
  · rw [set_fst O i a o o' e]; exact x.nodup
  · rw [set_fst O i a o o' e]; exact x.may
theorem St.get {i : Nat} {o : AO} (x : St prog w h₀ hb W L m O h) (e : O[i]? = some (a, o)) : Rep prog w h a o := (x.objs _ (List.mem_of_getElem? e)).1
theorem St.lo {i : Nat} {o : AO} (x : St prog w h₀ hb W L m O h) (e : O[i]? = some (a, o)) : h₀.objs.size ≤ a := (x.objs _ (List.mem_of_getElem? e)).2
/-- forget some of O -/
theorem St.sub (x : St prog w h₀ hb W L m O h) (s : O'.Sublist O) : St prog w h₀ hb W L m O' h := by
  have sm : (L :: O'.map (·.1)).Sublist (L :: O.map (·.1)) := (s.map _).cons_cons L
  exact ⟨x.fr, x.chg, fun p hp => x.objs p (s.subset hp), x.nodup.sublist sm, fun a q => x.may a (sm.subset q)⟩
theorem St.perm (x : St prog w h₀ hb W L m O h) (s : O'.Perm O) : St prog w h₀ hb W L m O' h := by
  have sm : (L :: O'.map (·.1)).Perm (L :: O.map (·.1)) := (s.map _).cons L
  exact ⟨x.fr, x.chg, fun p hp => x.objs p (s.subset hp), sm.nodup_iff.mpr x.nodup, fun a q => x.may a (sm.subset q)⟩
/-- a call from here changed V, all of it among O -/
theorem St.call (x : St prog w h₀ hb W L m O h) {V : List Addr} (c : Chg h₀ V h h') (hV : ∀ a ∈ V, a ∈ O.map (·.1)) (hO : O'.map (·.1) = O.map (·.1)) (hr : ∀ p ∈ O', (p ∈ O ∧ p.1 ∉ V) ∨ Rep prog w h' p.1 p.2) : St prog w h₀ hb W L m O' h' := by
  obtain ⟨n1, n2⟩ := List.nodup_cons.mp x.nodup
  refine ⟨Fr.chg x.fr c.toKp fun e => n1 (hV _ e), x.chg.step c fun a q => x.may a (.tail _ (hV a q)), fun p hp => ⟨?_, ?_⟩, ?_, ?_⟩
  · rcases hr p hp with ⟨q, n⟩ | q
    · exact (x.objs p q).1.chg c.toKp n
    · exact q
  · have : p.1 ∈ O.map (·.1) := hO ▸ List.mem_map.mpr ⟨p, hp, rfl⟩
    obtain ⟨q, hq, e⟩ := List.mem_map.mp this
    exact e ▸ (x.objs q hq).2
  · rw [hO]; exact x.nodup
  · rw [hO]; exact x.may
/-- a call that changed nothing of ours -/
theorem St.call0 (x : St prog w h₀ hb W L m O h) (c : Chg h₀ [] h h') : St prog w h₀ hb W L m O h' := x.call c (fun _ q => nomatch q) rfl fun p hp => .inl ⟨hp, fun q => nomatch q⟩
/-- a stretch within: it began at h with W' = L :: O -/
theorem St.join {h₁ : Heap} {m' : Str → Option Value} (x : St prog w h₀ hb W L m O h) (y : St prog w h₀ h₁ (L :: O.map (·.1)) L m' O' h') (c : Chg h₀ (L :: O.map (·.1)) h h₁) : St prog w h₀ hb W L m' O' h' := by
  have z : Chg h₀ (L :: O.map (·.1)) h h' := c.step y.chg fun a q => .inl q
  exact ⟨y.fr, x.chg.step z x.may, y.objs, y.nodup, fun a q => (y.may a q).elim (x.may a) fun q => .inr (x.chg.none (c.none q))⟩
/-! families of objects -/
variable {α : Type} {f : α → Addr × AO} {q : List α} {P B : List (Addr × AO)} {p' : α}
theorem St.exch {i : Nat} (x : St prog w h₀ hb W L m (f p' :: (P ++ (q.map f ++ B))) h) (hi : i < q.length) : St prog w h₀ hb W L m (P ++ ((q.set i p').map f ++ B)) h := by
  have s : (f p' :: (P ++ ((q.eraseIdx i).map f ++ B))).Sublist (f p' :: (P ++ (q.map f ++ B))) :=
    List.Sublist.cons_cons _ (List.Sublist.append (List.Sublist.refl P) (((List.eraseIdx_sublist q i).map f).append (List.Sublist.refl B)))
  refine (x.sub s).perm ?_
  rw [List.set_eq_take_append_cons_drop, if_pos hi, List.map_append, List.map_cons, List.eraseIdx_eq_take_drop_succ, List.map_append, List.append_assoc, List.append_assoc, ← List.append_assoc P, ← List.append_assoc P]
  exact List.perm_middle
theorem St.snoc (x : St prog w h₀ hb W L m (f p' :: (P ++ (q.map f ++ B))) h) : St prog w h₀ hb W L m (P ++ ((q ++ [p']).map f ++ B)) h := by
  refine x.perm ?_
  rw [List.map_append, List.map_cons, List.map_nil, List.append_assoc, ← List.append_assoc P, ← List.append_assoc P]
  exact List.perm_middle
end
end Mine
end

section
open PySem PySem.W PyProof.Rows
namespace Mine
section
variable {prog : Program} {w : World} {h₀ hb : Heap} {W : List Addr} {a d : Addr} {o : AO} {m : Str → Option Value} {O O' : List (Addr × AO)} {A : Around} {E : Value → Shared → Prop} {s : Shared} {env : Env}

/-! names -/
theorem eN {n : Str} {pos : Pos} {v : Value} {Q : Value → Shared → Prop} (x : St prog w h₀ hb W env.locals m O s.heap) (hv : m n = some v) (h : Q v s)
    (hk : env.scope.kind = .function := by rfl) (hl : env.kindOf n = some .local := by rfl) (hd : (n == ("__debug__" : Str)) = false := by decide) :
    wpAny (model prog w) A (eval (.Name n pos) env) Q E s := wpAny_Name (wpAny_loadName_local hk hl x.fr.ns hv h) hd
theorem lN {n : Str} {v : Value} {Q : Value → Shared → Prop} (x : St prog w h₀ hb W env.locals m O s.heap) (hv : m n = some v) (h : Q v s)
    (hk : env.scope.kind = .function := by rfl) (hl : env.kindOf n = some .local := by rfl) :
    wpAny (model prog w) A (loadName env n) Q E s := wpAny_loadName_local hk hl x.fr.ns hv h
theorem sN {n : Str} {v : Value} {Q : Unit → Shared → Prop} (x : St prog w h₀ hb W env.locals m O s.heap)
    (h : ∀ h', St prog w h₀ hb W env.locals (fun y => if y = n then some v else m y) O h' → Q () { s with heap := h', toks := s.toks + 1 })
    (hk : env.scope.kind = .function := by rfl) (hl : env.kindOf n = some .local := by rfl) : wpAny (model prog w) A (storeName env n v) Q E s :=
  wpAny_storeName_local hl x.fr.ns (fun h' hn hs => h h' (x.frame hs hn)) (by
    rw [hk]; rfl)

/-! dicts with tuples as keys -/
variable {κ : Type} [DecidableEq κ] {emb : κ → List (Str ⊕ Int)} {c : List (κ × Int)} {k : κ}
theorem isD_new (lo : (s.heap.objs.size == sysModules) = false) : IsD prog w emb (s.heap.push { cls := .type "dict", data := .dict #[] }) s.heap.objs.size [] := ⟨lo, [], .new _, .nil⟩
theorem isD_set {n : Int} {t : Tok} {Q : Unit → Shared → Prop} (inj : ∀ a b, emb a = emb b → a = b) (hu : A.units + 1 < cLine) (x : IsD prog w emb s.heap d c) (hk : IsTupleKey (mix prog w) s.heap (emb k) a)
    (hz : c.length ≤ 1000) (h : ∀ h' tk, IsD prog w emb h' d (kprPut c k n) → Heap.SameBut d s.heap h' → Q () { s with heap := h', toks := tk }) :
    wpAny (model prog w) A (setItem (.ref d) (.ref a) (.int n t)) Q E s := by
  obtain ⟨lo, xs, hx, hh⟩ := x
  refine wpAny_setItem_heap (knd := tupleKind (mix prog w)) (k := emb k) hu hk hx (fun h' hm hs => h h' _ ⟨lo, _, hm, hh.stored inj k a n t⟩ hs) ?_
  rw [hh.length, sizeLine_eq]; omega
theorem isD_item {Q : Value → Shared → Prop} (inj : ∀ a b, emb a = emb b → a = b) (hu : A.units + 1 < cLine) (x : IsD prog w emb s.heap d c) (hk : IsTupleKey (mix prog w) s.heap (emb k) a)
    (hh : kprHas c k = true) (h : ∀ t tk, Q (.int (kprLook c k 0) t) { s with toks := tk }) : wpAny (model prog w) A (getItem (.ref d) (.ref a)) Q E s := by
  obtain ⟨lo, xs, hx, hy⟩ := x
  rcases hy.look inj k with ⟨_, i2⟩ | ⟨p, t, n, i1, _, i3⟩
  · rw [hh] at i2; cases i2
  · refine wpAny_getItem_heap (knd := tupleKind (mix prog w)) (k := emb k) hu hk hx i1 ?_
    have := h t
    rw [i3 0] at this
    exact this _
theorem isD_in {Q : Value → Shared → Prop} (inj : ∀ a b, emb a = emb b → a = b) (hu : A.units + 1 < cLine) (x : IsD prog w emb s.heap d c) (hk : IsTupleKey (mix prog w) s.heap (emb k) a)
    (h : ∀ tk, Q (.bool (kprHas c k)) { s with toks := tk }) : wpAny (model prog w) A (compareOp .In (.ref a) (.ref d)) Q E s := by
  obtain ⟨lo, xs, hx, hy⟩ := x
  refine wpAny_in_heap (knd := tupleKind (mix prog w)) (k := emb k) hu hk lo hx ?_
  rcases hy.look inj k with ⟨i1, i2⟩ | ⟨p, t, n, i1, i2, _⟩
  · rw [i1]; rw [i2] at h; exact h _
  · rw [i1]; rw [i2] at h; exact h _
theorem isD_get {e : Int} {u : Tok} {Q : Value → Shared → Prop} (inj : ∀ a b, emb a = emb b → a = b) (hu : A.units + 1 < cLine) (x : IsD prog w emb s.heap d c) (hk : IsTupleKey (mix prog w) s.heap (emb k) a)
    (h : ∀ t tk, Q (.int (kprLook c k e) t) { s with toks := tk }) : wpAny (model prog w) A (call (.builtin "dict.get") [.ref d, .ref a, .int e u]) Q E s := by
  obtain ⟨lo, xs, hx, hy⟩ := x
  refine call_meetsIn PySem.F.slot_dict_get hx.typeIs PySem.F.entry_dict_get (PySem.F.args_dict_get_3 _ _ _) (meetsH_dict_get_default (tupleKind (mix prog w)) d a lo _) ⟨hu, emb k, xs, hk, hx, ?_⟩
  rcases hy.look inj k with ⟨i1, i2⟩ | ⟨p, t, n, i1, i2, i3⟩
  · rw [i1]
    have := h u
    rw [kpr_look_none i2] at this
    exact this _
  · rw [i1]
    have := h t
    rw [i3 e] at this
    exact this _
end
end Mine
end

section
open PySem PySem.W PyProof.Rows
namespace Mine
section
variable {prog : Program} {w : World} {h₀ hb : Heap} {W : List Addr} {a d : Addr} {m : Str → Option Value} {O : List (Addr × AO)} {A : Around} {E : Value → Shared → Prop} {s : Shared} {env : Env}

/-- a turn's end -/
def TurnEnd (prog : Program) (w : World) (h₀ h : Heap) (L : Addr) (Wt : List Addr) (J : (Str → Option Value) → List (Addr × AO) → Prop) (s s' : Shared) : Prop :=
  ∃ h' tk m' O', s' = { s with heap := h', toks := tk } ∧ St prog w h₀ h Wt L m' O' h' ∧ J m' O'
def Turn (prog : Program) (w : World) (h₀ h : Heap) (L : Addr) (Wt : List Addr) (J : (Str → Option Value) → List (Addr × AO) → Prop) (Q : Flow → Shared → Prop) (s : Shared) (f : Flow) (s' : Shared) : Prop :=
  match f with
  | .ret v => Q (.ret v) s'
  | .brk => Q .next s'
  | _ => TurnEnd prog w h₀ h L Wt J s s'
theorem Turn.next {h : Heap} {L : Addr} {Wt : List Addr} {J : (Str → Option Value) → List (Addr × AO) → Prop} {Q : Flow → Shared → Prop} {h' : Heap} {tk : Nat} {m' : Str → Option Value} {O' : List (Addr × AO)}
    (x : St prog w h₀ h Wt L m' O' h') (j : J m' O') : Turn prog w h₀ h L Wt J Q s .next { s with heap := h', toks := tk } := ⟨h', tk, m', O', rfl, x, j⟩

/-- for a loop's body: the state at its start, all that a turn may change being L and O -/
theorem for_turns {R : Result → Shared → Prop} {target : Expr} {body : List Stmt} {I : Addr} {fp wr : List Addr} {n : Nat} {P Md : Nat → Value → Heap → Prop} {Sw : Nat → Heap → Prop} {m : Str → Option Value}
    (T : KTurns prog w A target I fp wr n P Md Sw)
    (hst : Sw 0 s.heap) (X : St prog w h₀ hb W env.locals m O s.heap) (hfp : ∀ b ∈ fp, b ∉ env.locals :: O.map (·.1)) (hwr : ∀ b ∈ wr, h₀.objs.size ≤ b ∧ hb.get? b = none)
    (hwt : ∀ i h, Sw i h → (∀ b ∈ wr, NotTup h b) ∧ ∀ b ∈ fp, ∃ o, h.get? b = some o)
    (J : Nat → (Str → Option Value) → List (Addr × AO) → Prop) (j0 : J 0 m O)
    (step : ∀ i v m₁ O₁ h tk, i < n → P i v h → J i m₁ O₁ → St prog w h₀ h (env.locals :: O₁.map (·.1)) env.locals m₁ O₁ h → Kp h₀ (wr ++ (env.locals :: O.map (·.1))) s.heap h →
      wpAny (model prog w) A (assign target env v) (fun _ s₂ => wpAny (model prog w) A (execs body env) (Turn prog w h₀ h env.locals (env.locals :: O₁.map (·.1)) (J (i + 1)) (fun f s' => R (.ok f) s') { s with heap := h, toks := tk }) (fun _ _ => False) s₂) (fun _ _ => False) { s with heap := h, toks := tk })
    (done : ∀ m₁ O₁ h tk, J n m₁ O₁ → St prog w h₀ hb W env.locals m₁ O₁ h → Kp h₀ (wr ++ (env.locals :: O.map (·.1))) s.heap h → R (.ok .next) { s with heap := h, toks := tk }) :
    codeAny (model prog w) A (.forLoop target (.ref I) body [] env) R s := by
  refine codeAny_forLoop_any
    (fun k s' => ∃ h' tk m' O' i, s' = { s with heap := h', toks := tk } ∧ Sw i h' ∧ St prog w h₀ hb W env.locals m' O' h' ∧ (∀ b ∈ fp, b ∉ env.locals :: O'.map (·.1)) ∧
      (∀ a ∈ O'.map (·.1), a ∈ env.locals :: O.map (·.1) ∨ s.heap.get? a = none) ∧ Kp h₀ (wr ++ (env.locals :: O.map (·.1))) s.heap h' ∧ J i m' O' ∧ i ≤ n ∧ k = n + 1 - i) ?_ (n + 1)
    ⟨s.heap, s.toks, m, O, 0, rfl, hst, X, hfp, fun a ha => .inl (.tail _ ha), .refl, j0, Nat.zero_le _, rfl⟩
  rintro k s' ⟨h', tk, m', O', i, rfl, hst', X', hfp', hO', hk', hJ, hi, rfl⟩
  have walked : ∀ h₁ : Heap, (∀ b o, b ∉ wr → h'.get? b = some o → h₁.get? b = some o) → St prog w h₀ hb W env.locals m' O' h₁ ∧ Kp h₀ (wr ++ (env.locals :: O.map (·.1))) s.heap h₁ := fun h₁ hk₁ => by
    have c : Kp h₀ wr h' h₁ := .ofKeep hk₁ (hwt i h' hst').1 fun a q => (hwr a q).1
    exact ⟨X'.other c (fun a q => hfp' a (T.sub a q)) fun a q => (hwr a q).2, hk'.trans (c.mono fun b q => List.mem_append_left _ q)⟩
  by_cases hlt : i < n
  · refine T.item i _ _ _ hlt hst' fun v h₁ tk₁ hMd hk₁ => ?_
    refine T.go i v _ _ _ hMd fun h₂ hP hst₂ hk₂' => ?_
    obtain ⟨X₂, k₂⟩ := walked h₂ fun b o q e => hk₂' b o q (hk₁ b o q e)
    refine wpAny_mono (step i v m' O' h₂ _ hlt hP hJ X₂.rebase k₂) (fun _ s₂ g₂ => wpAny_mono g₂ (fun f s₃ g₃ => ?_) fun _ _ e => e.elim) fun _ _ e => e.elim
    have fin : ∀ s₃, TurnEnd prog w h₀ h₂ env.locals (env.locals :: O'.map (·.1)) (J (i + 1)) { s with heap := h₂, toks := tk₁ } s₃ →
        ∃ m_1, m_1 < n + 1 - i ∧ ∃ h' tk m' O' i, s₃ = { s with heap := h', toks := tk } ∧ Sw i h' ∧ St prog w h₀ hb W env.locals m' O' h' ∧ (∀ b ∈ fp, b ∉ env.locals :: O'.map (·.1)) ∧
          (∀ a ∈ O'.map (·.1), a ∈ env.locals :: O.map (·.1) ∨ s.heap.get? a = none) ∧ Kp h₀ (wr ++ (env.locals :: O.map (·.1))) s.heap h' ∧ J i m' O' ∧ i ≤ n ∧ m_1 = n + 1 - i := by
      rintro s₃ ⟨h₃, tk₃, m₃, O₃, rfl, X₃, j₃⟩
      have keepI : ∀ b ∈ fp, ∀ o, h₂.get? b = some o → h₃.get? b = some o := fun b q o e => X₃.chg.keep b o (hfp' b q) e
      refine ⟨n + 1 - (i + 1), by omega, h₃, tk₃, m₃, O₃, i + 1, rfl, T.frame _ _ _ hst₂ keepI, X₂.join X₃ .refl, ?_, ?_, ?_, j₃, hlt, rfl⟩
      · intro b q e
        rcases X₃.may b e with e | e
        · exact hfp' b q e
        · obtain ⟨o, ho⟩ := (hwt _ _ hst₂).2 b q
          rw [e] at ho; cases ho
      · intro b e
        rcases X₃.may b (.tail _ e) with e | e
        · rcases List.mem_cons.mp e with rfl | e
          · exact .inl (.head _)
          · exact hO' b e
        · by_cases q : b ∈ env.locals :: O.map (·.1)
          · exact .inl q
          · refine .inr ?_
            cases e' : s.heap.get? b with
            | none => rfl
            | some o =>
              by_cases qw : b ∈ wr
              · obtain ⟨o', ho'⟩ := (hwt _ _ hst₂).2 b (T.sub b qw)
                rw [e] at ho'; cases ho'
              · have := k₂.keep b o (fun z => (List.mem_append.mp z).elim qw q) e'
                rw [e] at this; cases this
      · refine k₂.step X₃.chg.toKp fun b e => ?_
        rcases List.mem_cons.mp e with rfl | e
        · exact .inl (List.mem_append_right _ (.head _))
        · rcases hO' b e with e | e
          · exact .inl (List.mem_append_right _ e)
          · exact .inr e
    cases f with
    | ret v => exact g₃
    | brk => exact g₃
    | cont => exact fin _ g₃
    | next => exact fin _ g₃
  · have hin : i = n := by omega
    subst hin
    refine T.done _ _ _ hst' fun h₁ tk₁ hk₁ => wpAny_execs_nil ?_
    obtain ⟨X₁, k₁⟩ := walked h₁ hk₁
    exact done m' O' h₁ tk₁ hJ X₁ k₁

/-- a for statement -/
theorem for_stmt {target iter : Expr} {body : List Stmt} {pos : Pos} {Q : Flow → Shared → Prop}
    (h : wpAny (model prog w) A (eval iter env) (fun xv s₁ => wpAny (model prog w) A (pyIter xv) (fun it s₂ => codeAny (model prog w) A (.forLoop target it body [] env) (fun r s' => match r with | .ok f => Q f s' | .error _ => False) s₂) (fun _ _ => False) s₁) (fun _ _ => False) s)
    (hs : ∀ x, foldedSetIterable iter env x = pure x := by intro _; rfl) :
    wpAny (model prog w) A (exec (.For target iter body [] pos) env) Q (fun _ _ => False) s :=
  wpAny_For (wpAny_mono h (fun _ _ h₁ => wpAny_mono h₁ (fun _ _ h₂ => codeAny_mono h₂ fun r s' g => by
    cases r with
    | ok f => exact g
    | error e => exact g.elim) fun _ _ e => e) fun _ _ e => e) hs

/-! what a loop goes over -/
theorem list_turns {target : Expr} {I ax : Addr} (hh : A.handled = none) (hne : ax ≠ I) (items : Array Value) (hgo : ∀ v, letOwnedTupleGo target (.ref I) v = pure ()) :
    KTurns prog w A target I [I, ax] [I] items.size (fun i v _ => items[i]? = some v) (fun i v h => items[i]? = some v ∧ (h.IsListIter I ax (i + 1) ∧ h.IsList ax items)) (fun i h => h.IsListIter I ax i ∧ h.IsList ax items) :=
  .ofWalks (Walks.list hh I ax hne items) fun i v s Q E st q => wpAny_of_eq (hgo v) q
theorem list_turns_ok {I ax : Addr} {items : Array Value} {i : Nat} {h : Heap} (x : h.IsListIter I ax i ∧ h.IsList ax items) : (∀ b ∈ [I], NotTup h b) ∧ ∀ b ∈ [I, ax], ∃ o, h.get? b = some o := by
  obtain ⟨⟨o, ho, hc, hd⟩, ⟨o', ho', _⟩⟩ := x
  refine ⟨fun b q => by rw [List.mem_singleton.mp q]; exact .fields ho hd, fun b q => ?_⟩
  rcases List.mem_cons.mp q with rfl | q
  · exact ⟨_, ho⟩
  · rw [List.mem_singleton.mp q]; exact ⟨_, ho'⟩
theorem range_turns {target : Expr} {I : Addr} (hh : A.handled = none) (n : Nat) (hgo : ∀ v, letOwnedTupleGo target (.ref I) v = pure ()) :
    KTurns prog w A target I [I] [I] n (fun i v _ => ∃ t, v = .int (i : Int) t) (fun i v h => (∃ t, v = .int (0 + (i : Int) * 1) t) ∧ IsRangeIter h I (0 + ((i + 1 : Nat) : Int) * 1) ((n : Int) - ((i + 1 : Nat) : Int)) 1) (fun i h => IsRangeIter h I (0 + (i : Nat) * 1) ((n : Int) - (i : Nat)) 1) := by
  have W := KTurns.ofWalks (target := target) (Walks.range (prog := prog) (w := w) hh I 0 1 n) fun i v s Q E st q => wpAny_of_eq (hgo v) q
  exact ⟨W.sub, W.frame, W.item, fun i v s Q E hm hQ => W.go i v s Q E hm fun h' p st k => hQ h' (by obtain ⟨t, rfl⟩ := p; exact ⟨t, by simp⟩) st k, W.done⟩
end
end Mine
end

section
open PySem PySem.W PyProof.Rows
namespace Mine
section
variable {prog : Program} {w : World} {h₀ hb : Heap} {W : List Addr} {a d : Addr} {m : Str → Option Value} {O : List (Addr × AO)} {A : Around} {E : Value → Shared → Prop} {s : Shared} {env : Env}
variable {κ : Type} {emb : κ → List (Str ⊕ Int)} {c : List (κ × Int)} {k : κ}

/-- the entries of such a dict, told in h -/
structure Ent (prog : Program) (w : World) (emb : κ → List (Str ⊕ Int)) (h : Heap) (es : Array DictEntry) (c : List (κ × Int)) : Prop where
  size : es.size = c.length
  at' : ∀ (i : Nat) (k : κ) (n : Int), c[i]? = some (k, n) → ∃ a t, ∃ e : DictEntry, es[i]? = some e ∧ e.key = .ref a ∧ e.val = .int n t ∧ IsTupleKey (mix prog w) h (emb k) a
theorem IsD.ent {h : Heap} (x : IsD prog w emb h d c) : (d == sysModules) = false ∧ ∃ es ep, RD h d es ep ∧ Ent prog w emb h es c := by
  obtain ⟨lo, xs, hx, hh⟩ := x
  obtain ⟨es, ep, r, e⟩ := DictOfH.rd hx
  obtain ⟨_, _, _, _, _, _, _, hk, _⟩ := hx
  refine ⟨lo, es, ep, r, ?_, ?_⟩
  · rw [← Array.length_toList, e, List.length_map, hh.length]
  · intro i k n hc
    obtain ⟨a, t, g⟩ := hh.get hc
    refine ⟨a, t, entryOfKey (tupleKind (mix prog w)) (emb k, a, .int n t), ?_, rfl, rfl, hk _ (List.mem_of_getElem? g)⟩
    rw [← Array.getElem?_toList, e, List.getElem?_map, g]; rfl
theorem Ent.kp {h h' : Heap} {es : Array DictEntry} (x : Ent prog w emb h es c) (y : Kp h₀ W h h') : Ent prog w emb h' es c :=
  ⟨x.size, fun i k n e => let ⟨a, t, g, h1, h2, h3, h4⟩ := x.at' i k n e; ⟨a, t, g, h1, h2, h3, key_chg h4 y⟩⟩

theorem items_turns {elts : List Expr} {kk : Nat} {pos : Pos} {I : Addr} {es : Array DictEntry} {ep : Nat} (hh : A.handled = none) (hne : d ≠ I) :
    KTurns prog w A (.Tuple elts kk pos) I [I, d] [I] es.size
      (fun i v h => ∃ T, ∃ e : DictEntry, v = .ref T ∧ es[i]? = some e ∧ h.IsTuple T #[e.key, e.val])
      (fun i v h => ∃ T, ∃ e : DictEntry, v = .ref T ∧ es[i]? = some e ∧ h.IsTuple T #[e.key, e.val] ∧ (∃ ok ov, IsItemIterOut h I d (i + 1) es.size ep ok ov T) ∧ RD h d es ep ∧ T ≠ I)
      (fun i h => (∃ ok ov, IsItemIter h I d i es.size ep ok ov) ∧ RD h d es ep) where
  sub := fun b q => by rw [List.mem_singleton.mp q]; exact .head _
  frame := fun i h h' st hk => by
    obtain ⟨⟨ok, ov, he⟩, hm⟩ := st
    exact ⟨⟨ok, ov, hk I (by simp) _ he⟩, hm.at fun o e => hk d (by simp) o e⟩
  item := fun i s Q E hi st hQ => by
    obtain ⟨⟨ok, ov, he⟩, hm⟩ := st
    obtain ⟨e, hx⟩ : ∃ e, es[i]? = some e := ⟨es[i], by simp [hi]⟩
    refine rd_next_item he hm hx fun h' ho hT hz hk => ?_
    exact hQ (.ref s.heap.objs.size) h' s.toks ⟨s.heap.objs.size, e, rfl, hx, ⟨_, hT, rfl, _, rfl⟩, ⟨_, _, ho⟩, hm.at (fun o q => hk d o hne q), Nat.ne_of_gt (Heap.lt_size he)⟩ fun b o q g => hk b o (fun z => q (by simp [z])) g
  go := fun i v s Q E hm hQ => by
    obtain ⟨T, e, rfl, hx, hT, ⟨ok, ov, ho⟩, hd, hTI⟩ := hm
    refine wpAny_letOwnedTupleGo_items ho fun h' he hs => ?_
    exact hQ h' ⟨T, e, rfl, hx, hT.at fun o q => hs.extBut T o hTI q⟩ ⟨⟨ok, ov, he⟩, hd.at fun o q => hs.extBut d o hne q⟩ fun b o q g => hs.extBut b o (fun z => q (by simp [z])) g
  done := fun s Q E st hQ => by
    obtain ⟨⟨ok, ov, he⟩, hm⟩ := st
    exact rd_end_item hh he hm (by simp) fun h' hx => hQ h' s.toks fun b o q g => hx b o (fun z => q (by simp [z])) g
theorem items_turns_ok {I : Addr} {es : Array DictEntry} {ep i : Nat} {h : Heap} (x : (∃ ok ov, IsItemIter h I d i es.size ep ok ov) ∧ RD h d es ep) : (∀ b ∈ [I], NotTup h b) ∧ ∀ b ∈ [I, d], ∃ o, h.get? b = some o := by
  obtain ⟨⟨ok, ov, ho⟩, ⟨o', ho', _⟩⟩ := x
  refine ⟨fun b q => by rw [List.mem_singleton.mp q]; exact .fields ho rfl, fun b q => ?_⟩
  rcases List.mem_cons.mp q with rfl | q
  · exact ⟨_, ho⟩
  · rw [List.mem_singleton.mp q]; exact ⟨_, ho'⟩
theorem vals_turns {target : Expr} {I : Addr} {es : Array DictEntry} {ep : Nat} (hh : A.handled = none) (hne : d ≠ I) (hgo : ∀ v, letOwnedTupleGo target (.ref I) v = pure ()) :
    KTurns prog w A target I [I, d] [I] es.size (fun i v _ => ∃ e : DictEntry, es[i]? = some e ∧ v = e.val) (fun i v h => (∃ e : DictEntry, es[i]? = some e ∧ v = e.val) ∧ h.IsValIter I d (i + 1) es.size ep ∧ RD h d es ep) (fun i h => h.IsValIter I d i es.size ep ∧ RD h d es ep) where
  sub := fun b q => by rw [List.mem_singleton.mp q]; exact .head _
  frame := fun i h h' st hk => ⟨let ⟨o, ho, r⟩ := st.1; ⟨o, hk I (by simp) o ho, r⟩, st.2.at fun o e => hk d (by simp) o e⟩
  item := fun i s Q E hi st hQ => by
    obtain ⟨e, hx⟩ : ∃ e, es[i]? = some e := ⟨es[i], by simp [hi]⟩
    exact rd_next_val st.1 st.2 hx fun h' hit hs => hQ _ h' s.toks ⟨⟨e, hx, rfl⟩, hit, st.2.at fun o q => hs.extBut d o hne q⟩ fun b o q g => hs.extBut b o (fun z => q (by simp [z])) g
  go := fun i v s Q E hm hQ => wpAny_of_eq (hgo v) (hQ s.heap hm.1 hm.2 fun _ _ _ e => e)
  done := fun s Q E st hQ => rd_end_val hh st.1 st.2 (by simp) fun h' hx => hQ h' s.toks fun b o q g => hx b o (fun z => q (by simp [z])) g
theorem vals_turns_ok {I : Addr} {es : Array DictEntry} {ep i : Nat} {h : Heap} (x : h.IsValIter I d i es.size ep ∧ RD h d es ep) : (∀ b ∈ [I], NotTup h b) ∧ ∀ b ∈ [I, d], ∃ o, h.get? b = some o := by
  obtain ⟨⟨o, ho, hc, hd⟩, ⟨o', ho', _⟩⟩ := x
  refine ⟨fun b q => by rw [List.mem_singleton.mp q]; exact .fields ho hd, fun b q => ?_⟩
  rcases List.mem_cons.mp q with rfl | q
  · exact ⟨_, ho⟩
  · rw [List.mem_singleton.mp q]; exact ⟨_, ho'⟩
theorem keys_turns {target : Expr} {I : Addr} {es : Array DictEntry} {ep : Nat} (hh : A.handled = none) (hne : d ≠ I) (hgo : ∀ v, letOwnedTupleGo target (.ref I) v = pure ()) :
    KTurns prog w A target I [I, d] [I] es.size (fun i v _ => ∃ e : DictEntry, es[i]? = some e ∧ v = e.key) (fun i v h => (∃ e : DictEntry, es[i]? = some e ∧ v = e.key) ∧ h.IsKeyIter I d (i + 1) es.size ep ∧ RD h d es ep) (fun i h => h.IsKeyIter I d i es.size ep ∧ RD h d es ep) where
  sub := fun b q => by rw [List.mem_singleton.mp q]; exact .head _
  frame := fun i h h' st hk => ⟨let ⟨o, ho, r⟩ := st.1; ⟨o, hk I (by simp) o ho, r⟩, st.2.at fun o e => hk d (by simp) o e⟩
  item := fun i s Q E hi st hQ => by
    obtain ⟨e, hx⟩ : ∃ e, es[i]? = some e := ⟨es[i], by simp [hi]⟩
    exact rd_next_key st.1 st.2 hx fun h' hit hs => hQ _ h' s.toks ⟨⟨e, hx, rfl⟩, hit, st.2.at fun o q => hs.extBut d o hne q⟩ fun b o q g => hs.extBut b o (fun z => q (by simp [z])) g
  go := fun i v s Q E hm hQ => wpAny_of_eq (hgo v) (hQ s.heap hm.1 hm.2 fun _ _ _ e => e)
  done := fun s Q E st hQ => rd_end_key hh st.1 st.2 (by simp) fun h' hx => hQ h' s.toks fun b o q g => hx b o (fun z => q (by simp [z])) g
theorem keys_turns_ok {I : Addr} {es : Array DictEntry} {ep i : Nat} {h : Heap} (x : h.IsKeyIter I d i es.size ep ∧ RD h d es ep) : (∀ b ∈ [I], NotTup h b) ∧ ∀ b ∈ [I, d], ∃ o, h.get? b = some o := by
  obtain ⟨⟨o, ho, hc, hd⟩, ⟨o', ho', _⟩⟩ := x
  refine ⟨fun b q => by rw [List.mem_singleton.mp q]; exact .fields ho hd, fun b q => ?_⟩
  rcases List.mem_cons.mp q with rfl | q
  · exact ⟨_, ho⟩
  · rw [List.mem_singleton.mp q]; exact ⟨_, ho'⟩
end
end Mine
end

section
open PySem PySem.W PySem.Calls PyProof.Rows
set_option maxRecDepth 100000
namespace Mine
/-! The program's defs, by their place at the top. -/
def defAt (i : Nat) : PySem.Stmt := PySem.Challenge.pw_ga0001_01.main.body.getD i (.Pass default)
def sName : PySem.Stmt → Str | .FunctionDef n _ _ _ _ _ _ _ _ _ => n | _ => default
def sArgs : PySem.Stmt → Arguments | .FunctionDef _ a _ _ _ _ _ _ _ _ => a | _ => default
def sBody : PySem.Stmt → List PySem.Stmt | .FunctionDef _ _ b _ _ _ _ _ _ _ => b | _ => []
def sScope : PySem.Stmt → Scope | .FunctionDef _ _ _ _ _ _ s _ _ _ => s | _ => default
def fdOf (i : Nat) (dV kV pm cd : Value) : FuncData :=
  { name := sName (defAt i), qualname := sName (defAt i), params := sArgs (defAt i), body := .stmts (sBody (defAt i)), scope := sScope (defAt i), globals := mainGlobals, closure := [], defaults := dV, kwdefaults := kV, pyModule := pm, code := cd }
def FnAt (h₀ : Heap) (f i : Nat) (dV kV : Value) : Prop := ∃ o pm cd, h₀.get? f = some o ∧ o.data = .func (fdOf i dV kV pm cd) ∧ h₀.CodeRec cd (sName (defAt i))

def gtab : List (Str × Value) := [("add_callers", .ref 21), ("count_calls", .ref 28), ("insort_left", .ref 37), ("bisect_left", .ref 46), ("_law_order", .ref 53), ("_law_free", .ref 60),
  ("range", .type "range"), ("list", .type "list"), ("dict", .type "dict"), ("tuple", .type "tuple"), ("len", .builtin "len"), ("sum", .builtin "sum"), ("sorted", .builtin "sorted"), ("isinstance", .builtin "isinstance")]

/-- what the defs of bisect have as defaults -/
def dfl (P : Params) : Frag :=
  [(29, { cls := .type "tuple", data := .seq #[.int 0 211, .none] }), (30, { cls := .type "dict", data := .dict #[{ hash := PyData.keyHash P (Str.ofString "key"), key := .str (Str.ofString "key") 212, val := .none }] 1 }),
   (38, { cls := .type "tuple", data := .seq #[.int 0 224, .none] }), (39, { cls := .type "dict", data := .dict #[{ hash := PyData.keyHash P (Str.ofString "key"), key := .str (Str.ofString "key") 225, val := .none }] 1 })]
structure Tp (h₀ : Heap) : Prop where
  nolimit : h₀.NoLimit
  names : ∃ mg mb, h₀.Ns mainGlobals mg ∧ h₀.Ns builtinsNs mb ∧ ∀ p ∈ gtab, mg p.1 = some p.2 ∨ (mg p.1 = none ∧ mb p.1 = some p.2)
  add : FnAt h₀ 21 1 .none .none
  cnt : FnAt h₀ 28 2 .none .none
  ins : FnAt h₀ 37 4 (.ref 29) (.ref 30)
  bis : FnAt h₀ 46 5 (.ref 38) (.ref 39)
  ord : FnAt h₀ 53 7 .none .none
  fre : FnAt h₀ 60 8 .none .none
  dflt : ∃ P, (dfl P).In h₀
  big : 66 ≤ h₀.objs.size

/-- room below: frames and C units -/
structure Rm (A : Around) (d u : Nat) : Prop where
  hh : A.handled = none
  dp : A.depth + d < recursionLimit
  un : A.units + u < cLine
theorem Rm.le {A : Around} {d u d' u' : Nat} (x : Rm A d u) (hd : d' ≤ d) (hu : u' ≤ u) : Rm A d' u' := ⟨x.hh, by have := x.dp; omega, by have := x.un; omega⟩
theorem Rm.deeper {A : Around} {d u : Nat} {env : Env} (x : Rm A (d + 1) (u + 3)) : Rm (A.deeper env) d u := ⟨x.hh, by have := x.dp; show A.depth + 1 + d < _; omega, by have := x.un; show A.units + 3 + u < _; omega⟩
theorem Rm.in1 {A : Around} {d u : Nat} (x : Rm A d (u + 1)) : Rm A.in1 d u := ⟨x.hh, x.dp, by have := x.un; show A.units + 1 + u < _; omega⟩
theorem Rm.u1 {A : Around} {d u : Nat} (x : Rm A d (u + 1)) : A.units + 1 < cLine := by have := x.un; omega

section
variable {prog : Program} {w : World} {h₀ hb : Heap} {W : List Addr} {a d L : Addr} {m : Str → Option Value} {O : List (Addr × AO)} {A : Around} {E : Value → Shared → Prop} {s : Shared} {env : Env}

/-- a global name -/
theorem eG {n : Str} {pos : Pos} {v : Value} {Q : Value → Shared → Prop} (T : Tp h₀) (x : Fr h₀ L s.heap m) (hv : (n, v) ∈ gtab) (h : Q v s) (hk : env.scope.kind = .function := by rfl) (hx : env.kindOf n = some .globalImplicit := by rfl)
    (hg : env.globals = mainGlobals := by rfl) (hb : env.builtins = builtinsNs := by rfl) (hd : (n == ("__debug__" : Str)) = false := by decide) : wpAny (model prog w) A (eval (.Name n pos) env) Q E s := by
  obtain ⟨mg, mb, g, b, all⟩ := T.names
  have g' : s.heap.Ns env.globals mg := by rw [hg]; exact g.keeps x.keep
  have b' : s.heap.Ns env.builtins mb := by rw [hb]; exact b.keeps x.keep
  refine Name_function_global hk hx ?_ hd
  rcases all _ hv with e | ⟨e1, e2⟩
  · exact loadGlobal_global g' e h
  · exact loadGlobal_builtin g' e1 b' e2 h

/-- a call of a def of the text's -/
theorem call_def {f i : Nat} {dV kV : Value} {vals : List Value} {binds : List (Str × Value)} {Q : Value → Shared → Prop} (T : Tp h₀) (hfn : FnAt h₀ f i dV kV) (hkeep : ∀ b o, h₀.get? b = some o → s.heap.get? b = some o) (hbig : h₀.objs.size ≤ s.heap.objs.size)
    (hroom : A.depth < recursionLimit) (hO : ∀ p ∈ O, Rep prog w s.heap p.1 p.2 ∧ h₀.objs.size ≤ p.1) (hnd : (O.map (·.1)).Nodup) (hW : ∀ p ∈ O, p.1 ∈ W)
    (hbind : ∀ pm cd, BindsTo s (fdOf i dV kV pm cd) ⟨vals, []⟩ binds) (hloc : ∀ x ∈ binds, (sScope (defAt i)).names.lookup x.1 = some .local)
    (h : ∀ L cd h₁ tk, St prog w h₀ s.heap W L (fun x => binds.reverse.lookup x) O h₁ →
      wpAny (model prog w) (A.deeper (envOf (sName (defAt i)) (sScope (defAt i)) L f cd)) (execs (sBody (defAt i)) (envOf (sName (defAt i)) (sScope (defAt i)) L f cd)) (fun fl s' => Q (match fl with | .ret v => v | _ => .none) s') (fun _ _ => False) { s with heap := h₁, toks := tk })
    (hco : (sScope (defAt i)).isCoroutine = false := by rfl) (hgen : (sScope (defAt i)).isGenerator = false := by rfl) (hk : (sScope (defAt i)).kind = .function := by rfl) (hcell : ∀ x ∈ (sScope (defAt i)).names, x.2 ≠ .cell := by decide) :
    wpAny (model prog w) A (call (.ref f) vals) Q E s := by
  obtain ⟨o, pm, cd, ho, hd, hcd⟩ := hfn
  refine wpAny_call (codeAny_call_function hroom (hkeep _ _ ho) hd hco hgen rfl (hcd.keeps hkeep) ?_)
  refine hbind pm cd _ _ _ _ (wpAny_newFunctionEnv hcell hloc (fun h₁ hns hsb => ⟨(T.nolimit.keeps hkeep).fresh _ hsb, ?_⟩) hk)
  refine codeAny_func (wpAny_mono (h s.heap.objs.size cd h₁ _ ?_) (fun fl s' q => ?_) fun _ _ q => q.elim)
  · have keep : ∀ b o, s.heap.get? b = some o → h₁.get? b = some o := fun b o e => hsb.extBut b o (Nat.ne_of_lt (Heap.lt_size e)) (Heap.get?_push_of_some _ e)
    have kp : Kp h₀ [] s.heap h₁ := ⟨fun b o _ e => keep b o e, fun b o _ e => keep b o e, fun b o e _ => keep b o e⟩
    refine ⟨⟨hns, fun b o e => keep b o (hkeep b o e), hbig⟩, ⟨kp.mono (fun _ q => nomatch q), fun b o e => ⟨o, keep b o e⟩⟩, fun p hp => ⟨(hO p hp).1.chg kp (fun q => nomatch q), (hO p hp).2⟩, ?_, ?_⟩
    · refine List.nodup_cons.mpr ⟨fun e => ?_, hnd⟩
      obtain ⟨p, hp, q⟩ := List.mem_map.mp e
      exact absurd (hO p hp).1.lt (by rw [q]; exact Nat.lt_irrefl _)
    · intro a q
      rcases List.mem_cons.mp q with rfl | q
      · refine .inr ?_
        cases e : s.heap.get? s.heap.objs.size with
        | none => rfl
        | some o => exact absurd (Heap.lt_size e) (Nat.lt_irrefl _)
      · obtain ⟨p, hp, rfl⟩ := List.mem_map.mp q
        exact .inl (hW p hp)
  · cases fl <;> exact q
end
end Mine
end

section
open PySem PySem.W PySem.Calls PyProof.Rows
namespace Mine
section
variable {prog : Program} {w : World} {h₀ hb : Heap} {W : List Addr} {a d : Addr} {m : Str → Option Value} {O : List (Addr × AO)} {A : Around} {s : Shared} {env : Env}

/-- a turn and an end of a loop whose iterator is made here -/
def Step (prog : Program) (w : World) (A : Around) (h₀ hs : Heap) (env : Env) (target : PySem.Expr) (body : List PySem.Stmt) (O : List (Addr × AO)) (n : Nat) (P : Nat → Value → Heap → Prop) (J : Nat → (Str → Option Value) → List (Addr × AO) → Prop) (R : Flow → Shared → Prop) (s : Shared) : Prop :=
  ∀ i v m₁ O₁ h tk, i < n → P i v h → J i m₁ O₁ → St prog w h₀ h (env.locals :: O₁.map (·.1)) env.locals m₁ O₁ h → Kp h₀ (env.locals :: O.map (·.1)) hs h →
    wpAny (model prog w) A (assign target env v) (fun _ s₂ => wpAny (model prog w) A (execs body env) (Turn prog w h₀ h env.locals (env.locals :: O₁.map (·.1)) (J (i + 1)) R { s with heap := h, toks := tk }) (fun _ _ => False) s₂) (fun _ _ => False) { s with heap := h, toks := tk }
def Done (prog : Program) (w : World) (h₀ hb hs : Heap) (W : List Addr) (L : Addr) (O : List (Addr × AO)) (n : Nat) (J : Nat → (Str → Option Value) → List (Addr × AO) → Prop) (R : Flow → Shared → Prop) (s : Shared) : Prop :=
  ∀ m₁ O₁ h tk, J n m₁ O₁ → St prog w h₀ hb W L m₁ O₁ h → Kp h₀ (L :: O.map (·.1)) hs h → R .next { s with heap := h, toks := tk }

theorem loop_core {R : Result → Shared → Prop} {target : PySem.Expr} {body : List PySem.Stmt} {I : Addr} {fp : List Addr} {n : Nat} {P Md : Nat → Value → Heap → Prop} {Sw : Nat → Heap → Prop} {s₂ : Shared} {h₂ : Heap} {tk₂ : Nat}
    (T : KTurns prog w A target I fp [I] n P Md Sw) (e₂ : s₂ = { s with heap := h₂, toks := tk₂ })
    (hst : Sw 0 h₂) (X : St prog w h₀ hb W env.locals m O h₂) (k : Kp h₀ [] s.heap h₂) (hI : s.heap.get? I = none) (hI' : hb.get? I = none) (hI0 : h₀.objs.size ≤ I) (hfp : ∀ b ∈ fp, b ∉ env.locals :: O.map (·.1))
    (hwt : ∀ i h, Sw i h → (∀ b ∈ [I], NotTup h b) ∧ ∀ b ∈ fp, ∃ o, h.get? b = some o)
    (J : Nat → (Str → Option Value) → List (Addr × AO) → Prop) (j0 : J 0 m O)
    (step : Step prog w A h₀ s.heap env target body O n P J (fun f s' => R (.ok f) s') s)
    (done : Done prog w h₀ hb s.heap W env.locals O n J (fun f s' => R (.ok f) s') s) : codeAny (model prog w) A (.forLoop target (.ref I) body [] env) R s₂ := by
  subst e₂
  have kk : ∀ h, Kp h₀ ([I] ++ (env.locals :: O.map (·.1))) h₂ h → Kp h₀ (env.locals :: O.map (·.1)) s.heap h := fun h q => (k.mono fun _ z => nomatch z).step q fun a z => by
    rcases List.mem_append.mp z with z | z
    · rw [List.mem_singleton.mp z]; exact .inr hI
    · exact .inl z
  refine for_turns T hst X hfp (fun b q => by rw [List.mem_singleton.mp q]; exact ⟨hI0, hI'⟩) hwt J j0 ?_ ?_
  · intro i v m₁ O₁ h tk hi hP hJ X₁ q
    exact step i v m₁ O₁ h tk hi hP hJ X₁ (kk h q)
  · intro m₁ O₁ h tk hJ X₁ q
    exact done m₁ O₁ h tk hJ X₁ (kk h q)

theorem none_push {h : Heap} {o : Obj} : h.get? (h.push o).objs.size = none := by
  cases e : h.get? (h.push o).objs.size with
  | none => rfl
  | some o' => have := Heap.lt_size e; rw [Heap.size_push] at this; exact absurd this (Nat.not_lt.mpr (Nat.le_succ _))
theorem none_size {h : Heap} : h.get? h.objs.size = none := by
  cases e : h.get? h.objs.size with
  | none => rfl
  | some o' => exact absurd (Heap.lt_size e) (Nat.lt_irrefl _)

theorem loop_vals {R : Result → Shared → Prop} {target : PySem.Expr} {body : List PySem.Stmt} {es : Array DictEntry} {ep : Nat} (hh : A.handled = none) (X : St prog w h₀ hb W env.locals m O s.heap) (lo : (d == sysModules) = false) (r : RD s.heap d es ep) (hd : d ∉ env.locals :: O.map (·.1))
    (J : Nat → (Str → Option Value) → List (Addr × AO) → Prop) (j0 : J 0 m O)
    (step : Step prog w A h₀ s.heap env target body O es.size (fun i v _ => ∃ e : DictEntry, es[i]? = some e ∧ v = e.val) J (fun f s' => R (.ok f) s') s)
    (done : Done prog w h₀ hb s.heap W env.locals O es.size J (fun f s' => R (.ok f) s') s)
    (hgo : ∀ (s : Shared) (v : Value), letOwnedTupleGo target (.ref s.heap.objs.size) v = pure () := by intro _ _; rfl) :
    wpAny (model prog w) A (call (.builtin "dict.values") [.ref d]) (fun xv s₁ => wpAny (model prog w) A (pyIter xv) (fun it s₂ => codeAny (model prog w) A (.forLoop target it body [] env) R s₂) (fun _ _ => False) s₁) (fun _ _ => False) s := by
  refine rd_values lo r ?_
  have r₁ := r.at (h' := s.heap.push { cls := .type "dict_values", data := .fields #[.ref d] }) fun o e => Heap.get?_push_of_some _ e
  refine rd_iter_values (v := s.heap.objs.size) (es := es) (ep := ep) ⟨_, Heap.get?_push_size _ rfl, rfl, rfl⟩ r₁ ?_
  have X₁ := X.push { cls := .type "dict_values", data := .fields #[.ref d] }
  obtain ⟨o, ho, _⟩ := id r₁
  refine loop_core (s := s) (vals_turns hh (Nat.ne_of_lt (Heap.lt_size ho)) (fun v => hgo { s with heap := s.heap.push { cls := .type "dict_values", data := .fields #[.ref d] } } v)) rfl ⟨⟨_, Heap.get?_push_size _ rfl, rfl, rfl⟩, r₁.at fun o e => Heap.get?_push_of_some _ e⟩ (X₁.push _)
    ((Kp.push _).trans (.push _)) none_push X₁.chg.fresh X₁.big ?_ (fun i h z => vals_turns_ok z) J j0 step done
  intro b q
  rcases List.mem_cons.mp q with rfl | q
  · exact X₁.fresh
  · rw [List.mem_singleton.mp q]; exact hd
theorem loop_items {R : Result → Shared → Prop} {elts : List PySem.Expr} {kk : Nat} {tp : Pos} {body : List PySem.Stmt} {es : Array DictEntry} {ep : Nat} (hh : A.handled = none) (X : St prog w h₀ hb W env.locals m O s.heap) (lo : (d == sysModules) = false) (r : RD s.heap d es ep) (hd : d ∉ env.locals :: O.map (·.1))
    (J : Nat → (Str → Option Value) → List (Addr × AO) → Prop) (j0 : J 0 m O)
    (step : Step prog w A h₀ s.heap env (.Tuple elts kk tp) body O es.size (fun i v h => ∃ T, ∃ e : DictEntry, v = .ref T ∧ es[i]? = some e ∧ h.IsTuple T #[e.key, e.val]) J (fun f s' => R (.ok f) s') s)
    (done : Done prog w h₀ hb s.heap W env.locals O es.size J (fun f s' => R (.ok f) s') s) :
    wpAny (model prog w) A (call (.builtin "dict.items") [.ref d]) (fun xv s₁ => wpAny (model prog w) A (pyIter xv) (fun it s₂ => codeAny (model prog w) A (.forLoop (.Tuple elts kk tp) it body [] env) R s₂) (fun _ _ => False) s₁) (fun _ _ => False) s := by
  refine rd_items lo r ?_
  have r₁ := r.at (h' := s.heap.push { cls := .type "dict_items", data := .fields #[.ref d] }) fun o e => Heap.get?_push_of_some _ e
  refine rd_iter_items (v := s.heap.objs.size) (es := es) (ep := ep) ⟨_, Heap.get?_push_size _ rfl, rfl, rfl⟩ r₁ ?_
  have X₁ := X.push { cls := .type "dict_items", data := .fields #[.ref d] }
  obtain ⟨o, ho, _⟩ := id r₁
  refine loop_core (s := s) (items_turns hh (Nat.ne_of_lt (Heap.lt_size ho))) rfl ⟨⟨.none, .none, Heap.get?_push_size _ rfl⟩, r₁.at fun o e => Heap.get?_push_of_some _ e⟩ (X₁.push _)
    ((Kp.push _).trans (.push _)) none_push X₁.chg.fresh X₁.big ?_ (fun i h z => items_turns_ok z) J j0 step done
  intro b q
  rcases List.mem_cons.mp q with rfl | q
  · exact X₁.fresh
  · rw [List.mem_singleton.mp q]; exact hd
theorem loop_keys {R : Result → Shared → Prop} {target : PySem.Expr} {body : List PySem.Stmt} {es : Array DictEntry} {ep : Nat} (hh : A.handled = none) (X : St prog w h₀ hb W env.locals m O s.heap) (lo : (d == sysModules) = false) (r : RD s.heap d es ep) (hd : d ∉ env.locals :: O.map (·.1))
    (J : Nat → (Str → Option Value) → List (Addr × AO) → Prop) (j0 : J 0 m O)
    (step : Step prog w A h₀ s.heap env target body O es.size (fun i v _ => ∃ e : DictEntry, es[i]? = some e ∧ v = e.key) J (fun f s' => R (.ok f) s') s)
    (done : Done prog w h₀ hb s.heap W env.locals O es.size J (fun f s' => R (.ok f) s') s)
    (hgo : ∀ (s : Shared) (v : Value), letOwnedTupleGo target (.ref s.heap.objs.size) v = pure () := by intro _ _; rfl) :
    wpAny (model prog w) A (pyIter (.ref d)) (fun it s₂ => codeAny (model prog w) A (.forLoop target it body [] env) R s₂) (fun _ _ => False) s := by
  refine rd_iter_keys lo r ?_
  obtain ⟨o, ho, _⟩ := id r
  refine loop_core (s := s) (keys_turns hh (Nat.ne_of_lt (Heap.lt_size ho)) (fun v => hgo s v)) rfl ⟨⟨_, Heap.get?_push_size _ rfl, rfl, rfl⟩, r.at fun o e => Heap.get?_push_of_some _ e⟩ (X.push _)
    (.push _) none_size X.chg.fresh X.big ?_ (fun i h z => keys_turns_ok z) J j0 step done
  intro b q
  rcases List.mem_cons.mp q with rfl | q
  · exact X.fresh
  · rw [List.mem_singleton.mp q]; exact hd
theorem loop_list {R : Result → Shared → Prop} {target : PySem.Expr} {body : List PySem.Stmt} {items : Array Value} (hh : A.handled = none) (X : St prog w h₀ hb W env.locals m O s.heap) (r : s.heap.IsList d items) (hd : d ∉ env.locals :: O.map (·.1))
    (J : Nat → (Str → Option Value) → List (Addr × AO) → Prop) (j0 : J 0 m O)
    (step : Step prog w A h₀ s.heap env target body O items.size (fun i v _ => items[i]? = some v) J (fun f s' => R (.ok f) s') s)
    (done : Done prog w h₀ hb s.heap W env.locals O items.size J (fun f s' => R (.ok f) s') s)
    (hgo : ∀ (s : Shared) (v : Value), letOwnedTupleGo target (.ref s.heap.objs.size) v = pure () := by intro _ _; rfl) :
    wpAny (model prog w) A (pyIter (.ref d)) (fun it s₂ => codeAny (model prog w) A (.forLoop target it body [] env) R s₂) (fun _ _ => False) s := by
  refine wpAny_pyIter_list r ?_
  obtain ⟨o, ho, _⟩ := id r
  refine loop_core (s := s) (list_turns hh (Nat.ne_of_lt (Heap.lt_size ho)) items (fun v => hgo s v)) rfl ⟨⟨_, Heap.get?_push_size _ rfl, rfl, rfl⟩, r.at fun o e => Heap.get?_push_of_some _ e⟩ (X.push _)
    (.push _) none_size X.chg.fresh X.big ?_ (fun i h z => list_turns_ok z) J j0 step done
  intro b q
  rcases List.mem_cons.mp q with rfl | q
  · exact X.fresh
  · rw [List.mem_singleton.mp q]; exact hd
theorem loop_range {R : Result → Shared → Prop} {target : PySem.Expr} {body : List PySem.Stmt} {n : Nat} {r : Addr} {t u v : Tok} (hh : A.handled = none) (X : St prog w h₀ hb W env.locals m O s.heap) (hr : IsRange s.heap r 0 n 1 t u v) (hn : n ≤ 1000)
    (J : Nat → (Str → Option Value) → List (Addr × AO) → Prop) (j0 : J 0 m O)
    (step : Step prog w A h₀ s.heap env target body O n (fun i v _ => ∃ t, v = .int (i : Int) t) J (fun f s' => R (.ok f) s') s)
    (done : Done prog w h₀ hb s.heap W env.locals O n J (fun f s' => R (.ok f) s') s)
    (hgo : ∀ (s : Shared) (v : Value), letOwnedTupleGo target (.ref s.heap.objs.size) v = pure () := by intro _ _; rfl) :
    wpAny (model prog w) A (pyIter (.ref r)) (fun it s₂ => codeAny (model prog w) A (.forLoop target it body [] env) R s₂) (fun _ _ => False) s := by
  have hs : Builtin.Range.rangeSize 0 (n : Int) 1 = n := by simp [Builtin.Range.rangeSize]; omega
  refine wpAny_pyIter_range hr ?_ ?_
  · rw [Builtin.Range.small, hs]; simp [Builtin.Range.rangeFitsLong]; omega
  rw [hs]
  refine loop_core (s := s) (range_turns hh n (fun v => hgo s v)) rfl ?_ (X.push _) (.push _) none_size X.chg.fresh X.big ?_ ?_ J j0 step done
  · show IsRangeIter _ _ (0 + ((0 : Nat) : Int) * 1) ((n : Int) - ((0 : Nat) : Int)) 1
    simp only [IsRangeIter, Int.natCast_zero, Int.zero_mul, Int.add_zero, Int.sub_zero]
    exact Heap.get?_push_size _ rfl
  · intro b q
    rw [List.mem_singleton.mp q]; exact X.fresh
  · intro i h z
    refine ⟨fun b q => by rw [List.mem_singleton.mp q]; exact .fields z rfl, fun b q => by rw [List.mem_singleton.mp q]; exact ⟨_, z⟩⟩
/-- an object that stood at the stretch's start is no name of ours, where we hold what is new alone -/
theorem St.notIn {L : Addr} {h : Heap} {o : Obj} (x : St prog w h₀ hb W L m O h) (e : hb.get? d = some o) (hd : d ∉ W) : d ∉ L :: O.map (·.1) := fun q =>
  (x.may d q).elim hd fun z => by rw [e] at z; cases z
theorem IsD.here {κ : Type} {emb : κ → List (Str ⊕ Int)} {c : List (κ × Int)} {h : Heap} (x : IsD prog w emb h d c) : ∃ o, h.get? d = some o := let ⟨_, _, ⟨o, _, _, e, _⟩, _⟩ := x; ⟨o, e⟩
end
end Mine
end

section
open PySem PySem.W PySem.Calls PyProof.Rows
set_option maxRecDepth 100000
namespace Mine
section
variable {prog : Program} {w : World} {h₀ hb : Heap} {W : List Addr} {a d L : Addr} {m : Str → Option Value} {O : List (Addr × AO)} {A : Around} {E : Value → Shared → Prop} {s : Shared} {env : Env}
variable {κ : Type} {emb : κ → List (Str ⊕ Int)} {c : List (κ × Int)}

theorem count_calls_spec [DecidableEq κ] {Q : Value → Shared → Prop} (T : Tp h₀) (R : Rm A 2 20) (hkeep : ∀ b o, h₀.get? b = some o → s.heap.get? b = some o) (hbig : h₀.objs.size ≤ s.heap.objs.size)
    (x : IsD prog w emb s.heap d c) (h : ∀ h' tk t, Chg h₀ [] s.heap h' → Q (.int (kprSum c) t) { s with heap := h', toks := tk }) :
    wpAny (model prog w) A (call (.ref 28) [.ref d]) Q E s := by
  refine call_def (O := []) (W := []) (binds := [("callers", .ref d)]) T T.cnt hkeep hbig (by have := R.dp; omega) (fun _ q => nomatch q) List.nodup_nil (fun _ q => nomatch q) (fun pm cd => BindsTo.of_eq rfl) (locs rfl) ?_
  intro L cd h₁ tk X
  have R' : Rm (A.deeper (envOf (sName (defAt 2)) (sScope (defAt 2)) L 28 cd)) 1 17 := R.deeper
  refine wpAny_execs_cons ?_
  refine wpAny_Assign_Name ?_
  refine wpAny_Constant_int ?_
  refine sN X fun h₂ X₂ => ?_
  dsimp only
  have x₂ : IsD prog w emb h₂ d c := x.chg X₂.chg.toKp (fun q => nomatch q)
  obtain ⟨lo, es, ep, r₂, ent⟩ := x₂.ent
  obtain ⟨od, hod⟩ := x.here
  refine wpAny_execs_cons (for_stmt (MethodCall_ (eN X₂ rfl ?_)))
  refine getMethod_builtin r₂.typeIs PySem.F.plainAttrs_dict PySem.F.slot_dict_values PySem.F.type_dict_values (fun b e => by cases e; obtain ⟨o, ho, hc, _⟩ := r₂; exact ⟨o, ho, hc.2.1⟩) ?_
  refine callWith_method0 ?_
  refine loop_vals (prog := prog) (w := w) R'.hh X₂ lo r₂ (X₂.notIn hod (fun q => nomatch q)) (fun i m₁ O₁ => O₁ = [] ∧ ∃ t, m₁ "nc" = some (.int (kprSum (c.take i)) t)) ⟨rfl, _, rfl⟩ ?_ ?_
  · intro i v m₁ O₁ h₃ tk₃ hi hP hJ X₃ k₃
    obtain ⟨rfl, t, hm⟩ := hJ
    obtain ⟨e, he, rfl⟩ := hP
    have hi' : i < c.length := ent.size ▸ hi
    obtain ⟨a, tv, e', he', _, hv, _⟩ := ent.at' i c[i].1 c[i].2 (by simp [hi'])
    rw [he] at he'; cases he'
    rw [hv]
    refine wpAny_assign_Name (sN X₃ fun h₄ X₄ => ?_)
    refine wpAny_execs_cons (wpAny_AugAssign_Name (lN X₄ hm (eN X₄ rfl (wpAny_iadd_int ?_))))
    refine sN X₄ fun h₅ X₅ => ?_
    have e1 : kprSum (c.take (i + 1)) = kprSum (c.take i) + c[i].2 := by
      rw [List.take_succ_eq_append_getElem hi', kpr_sum_append, kpr_sum_cons]
      show _ + (c[i].2 + 0) = _
      omega
    exact wpAny_execs_nil (Turn.next X₅ ⟨rfl, _, congrArg (fun z => some (Value.int z _)) e1.symm⟩)
  · intro m₁ O₁ h₃ tk₃ hJ X₃ k₃
    obtain ⟨rfl, t, hm⟩ := hJ
    refine wpAny_execs_cons (wpAny_Return_some (eN X₃ hm ?_))
    rw [ent.size, List.take_length]
    exact h h₃ tk₃ t X₃.chg
end
end Mine
end

section
open PySem PySem.W PySem.Calls PyProof.Rows
set_option maxRecDepth 100000
set_option maxHeartbeats 4000000
namespace Mine
section
variable {prog : Program} {w : World} {h₀ hb : Heap} {W : List Addr} {a d L : Addr} {m : Str → Option Value} {O : List (Addr × AO)} {A : Around} {E : Value → Shared → Prop} {s : Shared} {env : Env}
/-- x, y = a tuple of two -/
theorem assign_pair {x y : Str} {px py pos : Pos} {k : Nat} {t : Addr} {u v : Value} {Q : Unit → Shared → Prop} (hh : A.handled = none) (X : St prog w h₀ hb W env.locals m O s.heap) (ht : s.heap.IsTuple t #[u, v])
    (h : ∀ h' tk, St prog w h₀ hb W env.locals (fun z => if z = y then some v else if z = x then some u else m z) O h' → Q () { s with heap := h', toks := tk })
    (hk : env.scope.kind = .function := by rfl) (hx : env.kindOf x = some .local := by rfl) (hy : env.kindOf y = some .local := by rfl) :
    wpAny (model prog w) A (assign (.Tuple [.Name x px, .Name y py] k pos) env (.ref t)) Q E s := by
  refine wpAny_assign_Tuple hh ht rfl rfl fun h₁ e₁ => ?_
  have n : NotTup s.heap s.heap.objs.size := fun o e => absurd (Heap.lt_size e) (Nat.lt_irrefl _)
  have X₁ : St prog w h₀ hb W env.locals m O h₁ := X.other (Kp.ofExt e₁ n X.big) (fun a q => by rw [List.mem_singleton.mp q]; exact X.fresh) fun a q => by rw [List.mem_singleton.mp q]; exact X.chg.fresh
  refine wpAny_assignInOrder_more (wpAny_assign_Name (sN X₁ (fun h₂ X₂ => ?_) hk hx))
  exact wpAny_assignInOrder_more (wpAny_assign_Name (sN X₂ (fun h₃ X₃ => wpAny_assignInOrder_none (h h₃ _ X₃)) hk hy))

/-- how counts are put together -/
def mrg (c e : List (Int × Int)) : List (Int × Int) := e.foldl (fun acc p => kprPut acc p.1 (kprLook acc p.1 0 + p.2)) c
theorem put_len {α : Type} [DecidableEq α] (c : List (α × Int)) (k : α) (v : Int) : (kprPut c k v).length ≤ c.length + 1 := by
  cases h : kprHas c k with
  | true => rw [kpr_len_old h]; omega
  | false => rw [kpr_len_new h]; omega
theorem mrg_len (e : List (Int × Int)) : ∀ c, (mrg c e).length ≤ c.length + e.length := by
  induction e with
  | nil => intro c; simp [mrg]
  | cons p e ih =>
    intro c
    have h1 := ih (kprPut c p.1 (kprLook c p.1 0 + p.2))
    have h2 := put_len c p.1 (kprLook c p.1 0 + p.2)
    simp only [mrg, List.foldl_cons, List.length_cons] at h1 ⊢
    omega
theorem mrg_snoc (c e : List (Int × Int)) (p : Int × Int) : mrg c (e ++ [p]) = kprPut (mrg c e) p.1 (kprLook (mrg c e) p.1 0 + p.2) := by simp [mrg]
theorem take_snoc {α : Type} {l : List α} {i : Nat} (h : i < l.length) : l.take (i + 1) = l.take i ++ [l[i]] := List.take_succ_eq_append_getElem h
theorem take_new {c : List (Int × Int)} (hn : (c.map (·.1)).Nodup) {i : Nat} (h : i < c.length) : kprHas (c.take i) c[i].1 = false := by
  refine kpr_has_false.mpr fun q => ?_
  obtain ⟨p, hp, e⟩ := List.mem_map.mp q
  obtain ⟨j, hj, e'⟩ := List.mem_iff_getElem.mp hp
  have hj' : j < i := by rw [List.length_take] at hj; omega
  have h1 : (c.map (·.1))[j]? = some c[i].1 := by
    rw [List.getElem?_map, List.getElem?_eq_getElem (by omega)]
    rw [List.getElem_take] at e'
    simp [e', e]
  have h2 : (c.map (·.1))[i]? = some c[i].1 := by rw [List.getElem?_map, List.getElem?_eq_getElem h]; rfl
  have := (List.getElem?_inj (List.getElem?_eq_some_iff.mp h1).1 hn).mp (h1.trans h2.symm)
  omega

theorem gmem {i : Nat} {p : Str × Value} (h : gtab[i]? = some p) : p ∈ gtab := List.mem_of_getElem? h
theorem add_callers_spec {e : Addr} {c f : List (Int × Int)} {Q : Value → Shared → Prop} (T : Tp h₀) (R : Rm A 2 20) (hkeep : ∀ b o, h₀.get? b = some o → s.heap.get? b = some o) (hbig : h₀.objs.size ≤ s.heap.objs.size)
    (x : IsD prog w key3 s.heap d c) (y : IsD prog w key3 s.heap e f) (hlen : c.length + f.length ≤ 900)
    (h : ∀ h' tk r, Chg h₀ [] s.heap h' → s.heap.get? r = none → h₀.objs.size ≤ r → IsD prog w key3 h' r (mrg c f) → Q (.ref r) { s with heap := h', toks := tk }) :
    wpAny (model prog w) A (call (.ref 21) [.ref d, .ref e]) Q E s := by
  refine call_def (O := []) (W := []) (binds := [("target", .ref d), ("source", .ref e)]) T T.add hkeep hbig (by have := R.dp; omega) (fun _ q => nomatch q) List.nodup_nil (fun _ q => nomatch q) (fun pm cd => BindsTo.of_eq rfl) (locs rfl) ?_
  intro L cd h₁ tk X
  have R' : Rm (A.deeper (envOf (sName (defAt 1)) (sScope (defAt 1)) L 21 cd)) 1 17 := R.deeper
  have lo : (h₁.objs.size == sysModules) = false := by
    have := T.big
    have := X.big
    exact beq_eq_false_iff_ne.mpr (Nat.ne_of_gt (Nat.lt_of_lt_of_le (by show sysModules < 66; decide) (Nat.le_trans T.big X.big)))
  refine wpAny_execs_cons (wpAny_Assign_Name (wpAny_Dict_empty ?_))
  have X₁ := X.new (o := .d3 []) { cls := .type "dict", data := .dict #[] } ⟨lo, [], .new _, .nil⟩
  refine sN X₁ fun h₂ X₂ => ?_
  dsimp only
  obtain ⟨lod, es, ep, rd, ent⟩ := (x.chg X₂.chg.toKp fun q => nomatch q).ent
  obtain ⟨od, hod⟩ := x.here
  obtain ⟨oe, hoe⟩ := y.here
  have hnd := x.nodup key3_inj
  refine wpAny_execs_cons (for_stmt (MethodCall_ (eN X₂ rfl ?_)))
  refine getMethod_builtin rd.typeIs PySem.F.plainAttrs_dict PySem.F.slot_dict_items PySem.F.type_dict_items (fun b e => by cases e; obtain ⟨o, ho, hc, _⟩ := rd; exact ⟨o, ho, hc.2.1⟩) ?_
  refine callWith_method0 ?_
  refine loop_items (prog := prog) (w := w) R'.hh X₂ lod rd (X₂.notIn hod (fun q => nomatch q))
    (fun i m₁ O₁ => m₁ "new_callers" = some (.ref h₁.objs.size) ∧ m₁ "source" = some (.ref e) ∧ O₁ = [(h₁.objs.size, .d3 (c.take i))]) ⟨rfl, rfl, rfl⟩ ?_ ?_
  · rintro i v m₁ O₁ h₃ tk₃ hi ⟨t, en, rfl, he, ht⟩ ⟨m1, m2, rfl⟩ X₃ k₃
    have hi' : i < c.length := ent.size ▸ hi
    obtain ⟨a, tv, e', he', hk, hv, hkey⟩ := ent.at' i c[i].1 c[i].2 (by simp [hi'])
    rw [he] at he'; cases he'
    rw [hk, hv] at ht
    refine assign_pair R'.hh X₃ ht fun h₄ tk₄ X₄ => ?_
    refine wpAny_execs_cons (wpAny_Assign_Subscript (eN X₄ rfl (eN X₄ m1 (eN X₄ rfl ?_))))
    have hkey₄ := key_chg (key_chg hkey k₃) X₄.chg.toKp
    refine isD_set key3_inj R'.u1 (X₄.get (i := 0) rfl) hkey₄ (by rw [List.length_take]; omega) fun h₅ tk₅ D₅ s₅ => ?_
    have X₅ := X₄.put (i := 0) (o' := .d3 _) rfl s₅ D₅
    refine wpAny_execs_nil (Turn.next X₅ ⟨m1, m2, ?_⟩)
    rw [take_snoc hi', kpr_put_new (take_new hnd hi')]
    rfl
  · rintro m₁ O₁ h₃ tk₃ ⟨m1, m2, rfl⟩ X₃ k₃
    rw [ent.size, List.take_length] at X₃
    obtain ⟨loe, fs, fp, re, ent'⟩ := (y.chg X₃.chg.toKp fun q => nomatch q).ent
    refine wpAny_execs_cons (for_stmt (MethodCall_ (eN X₃ m2 ?_)))
    refine getMethod_builtin re.typeIs PySem.F.plainAttrs_dict PySem.F.slot_dict_items PySem.F.type_dict_items (fun b e => by cases e; obtain ⟨o, ho, hc, _⟩ := re; exact ⟨o, ho, hc.2.1⟩) ?_
    refine callWith_method0 ?_
    refine loop_items (prog := prog) (w := w) R'.hh X₃ loe re (X₃.notIn hoe (fun q => nomatch q))
      (fun i m₁ O₁ => m₁ "new_callers" = some (.ref h₁.objs.size) ∧ O₁ = [(h₁.objs.size, .d3 (mrg c (f.take i)))]) ⟨m1, rfl⟩ ?_ ?_
    · rintro i v m₁ O₁ h₄ tk₄ hi ⟨t, en, rfl, he, ht⟩ ⟨m1, rfl⟩ X₄ k₄
      have hi' : i < f.length := ent'.size ▸ hi
      obtain ⟨a, tv, e', he', hk, hv, hkey⟩ := ent'.at' i f[i].1 f[i].2 (by simp [hi'])
      rw [he] at he'; cases he'
      rw [hk, hv] at ht
      refine assign_pair R'.hh X₄ ht fun h₅ tk₅ X₅ => ?_
      have hkey₅ := key_chg (key_chg hkey k₄) X₅.chg.toKp
      have hlen' : (mrg c (f.take i)).length ≤ 900 := by have := mrg_len (f.take i) c; rw [List.length_take] at this; omega
      have hs : mrg c (f.take (i + 1)) = kprPut (mrg c (f.take i)) f[i].1 (kprLook (mrg c (f.take i)) f[i].1 0 + f[i].2) := by rw [take_snoc hi', mrg_snoc]
      refine wpAny_execs_cons (wpAny_If (wpAny_isTrue_Compare1 (eN X₅ rfl (eN X₅ m1 ?_))))
      refine isD_in key3_inj R'.u1 (X₅.get (i := 0) rfl) hkey₅ fun tk₆ => wpAny_truthy_bool ?_
      cases hh : kprHas (mrg c (f.take i)) f[i].1 with
      | true =>
        rw [if_pos rfl]
        refine wpAny_execs_cons (wpAny_If (isTrue_plain ?_))
        refine wpAny_Call_NameR ?_
        refine eG T X₅.fr (gmem (i := 13) rfl) ?_
        refine PyProof.Rows.callWith_builtin1 ?_
        refine args_cons (eN X₅ rfl ?_)
        refine args_cons ?_
        refine eG T X₅.fr (gmem (i := 9) rfl) ?_
        refine args_nil ?_
        refine IsiPair.int_tuple (wpAny_truthy_bool ?_)
        rw [if_neg Bool.false_ne_true]
        refine wpAny_execs_cons (wpAny_AugAssign_SubscriptAny (eN X₅ m1 (eN X₅ rfl ?_)))
        refine isD_item key3_inj R'.u1 (X₅.get (i := 0) rfl) hkey₅ hh fun t₇ tk₇ => ?_
        refine eN X₅ rfl (wpAny_iadd_int ?_)
        refine isD_set key3_inj R'.u1 (X₅.get (i := 0) rfl) hkey₅ (by omega) fun h₈ tk₈ D₈ s₈ => ?_
        have X₈ := X₅.put (i := 0) (o' := .d3 _) rfl s₈ D₈
        refine wpAny_execs_nil (wpAny_execs_nil (wpAny_execs_nil (Turn.next X₈ ⟨m1, ?_⟩)))
        rw [hs]; rfl
      | false =>
        rw [if_neg Bool.false_ne_true]
        refine wpAny_execs_cons (wpAny_Assign_Subscript (eN X₅ rfl (eN X₅ m1 (eN X₅ rfl ?_))))
        refine isD_set key3_inj R'.u1 (X₅.get (i := 0) rfl) hkey₅ (by omega) fun h₈ tk₈ D₈ s₈ => ?_
        have X₈ := X₅.put (i := 0) (o' := .d3 _) rfl s₈ D₈
        refine wpAny_execs_nil (wpAny_execs_nil (Turn.next X₈ ⟨m1, ?_⟩))
        rw [hs, kpr_look_none hh, Int.zero_add]; rfl
    · rintro m₁ O₁ h₄ tk₄ ⟨m1, rfl⟩ X₄ k₄
      rw [ent'.size, List.take_length] at X₄
      refine wpAny_execs_cons (wpAny_Return_some (eN X₄ m1 ?_))
      exact h _ _ _ X₄.chg X.chg.fresh X.big (X₄.get (i := 0) rfl)
end
end Mine
end

section
open PySem PySem.W PySem.Calls PyProof.Rows
namespace Mine
section
variable {prog : Program} {w : World} {h₀ hb : Heap} {W : List Addr} {a d L : Addr} {m : Str → Option Value} {O : List (Addr × AO)} {A : Around} {E : Value → Shared → Prop} {s : Shared} {env : Env}
/-- a method of a plain list -/
theorem lst_meth {name : Str} {id : String} {pl : Sem Bool} {vs : Array Value} {Q : Value × List Value → Shared → Prop} (slot : Slot "list" name id) (hty : typeOf (.builtin id) = pure (.type "method_descriptor")) (x : s.heap.PlainList d vs) (h : Q (.builtin id, [.ref d]) s) :
    wpAny (model prog w) A (getMethod (.ref d) name pl) Q E s :=
  getMethod_builtin x.isList.typeIs PySem.F.plainAttrs_list slot hty (fun b e => by cases e; obtain ⟨n, ho⟩ := x; exact ⟨_, ho, rfl⟩) h
theorem lst_append {v : Value} {vs : List Value} {Q : Value → Shared → Prop} (x : s.heap.PlainList d vs.toArray) (hz : vs.length ≤ 1000) (h : ∀ h', h'.PlainList d (vs ++ [v]).toArray → Heap.SameBut d s.heap h' → Q .none { s with heap := h' }) :
    wpAny (model prog w) A (call (.builtin "list.append") [.ref d, v]) Q E s := by
  refine wpAny_list_append_plain x (fun h' p hs => h h' ?_ hs) ?_
  · simpa using p
  · rw [List.size_toArray, sizeLine_eq]; omega
theorem lst_pop {i : Int} {u : Tok} {k : Nat} {y : Value} {vs : List Value} {Q : Value → Shared → Prop} (x : s.heap.PlainList d vs.toArray) (hz : vs.length ≤ 1000) (h0 : 0 ≤ i) (hk : i.toNat = k) (hi : k < vs.length) (hy : vs[k]? = some y)
    (h : ∀ h', h'.PlainList d (vs.eraseIdx k).toArray → Heap.SameBut d s.heap h' → Q y { s with heap := h' }) : wpAny (model prog w) A (call (.builtin "list.pop") [.ref d, .int i u]) Q E s := by
  obtain ⟨n, ho⟩ := x
  have hi2 : (i : Int) < 2 ^ 63 := by omega
  refine call_meets PySem.F.slot_list_pop ⟨_, ho, rfl⟩ PySem.F.entry_list_pop (PySem.F.args_list_pop_2 _ _) (MeetsSeq.list_pop_at d vs.toArray n i u k y ?_ ?_ (by simpa using hy) (by rw [List.size_toArray, sizeLine_eq]; omega)) ⟨ho, ?_⟩
  · unfold Builtin.List.listFitsIndex; simp; omega
  · have hn : ¬ i < 0 := Int.not_lt.mpr h0
    have hl : i < (vs.length : Int) := by omega
    simp [seqIndex?, hn, h0, hl, hk]
  · have e := IsL.update (show IsL s.heap d vs.toArray n from ho) (fun xs => xs.eraseIdxIfInBounds k)
    have e2 : vs.toArray.eraseIdxIfInBounds k = (vs.eraseIdx k).toArray := by simp
    rw [e2] at e
    exact h _ ⟨_, e⟩ (Heap.SameBut.update ..)
/-- the sum of two plain lists -/
theorem lst_add {b : Addr} {vs ws : List Value} {Q : Value → Shared → Prop} (x : s.heap.PlainList d vs.toArray) (y : s.heap.PlainList b ws.toArray) (hz : vs.length + ws.length ≤ 1000)
    (h : Q (.ref s.heap.objs.size) { s with heap := s.heap.push { cls := .type "list", data := .seq (vs ++ ws).toArray } }) : wpAny (model prog w) A (binaryOp .Add (.ref d) (.ref b)) Q E s := by
  obtain ⟨n, ho⟩ := x
  obtain ⟨k, hb⟩ := y
  refine P.add_list ho hb ?_ (by rw [List.size_toArray, List.size_toArray, sizeLine_eq]; omega)
  rw [List.append_toArray]; exact h
theorem St.made {h h' : Heap} {o : AO} (x : St prog w h₀ hb W L m O h) (k : ∀ b ob, h.get? b = some ob → h'.get? b = some ob) (r : Rep prog w h' h.objs.size o) : St prog w h₀ hb W L m ((h.objs.size, o) :: O) h' := by
  have kp : Kp h₀ [] h h' := ⟨fun b ob _ e => k b ob e, fun b ob _ e => k b ob e, fun b ob e _ => k b ob e⟩
  exact (x.other kp (fun _ q => nomatch q) fun _ q => nomatch q).add r x.big x.fresh (.inr x.chg.fresh)
theorem intsAre_get : ∀ {vs : List Value} {ns : List Int}, IntsAre vs ns → ∀ {i : Nat} {n : Int}, ns[i]? = some n → ∃ t, vs[i]? = some (.int n t)
  | _, _, .nil, i, n, e => by simp at e
  | _, _, .cons n' t h, 0, n, e => by simp at e; subst e; exact ⟨t, rfl⟩
  | _, _, .cons n' t h, i + 1, n, e => by simpa using intsAre_get h (by simpa using e)
theorem intsAre_len : ∀ {vs : List Value} {ns : List Int}, IntsAre vs ns → vs.length = ns.length
  | _, _, .nil => rfl
  | _, _, .cons n t h => by simp [intsAre_len h]
theorem intsAre_erase : ∀ {vs : List Value} {ns : List Int}, IntsAre vs ns → ∀ i, IntsAre (vs.eraseIdx i) (ns.eraseIdx i)
  | _, _, .nil, i => by simpa using IntsAre.nil
  | _, _, .cons n t h, 0 => by simpa using h
  | _, _, .cons n t h, i + 1 => by simpa using IntsAre.cons n t (intsAre_erase h i)
theorem intsAre_items {ns : List Int} : ∀ (vs : List Value), vs.length = ns.length → (∀ (i : Nat) v, vs[i]? = some v → ∃ t, v = .int (ns.getD i 0) t) → IntsAre vs ns := by
  induction ns with
  | nil => intro vs hl _; cases vs with
    | nil => exact .nil
    | cons _ _ => simp at hl
  | cons n ns ih =>
    intro vs hl h
    cases vs with
    | nil => simp at hl
    | cons v vs =>
      obtain ⟨t, e⟩ := h 0 v rfl
      subst e
      exact .cons _ t (ih vs (by simpa using hl) fun i v e => h (i + 1) v (by simpa using e))
end
end Mine
end

section
open PySem PySem.W PySem.Calls PyProof.Rows
namespace Mine
section
variable {prog : Program} {w : World} {h₀ hb : Heap} {W : List Addr} {a d L : Addr} {m : Str → Option Value} {O : List (Addr × AO)} {A : Around} {E : Value → Shared → Prop} {s : Shared} {env : Env}
/-- a slice of a list, whatever the base -/
theorem sub_slice {value : PySem.Expr} {lower upper : Option PySem.Expr} {p pos : Pos} {Q : Value → Shared → Prop}
    (h : wpAny (model prog w) A (eval value env) (fun o s₁ => wpAny (model prog w) A (evalPart lower env) (fun vl s₂ => wpAny (model prog w) A (evalPart upper env) (fun vu s₃ =>
      ∃ l items lo hi, o = .ref l ∧ s₃.heap.IsList l items ∧ items.size ≤ sizeLine ∧ IsPart vl lo ∧ IsPart vu hi ∧
        Q (.ref (s₃.heap.push { cls := .type "slice", data := .fields #[vl, vu, .none] }).objs.size) { s₃ with heap := (s₃.heap.push { cls := .type "slice", data := .fields #[vl, vu, .none] }).push { cls := .type "list", data := .seq (slicePick items lo hi none) } }) E s₂) E s₁) E s) :
    wpAny (model prog w) A (eval (.Subscript value (.Slice lower upper none p) pos) env) Q E s := by
  refine Subscript_ (wpAny_mono h (fun o s₁ h₁ => wpAny_Slice (wpAny_mono h₁ (fun vl s₂ h₂ => wpAny_mono h₂ (fun vu s₃ h₃ => ?_) fun _ _ e => e) fun _ _ e => e)) fun _ _ e => e)
  obtain ⟨l, items, lo, hi, rfl, hl, hsz, pl, pu, hQ⟩ := h₃
  rw [evalPart_none]
  refine wpAny_pure (tail_any (ops := [.ref s₃.heap.objs.size, .ref l]) (hl.push _).typeIs list_getitem_lookup (wpAny_getItem_list_slice (hl.push _) (Heap.IsSliceOf.new ..) pl pu .none (by simp) ?_ hsz) (by with_unfolding_all rfl))
  exact hQ
/-- x.append(e) on a line of its own -/
theorem append_stmt {l : Addr} {vs : List Value} {x : Str} {e : PySem.Expr} {p1 p2 p3 p4 : Pos} {pl : Sem Bool} {Q : Flow → Shared → Prop} (X : St prog w h₀ hb W env.locals m O s.heap) (hm : m x = some (.ref l)) (hl : s.heap.PlainList l vs.toArray)
    (h : wpAny (model prog w) A (eval e env) (fun v s₁ => ∃ ws : List Value, s₁.heap.PlainList l ws.toArray ∧ ws.length ≤ 1000 ∧ ∀ h', h'.PlainList l (ws ++ [v]).toArray → Heap.SameBut l s₁.heap h' → Q .next { s₁ with heap := h' }) E s)
    (hk : env.scope.kind = .function := by rfl) (hx : env.kindOf x = some .local := by rfl) (hd : (x == ("__debug__" : Str)) = false := by decide)
    (he : starEach [e] env = (false, eval e env) :: starEach [] env := by rfl)
    (he2 : eval (.Call (.Attribute (.Name x p1) "append" p2) [e] [] p3) env = (do
      let ov ← eval (.Name x p1) env
      standAt p2.atName
      let (f, first) ← holding [ov] (getMethod ov "append" pl)
      callWith p3 f first (backTo p3 (starEach [e] env)) []) := by rfl)
    (hi : interactive env = false := by rfl) (hs : swapsWith (.Call (.Attribute (.Name x p1) "append" p2) [e] [] p3) none p4.line env = pure false := by rfl) :
    wpAny (model prog w) A (exec (.Expr (.Call (.Attribute (.Name x p1) "append" p2) [e] [] p3) p4) env) Q E s := by
  refine wpAny_Expr (MethodCall_ (eN X hm (lst_meth PySem.F.slot_list_append PySem.F.type_list_append hl (callWith_method1 (args_cons (wpAny_mono h (fun v s₁ g => args_nil ?_) fun _ _ z => z) he) he)) hk hx hd) he2) hi hs
  obtain ⟨ws, p, hz, g⟩ := g
  exact lst_append p hz fun h' q c => g h' q c
end
end Mine
end

section
open PySem PySem.W PySem.Calls PyProof.Rows
namespace Mine
section
variable {prog : Program} {w : World} {h₀ hb : Heap} {W : List Addr} {a d L : Addr} {m : Str → Option Value} {O : List (Addr × AO)} {A : Around} {E : Value → Shared → Prop} {s : Shared} {env : Env} {c : List (Int × Int)}

theorem Holds1.append {kvs ks : List (Int × Value)} {e : List (Int × Int)} (y : Holds1 kvs c) (z : Holds1 ks e) : Holds1 (kvs ++ ks) (c ++ e) := by
  induction y with
  | nil => exact z
  | cons _ ih => exact .cons ih
theorem Holds1.length {kvs : List (Int × Value)} (y : Holds1 kvs c) : kvs.length = c.length := by
  induction y with
  | nil => rfl
  | cons _ ih => simp [ih]
theorem Holds1.look {kvs : List (Int × Value)} (y : Holds1 kvs c) (k : Int) :
    (valueAt kvs k = none ∧ kprHas c k = false) ∨ ∃ t n, valueAt kvs k = some (.int n t) ∧ kprHas c k = true ∧ ∀ e, kprLook c k e = n := by
  induction y with
  | nil => exact .inl ⟨rfl, rfl⟩
  | @cons k' n t kvs c _ ih =>
    by_cases e : k' = k
    · subst e
      refine .inr ⟨t, n, by simp [valueAt], by simp [kpr_has_cons], fun d => by rw [kpr_look_cons, if_pos rfl]⟩
    · have h1 : valueAt ((k', Value.int n t) :: kvs) k = valueAt kvs k := by simp [valueAt, List.find?_cons, e]
      rcases ih with ⟨i1, i2⟩ | ⟨t', n', i1, i2, i3⟩
      · exact .inl ⟨by rw [h1]; exact i1, by rw [kpr_has_cons, i2]; simp [e]⟩
      · exact .inr ⟨t', n', by rw [h1]; exact i1, by rw [kpr_has_cons, i2]; simp, fun d => by rw [kpr_look_cons, if_neg e]; exact i3 d⟩
theorem Holds1.map {kvs : List (Int × Value)} (y : Holds1 kvs c) (k n : Int) (t : Tok) : Holds1 (kvs.map fun kv => if kv.1 = k then (kv.1, .int n t) else kv) (c.map (kprSet k n)) := by
  induction y with
  | nil => exact .nil
  | @cons k' n' t' kvs c _ ih =>
    by_cases e : k' = k
    · subst e
      rw [List.map_cons, List.map_cons, kprSet_yes (p := (k', n')) rfl n]
      simp only [if_true]
      exact .cons ih
    · rw [List.map_cons, List.map_cons, kprSet_no (p := (k', n')) e]
      simp only [if_neg e]
      exact .cons ih
theorem Holds1.any {kvs : List (Int × Value)} (y : Holds1 kvs c) (k : Int) : kvs.any (fun kv => kv.1 = k) = kprHas c k := by
  induction y with
  | nil => rfl
  | cons _ ih => rw [List.any_cons, ih, kpr_has_cons]
theorem Holds1.stored {kvs : List (Int × Value)} (y : Holds1 kvs c) (k n : Int) (t : Tok) : Holds1 (stored kvs k (.int n t)) (kprPut c k n) := by
  unfold PySem.stored
  rw [y.any k]
  cases h : kprHas c k with
  | true => rw [if_pos rfl, kpr_put_old h]; exact y.map k n t
  | false => rw [if_neg Bool.false_ne_true, kpr_put_new h]; exact y.append (.cons .nil)
theorem Holds1.keys {kvs : List (Int × Value)} (y : Holds1 kvs c) : kvs.map (·.1) = c.map (·.1) := by
  induction y with
  | nil => rfl
  | cons _ ih => simp only [List.map_cons, ih]
theorem IsDI.nodup {h : Heap} (x : IsDI prog w h d c) : (c.map (·.1)).Nodup := by
  obtain ⟨_, kvs, ⟨_, _, _, _, _, _, _, _, hn⟩, hh⟩ := x
  rw [hh.keys] at hn; exact hn
theorem isDI_new {h : Heap} (lo : (h.objs.size == sysModules) = false) : IsDI prog w (h.push { cls := .type "dict", data := .dict #[] }) h.objs.size [] :=
  ⟨lo, [], .new _, .nil⟩
theorem isDI_set {k n : Int} {t u : Tok} {Q : Unit → Shared → Prop} (x : IsDI prog w s.heap d c) (hz : c.length ≤ 1000) (h : ∀ h' tk, IsDI prog w h' d (kprPut c k n) → Heap.SameBut d s.heap h' → Q () { s with heap := h', toks := tk }) :
    wpAny (model prog w) A (setItem (.ref d) (.int k u) (.int n t)) Q E s := by
  obtain ⟨lo, kvs, hx, hh⟩ := x
  refine wpAny_setItem_pairs (knd := intKind prog w) (k := k) (by simp [intKind, Value.isInt]) hx (fun h' hm hs => h h' _ ⟨lo, _, hm, hh.stored k n t⟩ hs) ?_
  rw [hh.length, sizeLine_eq]; omega
theorem isDI_item {k : Int} {u : Tok} {Q : Value → Shared → Prop} (x : IsDI prog w s.heap d c) (hk : kprHas c k = true) (h : ∀ t tk, Q (.int (kprLook c k 0) t) { s with toks := tk }) : wpAny (model prog w) A (getItem (.ref d) (.int k u)) Q E s := by
  obtain ⟨lo, kvs, hx, hh⟩ := x
  rcases hh.look k with ⟨_, i2⟩ | ⟨t, n, i1, _, i3⟩
  · rw [hk] at i2; cases i2
  · refine wpAny_getItem_of (knd := intKind prog w) (k := k) (by simp [intKind, Value.isInt]) hx.mapOf i1 ?_
    have := h t
    rw [i3 0] at this
    exact this _
theorem isDI_notIn {k : Int} {u : Tok} {Q : Value → Shared → Prop} (x : IsDI prog w s.heap d c) (h : ∀ tk, Q (.bool (!kprHas c k)) { s with toks := tk }) : wpAny (model prog w) A (compareOp .NotIn (.int k u) (.ref d)) Q E s := by
  obtain ⟨lo, kvs, hx, hh⟩ := x
  refine wpAny_notIn_of (knd := intKind prog w) (k := k) (by simp [intKind, Value.isInt]) lo hx.mapOf ?_
  rcases hh.look k with ⟨i1, i2⟩ | ⟨t, n, i1, i2, _⟩
  · rw [i1]; rw [i2] at h; exact h _
  · rw [i1]; rw [i2] at h; exact h _
/-- the entries of such a dict -/
structure EntI (es : Array DictEntry) (c : List (Int × Int)) : Prop where
  size : es.size = c.length
  at' : ∀ (i : Nat) (k n : Int), c[i]? = some (k, n) → ∃ u t, ∃ e : DictEntry, es[i]? = some e ∧ e.key = .int k u ∧ e.val = .int n t
theorem pairs_entI {kvs : List (Int × Value)} {es : List DictEntry} (hp : Pairs (intKind prog w) es kvs) : ∀ {c : List (Int × Int)}, Holds1 kvs c → EntI es.toArray c := by
  induction hp with
  | nil => intro c h; cases h; exact ⟨rfl, fun i k n e => by simp at e⟩
  | @cons e kv es kvs h1 h2 _ ih =>
    intro c h
    cases h with
    | @cons k n t _ c' h' =>
      have r := ih h'
      refine ⟨by simpa using r.size, fun i k' n' hi => ?_⟩
      cases i with
      | zero =>
        simp only [List.getElem?_cons_zero, Option.some.injEq, Prod.mk.injEq] at hi
        obtain ⟨rfl, rfl⟩ := hi
        obtain ⟨u, hu⟩ := Value.isInt_shape h1
        exact ⟨u, t, e, by simp, hu, h2⟩
      | succ i =>
        obtain ⟨u, t', e', he, hk, hv⟩ := r.at' i k' n' (by simpa using hi)
        exact ⟨u, t', e', by simpa using he, hk, hv⟩
theorem IsDI.ent {h : Heap} (x : IsDI prog w h d c) : (d == sysModules) = false ∧ ∃ es ep, RD h d es ep ∧ EntI es c := by
  obtain ⟨lo, kvs, ⟨o, es, ep, ho, hc, hd, _, hp, _⟩, hh⟩ := x
  refine ⟨lo, es, ep, ⟨o, ho, hc, hd⟩, ?_⟩
  have := pairs_entI hp hh
  simpa using this
end
end Mine
end

section
open PySem PySem.W PySem.Calls PyProof.Rows
set_option maxRecDepth 100000
namespace Mine
section
variable {prog : Program} {w : World} {h₀ hb : Heap} {W : List Addr} {a d L : Addr} {m : Str → Option Value} {O : List (Addr × AO)} {A : Around} {E : Value → Shared → Prop} {s : Shared} {env : Env}

/-- going over range(n), the number being at hand -/
theorem loop_range_n {R : Result → Shared → Prop} {target : PySem.Expr} {body : List PySem.Stmt} {n : Nat} {t : Tok} (hh : A.handled = none) (X : St prog w h₀ hb W env.locals m O s.heap) (hn : n ≤ 1000)
    (J : Nat → (Str → Option Value) → List (Addr × AO) → Prop) (j0 : J 0 m O)
    (step : Step prog w A h₀ s.heap env target body O n (fun i v _ => ∃ t, v = .int (i : Int) t) J (fun f s' => R (.ok f) s') s)
    (done : Done prog w h₀ hb s.heap W env.locals O n J (fun f s' => R (.ok f) s') s)
    (hgo : ∀ (s : Shared) (v : Value), letOwnedTupleGo target (.ref s.heap.objs.size) v = pure () := by intro _ _; rfl) :
    wpAny (model prog w) A (call (.type "range") [.int (n : Int) t]) (fun xv s₁ => wpAny (model prog w) A (pyIter xv) (fun it s₂ => codeAny (model prog w) A (.forLoop target it body [] env) R s₂) (fun _ _ => False) s₁) (fun _ _ => False) s := by
  refine call_range_1 ?_
  refine loop_range hh (X.push _) (n := n) (t := s.toks) (u := t) (v := s.toks + 1) ?_ hn J j0 ?_ ?_ hgo
  · exact Heap.get?_push_size _ rfl
  · intro i v m₁ O₁ h tk hi hP hJ X₁ k
    exact step i v m₁ O₁ h tk hi hP hJ X₁ ((Kp.push _).trans k)
  · intro m₁ O₁ h tk hJ X₁ k
    exact done m₁ O₁ h tk hJ X₁ ((Kp.push _).trans k)

/-- for x in range(a literal) -/
theorem for_range {target : PySem.Expr} {body : List PySem.Stmt} {n : Nat} {p1 p2 p3 pos : Pos} {k : Nat} {Q : Flow → Shared → Prop} (T : Tp h₀) (hh : A.handled = none) (X : St prog w h₀ hb W env.locals m O s.heap) (hn : n ≤ 1000)
    (J : Nat → (Str → Option Value) → List (Addr × AO) → Prop) (j0 : J 0 m O)
    (step : Step prog w A h₀ s.heap env target body O n (fun i v _ => ∃ t, v = .int (i : Int) t) J Q s)
    (done : Done prog w h₀ hb s.heap W env.locals O n J Q s)
    (hgo : ∀ (s : Shared) (v : Value), letOwnedTupleGo target (.ref s.heap.objs.size) v = pure () := by intro _ _; rfl)
    (hk : env.scope.kind = .function := by rfl) (hx : env.kindOf "range" = some .globalImplicit := by rfl) (hg : env.globals = mainGlobals := by rfl) (hb' : env.builtins = builtinsNs := by rfl)
    (hs : ∀ x, foldedSetIterable (.Call (.Name "range" p1) [.Constant (.int n) k p2] [] p3) env x = pure x := by intro _; rfl) :
    wpAny (model prog w) A (exec (.For target (.Call (.Name "range" p1) [.Constant (.int n) k p2] [] p3) body [] pos) env) Q (fun _ _ => False) s := by
  refine for_stmt ?_ hs
  refine wpAny_Call_NameR ?_ 
  refine eG T X.fr (gmem (i := 6) rfl) ?_ hk hx hg hb'
  refine PyProof.Rows.callWith_type1 (args_cons (wpAny_Constant_int (args_nil ?_)))
  exact loop_range_n (s := { s with toks := s.toks + 1 }) hh X hn J j0 step done hgo

theorem key2_of {T : Addr} {i j : Int} {t u : Tok} {h : Heap} {o : Obj} (ho : h.get? T = some o) (hc : o.cls = .type "tuple") {n : Nat} (hd : o.data = .seq #[.int i t, .int j u] n) : IsTupleKey (mix prog w) h (key2 (i, j)) T :=
  ⟨o, _, n, ho, hc, hd, .cons (by simp [mix, isMix, Value.isInt]) (.cons (by simp [mix, isMix, Value.isInt]) .nil)⟩
theorem key3_of {T : Addr} {j : Int} {t u v : Tok} {h : Heap} {o : Obj} (ho : h.get? T = some o) (hc : o.cls = .type "tuple") {n : Nat} (hd : o.data = .seq #[.str (Str.ofString "to") t, .int j u, .str (Str.ofString "other") v] n) : IsTupleKey (mix prog w) h (key3 j) T :=
  ⟨o, _, n, ho, hc, hd, .cons (by simp [mix, isMix, Value.isStrOf]) (.cons (by simp [mix, isMix, Value.isInt]) (.cons (by simp [mix, isMix, Value.isStrOf]) .nil))⟩
theorem nodup_len {α : Type} [DecidableEq α] : ∀ (l m : List α), l.Nodup → (∀ x ∈ l, x ∈ m) → l.length ≤ m.length
  | [], _, _, _ => Nat.zero_le _
  | a :: l, m, hn, hs => by
    obtain ⟨h1, h2⟩ := List.nodup_cons.mp hn
    have ha : a ∈ m := hs a (.head _)
    have := nodup_len l (m.erase a) h2 fun x hx => (List.mem_erase_of_ne (fun e => h1 (by rw [← e]; exact hx))).mpr (hs x (.tail _ hx))
    rw [List.length_erase_of_mem ha] at this
    have hp : 0 < m.length := List.length_pos_of_mem ha
    simp only [List.length_cons]
    omega
theorem four_of {x : Int} (h : 0 ≤ x ∧ x < 4) : x ∈ [(0 : Int), 1, 2, 3] := by
  have : x = 0 ∨ x = 1 ∨ x = 2 ∨ x = 3 := by omega
  simpa using this
theorem four_len {l : List Int} (hn : l.Nodup) (h : ∀ x ∈ l, 0 ≤ x ∧ x < 4) : l.length ≤ 4 := nodup_len l [0, 1, 2, 3] hn fun x hx => four_of (h x hx)
/-- an int in a list of ints -/
theorem ints_notIn {l : Addr} {vs : List Value} {ns : List Int} {k : Int} {u : Tok} {Q : Value → Shared → Prop} (hl : s.heap.IsList l vs.toArray) (hi : IntsAre vs ns) (h : Q (.bool (!decide (k ∈ ns))) s) : wpAny (model prog w) A (compareOp .NotIn (.int k u) (.ref l)) Q E s := by
  refine SeqInW.notIn_listW (fun y => match y with | .int n _ => n == k | _ => false) ?_ hl ?_
  · intro y hy
    obtain ⟨i, hi', e⟩ := List.mem_iff_getElem.mp (show y ∈ vs by simpa using hy)
    have hn : i < ns.length := by rw [← intsAre_len hi]; exact hi'
    obtain ⟨t, g⟩ := intsAre_get hi (List.getElem?_eq_getElem hn)
    rw [List.getElem?_eq_getElem hi', e] at g
    cases g
    exact MeetsSeq.EqGives.int _ _ _ _
  · have e : vs.toArray.any (fun y => match y with | .int n _ => n == k | _ => false) = decide (k ∈ ns) := by
      rw [List.any_toArray]
      clear hl h
      induction hi with
      | nil => rfl
      | @cons n t vs ns _ ih =>
        rw [List.any_cons, ih]
        by_cases q : n = k
        · subst q; simp
        · have q' : ¬ k = n := fun e => q e.symm
          simp [q, q']
    rw [e]; exact h
/-- a method of such a dict -/
theorem isD_meth {κ : Type} {emb : κ → List (Str ⊕ Int)} {c : List (κ × Int)} {name : Str} {id : String} {pl : Sem Bool} {Q : Value × List Value → Shared → Prop} (slot : Slot "dict" name id) (hty : typeOf (.builtin id) = pure (.type "method_descriptor")) (x : IsD prog w emb s.heap d c) (h : Q (.builtin id, [.ref d]) s) :
    wpAny (model prog w) A (getMethod (.ref d) name pl) Q E s := by
  obtain ⟨lo, xs, hx, hh⟩ := x
  refine getMethod_builtin (Heap.DictOfH.typeIs hx) PySem.F.plainAttrs_dict slot hty (fun b e => ?_) h
  cases e
  obtain ⟨o, es, ep, ho, hc, _⟩ := hx
  exact ⟨o, ho, hc.2.1⟩
theorem Chg.ofKp {h h' : Heap} (x : Kp h₀ W h h') (hl : ∀ a ∈ W, ∃ o, h'.get? a = some o) : Chg h₀ W h h' :=
  ⟨x, fun b o e => if q : b ∈ W then hl b q else ⟨o, x.keep b o q e⟩⟩
theorem St.all {h : Heap} (x : St prog w h₀ hb W L m O h) : ∀ a ∈ L :: O.map (·.1), ∃ o, h.get? a = some o := by
  intro a q
  rcases List.mem_cons.mp q with rfl | q
  · exact ns_here x.fr.ns
  · obtain ⟨p, hp, rfl⟩ := List.mem_map.mp q
    exact (x.objs p hp).1.here
/-- the state at a turn's start, told from the loop's own start -/
theorem St.from {h h₁ : Heap} {m' m₂ : Str → Option Value} {O' O₂ : List (Addr × AO)} (x : St prog w h₀ hb W L m O h) (k : Kp h₀ (L :: O.map (·.1)) h h₁) (x₁ : St prog w h₀ h₁ (L :: O'.map (·.1)) L m' O' h₁) (e : O'.map (·.1) = O.map (·.1)) {h₂ : Heap}
    (y : St prog w h₀ h₁ (L :: O'.map (·.1)) L m₂ O₂ h₂) : St prog w h₀ hb W L m₂ O₂ h₂ := by
  rw [e] at y
  exact x.join y (Chg.ofKp k fun a q => x₁.all a (by rw [e]; exact q))
/-- o[i], read -/
theorem sub_item {value slice : PySem.Expr} {pos : Pos} {Q : Value → Shared → Prop} (ty id : String) (hl : typeLookup (.type ty) "__getitem__" = pure (some (.builtin id)))
    (h : wpAny (model prog w) A (eval value env) (fun o s₁ => wpAny (model prog w) A (eval slice env) (fun i s₂ => s₂.TypeIs o ty ∧ wpAny (model prog w) A (getItem o i) Q E s₂) E s₁) E s)
    (hs : ∀ o i, subscripted slice false o i = operate [o, i] (getItem o i) := by intro _ _; with_unfolding_all rfl) :
    wpAny (model prog w) A (eval (.Subscript value slice pos) env) Q E s :=
  Subscript_ (wpAny_mono h (fun o s₁ h₁ => wpAny_mono h₁ (fun i s₂ h₂ => tail_any h₂.1 hl h₂.2 (hs o i)) fun _ _ e => e) fun _ _ e => e)
theorem isDI_type {c : List (Int × Int)} (x : IsDI prog w s.heap d c) : s.TypeIs (.ref d) "dict" := let ⟨_, _, hx, _⟩ := x; hx.typeIs
theorem isD_type {κ : Type} {emb : κ → List (Str ⊕ Int)} {c : List (κ × Int)} (x : IsD prog w emb s.heap d c) : s.TypeIs (.ref d) "dict" := let ⟨_, _, hx, _⟩ := x; Heap.DictOfH.typeIs hx
/-- calling a def of the text's by its name -/
theorem callG {f i : Nat} {dV kV : Value} {pos : Pos} {e : PySem.Expr} {rest : List PySem.Expr} {Q : Value → Shared → Prop} (hfn : FnAt h₀ f i dV kV)
    (h : wpAny (model prog w) A (spliced (backTo pos (starEach (e :: rest) env))) (fun vs s₁ => (∀ b o, h₀.get? b = some o → s₁.heap.get? b = some o) ∧ wpAny (model prog w) A (call (.ref f) vs) Q E s₁) E s)
    (he : starEach (e :: rest) env = (false, eval e env) :: starEach rest env := by rfl) : wpAny (model prog w) A (callWith pos (.ref f) [] (backTo pos (starEach (e :: rest) env)) []) Q E s := by
  obtain ⟨o, pm, cd, ho, hd, hc⟩ := hfn
  exact callWith_def hd (wpAny_mono h (fun vs s₁ g => ⟨g.1 _ _ ho, g.2⟩) fun _ _ z => z) he
end
end Mine
end

section
open PySem PySem.W PySem.Calls PyProof.Rows
set_option maxRecDepth 100000
set_option maxHeartbeats 1000000
namespace Mine
section
variable {prog : Program} {w : World} {h₀ hb : Heap} {W : List Addr} {a d L : Addr} {m : Str → Option Value} {O : List (Addr × AO)} {A : Around} {E : Value → Shared → Prop} {s : Shared} {env : Env}

theorem erase_perm {α : Type} : ∀ (l : List α) (k : Nat) (h : k < l.length), (l[k] :: l.eraseIdx k).Perm l
  | a :: l, 0, h => .refl _
  | a :: l, k + 1, h => by
    simp only [List.getElem_cons_succ, List.eraseIdx_cons_succ]
    exact (List.Perm.swap _ _ _).trans (List.Perm.cons _ (erase_perm l k (by simpa using h)))
theorem intsAre_append : ∀ {vs : List Value} {ns : List Int} {ws : List Value} {ms : List Int}, IntsAre vs ns → IntsAre ws ms → IntsAre (vs ++ ws) (ns ++ ms)
  | _, _, _, _, .nil, y => y
  | _, _, _, _, .cons n t h, y => .cons n t (intsAre_append h y)

theorem law_order_spec {ns : List Int} {vs : List Value} {Q : Value → Shared → Prop} (T : Tp h₀) (R : Rm A 2 20) (hkeep : ∀ b o, h₀.get? b = some o → s.heap.get? b = some o) (hbig : h₀.objs.size ≤ s.heap.objs.size)
    (x : s.heap.PlainList d vs.toArray) (hi : IntsAre vs ns) (hlen : vs.length ≤ 100)
    (h : ∀ h' tk r us ps, Chg h₀ [] s.heap h' → s.heap.get? r = none → h₀.objs.size ≤ r → h'.PlainList r us.toArray → IntsAre us ps → ps.Perm [0, 1, 2, 3] → Q (.ref r) { s with heap := h', toks := tk }) :
    wpAny (model prog w) A (call (.ref 53) [.ref d]) Q E s := by
  refine call_def (O := []) (W := []) (binds := [("numbers", .ref d)]) T T.ord hkeep hbig (by have := R.dp; omega) (fun _ q => nomatch q) List.nodup_nil (fun _ q => nomatch q) (fun pm cd => BindsTo.of_eq rfl) (locs rfl) ?_
  intro L cd h₁ tk X
  have R' : Rm (A.deeper (envOf (sName (defAt 7)) (sScope (defAt 7)) L 53 cd)) 1 17 := R.deeper
  refine wpAny_execs_cons (Assign_Tuple_swapped (names := ["left", "found"]) ?_)
  refine wpAny_Tuple ?_
  refine args_cons ?_
  refine wpAny_Call_NameR ?_
  refine eG T X.fr (gmem (i := 7) rfl) ?_
  refine PyProof.Rows.callWith_type1 ?_
  refine args_cons ?_
  refine wpAny_Call_NameR ?_
  refine eG T X.fr (gmem (i := 6) rfl) ?_
  refine PyProof.Rows.callWith_type1 ?_
  refine args_cons (wpAny_Constant_int ?_)
  refine args_nil ?_
  refine call_range_1 ?_
  refine args_nil ?_
  dsimp only
  have X₁ := X.push { cls := .type "range", data := .fields #[.int 0 (tk + 1), .int 4 tk, .int 1 (tk + 1 + 1)] }
  refine call_list_range (n := 4) R'.hh (Heap.get?_push_size _ rfl) (by decide) (by decide) (by decide) fun h₂ tk₂ acc k₂ keep₂ ho₂ its₂ => ?_
  have hacc : ∃ us : List Value, acc = us.toArray ∧ IntsAre us [0, 1, 2, 3] := by
    refine ⟨acc.toList, by simp, intsAre_items _ (by rw [Array.length_toList, its₂.1]; rfl) fun i v e => ?_⟩
    have hi : i < 4 := by
      have := (List.getElem?_eq_some_iff.mp e).1
      rw [Array.length_toList, its₂.1] at this; exact this
    obtain ⟨t, rfl⟩ := its₂.2 i v (by simpa using e)
    refine ⟨t, ?_⟩
    rcases i with _ | _ | _ | _ | i
    · rfl
    · rfl
    · rfl
    · rfl
    · omega
  obtain ⟨us, rfl, hus⟩ := hacc
  have X₂ := X₁.made (o := .lst us) keep₂ ⟨_, ho₂⟩
  refine args_cons (wpAny_List (args_nil ⟨by decide, ?_⟩))
  have hl2n : s.heap.get? h₂.objs.size = none := X₂.chg.fresh
  have X₃ := X₂.new (o := .lst []) { cls := .type "list", data := .seq #[] } ⟨0, Heap.get?_push_size _ rfl⟩
  refine args_nil ⟨by size_fits, ?_⟩
  dsimp only at X₁ X₂ X₃ keep₂ ⊢
  generalize hl1 : (h₁.push { cls := .type "range", data := .fields #[.int 0 (tk + 1), .int 4 tk, .int 1 (tk + 1 + 1)] }).objs.size = l1 at X₂ X₃ ⊢
  generalize hl2 : h₂.objs.size = l2 at X₃ hl2n ⊢
  have X₄ := X₃.push { cls := .type "tuple", data := .seq #[.ref l1, .ref l2] }
  have X₄f := X₄.fresh
  have X₄b := X₄.big
  have X₄c := X₄.chg.fresh
  refine wpAny_unpackItems_tuple (items := #[.ref l1, .ref l2]) R'.hh ⟨_, Heap.get?_push_size _ rfl, rfl, _, rfl⟩ fun h₅ e₅ => ?_
  have X₅ := X₄.other (Kp.ofExt e₅ (fun o e => absurd (Heap.lt_size e) (Nat.lt_irrefl _)) X₄b) (fun a q => by rw [List.mem_singleton.mp q]; exact X₄f) fun a q => by rw [List.mem_singleton.mp q]; exact X₄c
  refine wpAny_assignInOrder_more (wpAny_bindName (sN X₅ fun h₆ X₆ => ?_))
  refine wpAny_assignInOrder_more (wpAny_bindName (sN X₆ fun h₇ X₇ => wpAny_assignInOrder_none ?_))
  dsimp only
  refine wpAny_execs_cons (for_stmt (sub_slice (wpAny_BinOp (eN X₇ rfl ?_))))
  refine wpAny_List (args_cons (wpAny_Constant_int (args_cons (wpAny_Constant_int (args_cons (wpAny_Constant_int (args_cons (wpAny_Constant_int (args_nil ⟨by size_fits, ?_⟩)))))))))
  dsimp only
  have hx₇ : ∀ h' : Heap, Kp h₀ [] h₇ h' → h'.PlainList d vs.toArray := fun h' k => Heap.PlainList.at x fun o e => k.keep d o (fun q => nomatch q) (X₇.chg.keep d o (fun q => nomatch q) e)
  refine lst_add (hx₇ _ (.push _)) ⟨0, Heap.get?_push_size _ rfl⟩ (by simp; omega) ?_
  dsimp only
  refine wpAny_evalPart_none (wpAny_evalPart_some (wpAny_Constant_int ?_))
  refine ⟨_, _, none, some 4, rfl, ⟨_, Heap.get?_push_size _ rfl, rfl, _, rfl⟩, ?_, .none, .int 4 _, ?_⟩
  · rw [List.size_toArray, sizeLine_eq]; simp; omega
  dsimp only
  have hz : ∀ t1 t2 t3 t4 : Tok, ∃ ms, ms.length = 4 ∧ IntsAre (slicePick (vs ++ [Value.int 0 t1, .int 0 t2, .int 0 t3, .int 0 t4]).toArray none (some 4) none).toList ms := fun t1 t2 t3 t4 =>
    ⟨(ns ++ [0, 0, 0, 0]).take 4, by simp, kmk_upto (intsAre_append hi (.cons 0 t1 (.cons 0 t2 (.cons 0 t3 (.cons 0 t4 .nil))))) (by decide)⟩
  obtain ⟨ms, hms, hzs⟩ := hz _ _ _ _
  generalize slicePick _ _ _ _ = zs at hzs ⊢
  have hzl : zs.size = 4 := by rw [← Array.length_toList, intsAre_len hzs, hms]
  refine loop_list (prog := prog) (w := w) R'.hh (((X₇.push _).push _).push _ |>.push _) ⟨_, Heap.get?_push_size _ rfl, rfl, _, rfl⟩ (((X₇.push _).push _).push _).fresh
    (fun i m₁ O₁ => m₁ "found" = some (.ref l2) ∧ m₁ "left" = some (.ref l1) ∧ ∃ gs hs fs ls, O₁ = [(l2, .lst gs), (l1, .lst hs)] ∧ IntsAre gs fs ∧ IntsAre hs ls ∧ (fs ++ ls).Perm [0, 1, 2, 3] ∧ fs.length = i)
    ⟨rfl, rfl, [], us, [], [0, 1, 2, 3], rfl, .nil, hus, .refl _, rfl⟩ ?_ ?_
  · rintro i v m₁ O₁ h₈ tk₈ hi ev ⟨m1, m2, gs, hs, fs, ls, rfl, hgs, hhs, hp, hfl⟩ X₈ k₈
    rw [hzl] at hi
    obtain ⟨n, hn⟩ : ∃ n, ms[i]? = some n := ⟨ms[i]'(by omega), by simp [hms, hi]⟩
    obtain ⟨t, et⟩ := intsAre_get hzs hn
    rw [Array.getElem?_toList, ev] at et
    cases et
    refine wpAny_assign_Name (sN X₈ fun h₉ X₉ => ?_)
    refine wpAny_execs_cons (append_stmt X₉ m1 (X₉.get (i := 0) rfl) ?_)
    refine MethodCall_ (eN X₉ m2 (lst_meth PySem.F.slot_list_pop PySem.F.type_list_pop (X₉.get (i := 1) rfl) ?_))
    refine callWith_method1 (args_cons (wpAny_BinOp (eN X₉ rfl ?_)))
    refine wpAny_Call_NameR ?_
    refine eG T X₉.fr (gmem (i := 10) rfl) ?_
    refine PyProof.Rows.callWith_builtin1 (args_cons (eN X₉ m2 (args_nil ?_)))
    have hl2 : fs.length + ls.length = 4 := by have := hp.length_eq; simpa using this
    have hll := intsAre_len hhs
    refine call_len_list (Heap.PlainList.isList (X₉.get (i := 1) rfl)) (by rw [List.size_toArray]; omega) ?_
    have hpos : 0 < hs.length := by omega
    have hpos' : ((hs.toArray.size : Nat) : Int) ≠ 0 := by rw [List.size_toArray]; omega
    refine mod_int hpos' (args_nil ?_)
    rw [List.size_toArray] at hpos' ⊢
    have hf0 : 0 ≤ n.fmod (hs.length : Int) := Int.fmod_nonneg_of_pos _ (by omega)
    have hf1 : n.fmod (hs.length : Int) < hs.length := Int.fmod_lt_of_pos _ (by omega)
    obtain ⟨k, hk⟩ : ∃ k : Nat, (n.fmod (hs.length : Int)).toNat = k := ⟨_, rfl⟩
    have hk1 : k < hs.length := by omega
    obtain ⟨y, hy⟩ : ∃ y, ls[k]? = some y := ⟨ls[k]'(by omega), by simp⟩
    obtain ⟨u, hu⟩ := intsAre_get hhs hy
    refine lst_pop (X₉.get (i := 1) rfl) (by omega) hf0 hk hk1 hu fun h₁₀ p₁₀ s₁₀ => ?_
    have X₁₀ := X₉.put (i := 1) (o' := .lst _) rfl s₁₀ p₁₀
    refine ⟨gs, X₁₀.get (i := 0) rfl, by have := intsAre_len hgs; omega, fun h₁₁ p₁₁ s₁₁ => ?_⟩
    have X₁₁ := X₁₀.put (i := 0) (o' := .lst _) rfl s₁₁ p₁₁
    refine wpAny_execs_nil (Turn.next X₁₁ ⟨m1, m2, _, _, fs ++ [y], ls.eraseIdx k, rfl, intsAre_append hgs (.cons _ _ .nil), intsAre_erase hhs k, ?_, by simp [hfl]⟩)
    refine List.Perm.trans ?_ hp
    rw [List.append_assoc]
    refine List.Perm.append_left _ ?_
    have hke : k < ls.length := by omega
    have : y = ls[k] := by rw [List.getElem?_eq_getElem hke] at hy; exact (Option.some.inj hy).symm
    rw [this]
    exact erase_perm ls k hke
  · rintro m₁ O₁ h₈ tk₈ ⟨m1, m2, gs, hs, fs, ls, rfl, hgs, hhs, hp, hfl⟩ X₈ k₈
    refine wpAny_execs_cons (wpAny_Return_some (eN X₈ m1 ?_))
    rw [hzl] at hfl
    have hl2 : fs.length + ls.length = 4 := by have := hp.length_eq; simpa using this
    have : ls = [] := List.eq_nil_of_length_eq_zero (by omega)
    subst this
    rw [List.append_nil] at hp
    exact h _ _ _ _ _ X₈.chg hl2n (X₈.lo (i := 0) rfl) (X₈.get (i := 0) rfl) hgs hp
end
end Mine
end

section
open PySem PySem.W PySem.Calls PyProof.Rows
set_option maxRecDepth 100000
set_option maxHeartbeats 4000000
namespace Mine
/-! What _law_free leaves, told without the program. c: how often each pair comes; t: who is taken by whom; sn: who was seen. -/
abbrev Cn := List ((Int × Int) × Int)
def In4 (x : Int) : Prop := 0 ≤ x ∧ x < 4
def Edge (c : Cn) (x o : Int) : Prop := 0 < kprLook c (x, o) 0
structure SeenOk (sn : List Int) : Prop where
  nodup : sn.Nodup
  four : ∀ x ∈ sn, In4 x
structure FrT (c : Cn) (one : Int) (t : List (Int × Int)) (sn : List Int) (t' : List (Int × Int)) : Prop where
  perm : (t'.map (·.2)).Perm (one :: t.map (·.2))
  ok : ∀ p ∈ t', Edge c p.2 p.1 ∧ In4 p.1
  has : ∀ o ∈ sn, kprHas t' o = kprHas t o
  look : ∀ o ∈ sn, kprLook t' o 0 = kprLook t o 0
structure FrF (c : Cn) (n : Int) (one : Int) (t : List (Int × Int)) (sn sn' : List Int) : Prop where
  sub : ∀ x ∈ sn, x ∈ sn'
  ok : SeenOk sn'
  nb : ∀ o, 0 ≤ o → o < n → Edge c one o → o ∈ sn'
  cl : ∀ o ∈ sn', o ∉ sn → ∃ x, (o, x) ∈ t ∧ ∀ o2, In4 o2 → Edge c x o2 → o2 ∈ sn'
theorem look_mem {α : Type} [DecidableEq α] {t : List (α × Int)} {o : α} (h : kprHas t o = true) : (o, kprLook t o 0) ∈ t := by
  induction t with
  | nil => rw [kpr_has_nil] at h; cases h
  | cons p t ih =>
    rw [kpr_has_cons] at h
    rw [kpr_look_cons]
    by_cases e : p.1 = o
    · rw [if_pos e]; exact e ▸ .head _
    · rw [if_neg e]
      simp only [decide_eq_false e, Bool.false_or] at h
      exact .tail _ (ih h)
theorem put_vals {t : List (Int × Int)} {o one x : Int} {l : List Int} (h : kprHas t o = true) (hn : (t.map (·.1)).Nodup) (hx : kprLook t o 0 = x) (hp : (t.map (·.2)).Perm (x :: l)) : ((kprPut t o one).map (·.2)).Perm (one :: l) := by
  rw [kpr_put_old h]
  have key : ∀ t : List (Int × Int), kprHas t o = true → (t.map (·.1)).Nodup → ∃ r, (t.map (·.2)).Perm (kprLook t o 0 :: r) ∧ ((t.map (kprSet o one)).map (·.2)).Perm (one :: r) := by
    intro t
    induction t with
    | nil => intro h _; rw [kpr_has_nil] at h; cases h
    | cons p t ih =>
      intro h hn
      rw [kpr_has_cons] at h
      rw [List.map_cons, List.nodup_cons] at hn
      by_cases e : p.1 = o
      · have hrest : t.map (kprSet o one) = t := by
          have : ∀ q ∈ t, kprSet o one q = q := fun q hq => kprSet_no (fun e' => hn.1 (List.mem_map.mpr ⟨q, hq, e'.trans e.symm⟩)) one
          exact (List.map_congr_left this).trans (List.map_id _)
        refine ⟨t.map (·.2), ?_, ?_⟩
        · rw [kpr_look_cons, if_pos e]; exact .refl _
        · rw [List.map_cons, kprSet_yes e, hrest]; exact .refl _
      · simp only [decide_eq_false e, Bool.false_or] at h
        obtain ⟨r, r1, r2⟩ := ih h hn.2
        refine ⟨p.2 :: r, ?_, ?_⟩
        · rw [kpr_look_cons, if_neg e, List.map_cons]
          exact (List.Perm.cons _ r1).trans (.swap ..)
        · rw [List.map_cons, kprSet_no e, List.map_cons]
          exact (List.Perm.cons _ r2).trans (.swap ..)
  obtain ⟨r, r1, r2⟩ := key t h hn
  rw [hx] at r1
  exact r2.trans ((r1.symm.trans hp).cons_inv.cons _)
theorem put_mem {t : List (Int × Int)} {o v : Int} {p : Int × Int} (h : p ∈ kprPut t o v) : p = (o, v) ∨ p ∈ t := by
  cases q : kprHas t o with
  | false =>
    rw [kpr_put_new q] at h
    rcases List.mem_append.mp h with h | h
    · exact .inr h
    · exact .inl (List.mem_singleton.mp h)
  | true =>
    rw [kpr_put_old q] at h
    obtain ⟨r, hr, e⟩ := List.mem_map.mp h
    by_cases z : r.1 = o
    · rw [kprSet_yes z] at e; subst e; exact .inl (by rw [z])
    · rw [kprSet_no z] at e; subst e; exact .inr hr

section
variable {prog : Program} {w : World} {h₀ hb : Heap} {W : List Addr} {a d L : Addr} {m : Str → Option Value} {O : List (Addr × AO)} {A : Around} {E : Value → Shared → Prop} {s : Shared} {env : Env}

theorem law_free_spec (T : Tp h₀) : ∀ (k : Nat) {A : Around} {E : Value → Shared → Prop} {s : Shared} {one : Int} {u : Tok} {P D S : Addr} {c : Cn} {t : List (Int × Int)} {us : List Value} {sn : List Int} {Q : Value → Shared → Prop},
    Rm A (k + 2) (3 * k + 20) → (∀ b o, h₀.get? b = some o → s.heap.get? b = some o) → h₀.objs.size ≤ s.heap.objs.size →
    IsD prog w key2 s.heap P c → IsDI prog w s.heap D t → s.heap.PlainList S us.toArray → IntsAre us sn → h₀.objs.size ≤ D → h₀.objs.size ≤ S → D ≠ S → P ≠ D → P ≠ S → t.length ≤ 900 →
    (∀ p ∈ t, Edge c p.2 p.1 ∧ In4 p.1) → SeenOk sn → 5 ≤ sn.length + k →
    (∀ h' tk b t' us' sn', Chg h₀ [D, S] s.heap h' → IsDI prog w h' D t' → h'.PlainList S us'.toArray → IntsAre us' sn' → (if b then FrT c one t sn t' else t' = t ∧ FrF c 4 one t sn sn') → Q (.bool b) { s with heap := h', toks := tk }) →
    wpAny (model prog w) A (call (.ref 60) [.ref P, .int one u, .ref D, .ref S]) Q E s := by
  intro k
  induction k with
  | zero =>
    intro A E s one u P D S c t us sn Q _ _ _ _ _ _ _ _ _ _ _ _ _ _ ok hk
    have := four_len ok.nodup ok.four
    omega
  | succ k ih =>
    intro A E s one u P D S c t us sn Q R hkeep hbig x y z hi hD hS hDS hPD hPS hlen hok ok hk h
    refine call_def (O := [(D, .di t), (S, .lst us)]) (W := [D, S]) (binds := [("pairs", .ref P), ("one", .int one u), ("taken", .ref D), ("seen", .ref S)]) T T.fre hkeep hbig (by have := R.dp; omega)
      (fun p q => by
        rcases List.mem_cons.mp q with rfl | q
        · exact ⟨y, hD⟩
        · rw [List.mem_singleton.mp q]; exact ⟨z, hS⟩) (by simpa using hDS)
      (fun p q => by
        rcases List.mem_cons.mp q with rfl | q
        · exact .head _
        · rw [List.mem_singleton.mp q]; exact .tail _ (.head _)) (fun pm cd => BindsTo.of_eq rfl) (locs rfl) ?_
    intro L cd h₁ tk X
    have R' : Rm (A.deeper (envOf (sName (defAt 8)) (sScope (defAt 8)) L 60 cd)) (k + 2) (3 * k + 20) := by
      have : Rm A (k + 2 + 1) (3 * k + 20 + 3) := R.le (by omega) (by omega)
      exact this.deeper
    have hPW : P ∉ [D, S] := by simpa using ⟨hPD, hPS⟩
    obtain ⟨oP, hoP⟩ := x.here
    have hPL := X.notIn hoP hPW
    refine wpAny_execs_cons (for_range (n := 4) T R'.hh X (by decide)
      (fun i m₁ O₁ => m₁ "pairs" = some (.ref P) ∧ m₁ "one" = some (.int one u) ∧ m₁ "taken" = some (.ref D) ∧ m₁ "seen" = some (.ref S) ∧ ∃ us₁ sn₁, O₁ = [(D, .di t), (S, .lst us₁)] ∧ IntsAre us₁ sn₁ ∧ FrF c i one t sn sn₁)
      ⟨rfl, rfl, rfl, rfl, us, sn, rfl, hi, ⟨fun _ q => q, ok, fun o h0 h1 => by omega, fun o h1 h2 => absurd h1 h2⟩⟩ ?_ ?_)
    · rintro i v m₁ O₁ h₂ tk₂ hi4 ⟨tv, rfl⟩ ⟨m1, m2, m3, m4, us₁, sn₁, rfl, hi₁, F⟩ X₂ k₂
      have xP : ∀ {h' : Heap} {V : List Addr}, Kp h₀ V h₂ h' → P ∉ V → IsD prog w key2 h' P c := fun kp hv => ((x.chg X.chg.toKp hPW).chg k₂ hPL).chg kp hv
      have hP₂ := (xP (Kp.refl (W := [])) (fun q => nomatch q)).here
      obtain ⟨oP₂, hoP₂⟩ := hP₂
      refine wpAny_assign_Name (sN X₂ fun h₃ X₃ => ?_)
      refine wpAny_execs_cons (wpAny_If (isTrue_and (wpAny_isTrue_Compare1 ?_)))
      have xP₃ := xP X₃.chg.toKp hPL
      refine MethodCall_ (eN X₃ m1 (isD_meth PySem.F.slot_dict_get PySem.F.type_dict_get xP₃ ?_))
      refine callWith_method1 (args_cons (wpAny_Tuple (args_cons (eN X₃ m2 (args_cons (eN X₃ rfl (args_nil ⟨by size_fits, ?_⟩)))))))
      refine args_cons (wpAny_Constant_int (args_nil ?_))
      dsimp only
      have X₄ := X₃.push { cls := .type "tuple", data := .seq [Value.int one u, .int (i : Int) tv].toArray }
      have key : IsTupleKey (mix prog w) (h₃.push { cls := .type "tuple", data := .seq [Value.int one u, .int (i : Int) tv].toArray }) (key2 (one, (i : Int))) h₃.objs.size := key2_of (Heap.get?_push_size _ rfl) rfl rfl
      refine isD_get key2_inj R'.u1 (xP X₄.chg.toKp hPL) key fun te tke => ?_
      refine wpAny_Constant_int (PyProof.Rows.gt_int (wpAny_truthy_bool ?_))
      have X₄' : St prog w h₀ h₂ _ L _ [(D, AO.di t), (S, AO.lst us₁)] (h₃.push { cls := .type "tuple", data := .seq [Value.int one u, .int (i : Int) tv].toArray }) := X₄
      clear X₄ key xP₃ X₃
      generalize h₃.push { cls := .type "tuple", data := .seq [Value.int one u, .int (i : Int) tv].toArray } = h₄ at X₄' ⊢
      have X₄ := X₄'
      have nb1 : (¬ Edge c one i ∨ (i : Int) ∈ sn₁) → FrF c ((i + 1 : Nat) : Int) one t sn sn₁ := fun q => ⟨F.sub, F.ok, fun o h0 h1 he => by
        by_cases e : o = (i : Int)
        · subst e; exact q.elim (fun n => absurd he n) id
        · exact F.nb o h0 (by omega) he, F.cl⟩
      by_cases he : Edge c one i
      · rw [decide_eq_true (show 0 < kprLook c (one, (i : Int)) 0 from he), if_pos rfl]
        refine isTrue_and (wpAny_isTrue_Compare1 (eN X₄ rfl (eN X₄ m4 ?_)))
        refine ints_notIn (Heap.PlainList.isList (X₄.get (i := 1) rfl)) hi₁ (wpAny_truthy_bool ?_)
        by_cases hin : (i : Int) ∈ sn₁
        · rw [decide_eq_true hin]
          simp only [Bool.not_true, Bool.false_eq_true, if_false]
          refine wpAny_execs_nil (wpAny_execs_nil (Turn.next X₄ ⟨m1, m2, m3, m4, us₁, sn₁, rfl, hi₁, nb1 (.inr hin)⟩))
        · rw [decide_eq_false hin]
          simp only [Bool.not_false, if_true]
          refine isTrue_and_nil ?_
          simp only [if_true]
          have hl4 := four_len F.ok.nodup F.ok.four
          have hul := intsAre_len hi₁
          refine wpAny_execs_cons (append_stmt X₄ m4 (X₄.get (i := 1) rfl) (eN X₄ rfl ⟨us₁, X₄.get (i := 1) rfl, by omega, fun h₅ p₅ s₅ => ?_⟩))
          have X₅ := X₄.put (i := 1) (o' := .lst _) rfl s₅ p₅
          have ok₅ : SeenOk (sn₁ ++ [(i : Int)]) := by
            refine ⟨List.nodup_append.mpr ⟨F.ok.nodup, by simp, ?_⟩, ?_⟩
            · intro a ha b hb e
              rw [List.mem_singleton.mp hb] at e
              exact hin (e ▸ ha)
            · intro a ha
              rcases List.mem_append.mp ha with ha | ha
              · exact F.ok.four a ha
              · rw [List.mem_singleton.mp ha]; exact ⟨by omega, by omega⟩
          refine wpAny_execs_cons (wpAny_If (isTrue_or (wpAny_isTrue_Compare1 (eN X₅ rfl (eN X₅ m3 ?_)))))
          refine isDI_notIn (X₅.get (i := 0) rfl) fun tk₆ => wpAny_truthy_bool ?_
          cases ht : kprHas t (i : Int) with
          | false =>
            simp only [Bool.not_false, if_true]
            refine wpAny_execs_cons (wpAny_Assign_Subscript (eN X₅ m2 (eN X₅ m3 (eN X₅ rfl ?_))))
            refine isDI_set (X₅.get (i := 0) rfl) (by omega) fun h₆ tk₆ D₆ s₆ => ?_
            have X₆ := X₅.put (i := 0) (o' := .di _) rfl s₆ D₆
            refine wpAny_execs_cons (wpAny_Return_some (wpAny_Constant_bool ?_))
            have X₇ := X.from k₂ X₂ rfl X₆
            refine h h₆ _ true (kprPut t i one) _ _ X₇.chg (X₇.get (i := 0) rfl) (X₇.get (i := 1) rfl) (intsAre_append hi₁ (.cons _ _ .nil)) ?_
            rw [if_pos rfl]
            have hsn : ∀ o ∈ sn, ¬ o = (i : Int) := fun o ho e => hin (e ▸ F.sub o ho)
            refine ⟨?_, ?_, ?_, ?_⟩
            · rw [kpr_put_new ht, List.map_append]
              exact List.perm_append_comm
            · intro p hp
              rcases put_mem hp with rfl | hp
              · exact ⟨he, by constructor <;> dsimp only <;> omega⟩
              · exact hok p hp
            · intro o ho
              rw [kpr_has_put, decide_eq_false (hsn o ho), Bool.false_or]
            · intro o ho
              rw [kpr_look_put, if_neg (hsn o ho)]
          | true =>
            simp only [Bool.not_true, Bool.false_eq_true, if_false]
            refine isTrue_or (isTrue_plain ?_)
            refine wpAny_Call_NameR ?_
            refine eG T X₅.fr (gmem (i := 5) rfl) ?_
            refine callG T.fre ?_
            refine args_cons (eN X₅ m1 (args_cons ?_))
            refine sub_item "dict" _ slot_dict_getitem.lookup (eN X₅ m3 (eN X₅ rfl ⟨isDI_type (X₅.get (i := 0) rfl), ?_⟩))
            refine isDI_item (X₅.get (i := 0) rfl) ht fun tl tkl => ?_
            refine args_cons (eN X₅ m3 (args_cons (eN X₅ m4 (args_nil ⟨X₅.fr.keep, ?_⟩))))
            have hx : ((i : Int), kprLook t i 0) ∈ t := look_mem ht
            refine ih (sn := sn₁ ++ [(i : Int)]) (c := c) (t := t) (us := us₁ ++ [Value.int (i : Int) tv]) R' ?_ ?_ ?_ ?_ ?_ ?_ hD hS hDS hPD hPS hlen hok ok₅ ?_ ?_
            · exact X₅.fr.keep
            · exact X₅.big
            · exact xP X₅.chg.toKp hPL
            · exact X₅.get (i := 0) rfl
            · exact X₅.get (i := 1) rfl
            · exact intsAre_append hi₁ (.cons _ _ .nil)
            · have : sn.length ≤ sn₁.length := nodup_len sn sn₁ ok.nodup F.sub
              simp only [List.length_append, List.length_cons, List.length_nil]
              omega
            · intro h₆ tk₆ b t' us' sn' c₆ D₆ S₆ I₆ post
              have X₆ := X₅.call (O' := [(D, .di t'), (S, .lst us')]) c₆ (fun a q => q) rfl (fun p q => by
                refine .inr ?_
                rcases List.mem_cons.mp q with rfl | q
                · exact D₆
                · rw [List.mem_singleton.mp q]; exact S₆)
              refine wpAny_truthy_bool ?_
              cases b with
              | true =>
                rw [if_pos rfl] at post
                simp only [if_true]
                have hl5 : t'.length = t.length + 1 := by have := post.perm.length_eq; simpa using this
                refine wpAny_execs_cons (wpAny_Assign_Subscript (eN X₆ m2 (eN X₆ m3 (eN X₆ rfl ?_))))
                refine isDI_set (X₆.get (i := 0) rfl) (by omega) fun h₇ tk₇ D₇ s₇ => ?_
                have X₇ := X₆.put (i := 0) (o' := .di _) rfl s₇ D₇
                refine wpAny_execs_cons (wpAny_Return_some (wpAny_Constant_bool ?_))
                have X₈ := X.from k₂ X₂ rfl X₇
                refine h h₇ _ true (kprPut t' i one) _ _ X₈.chg (X₈.get (i := 0) rfl) (X₈.get (i := 1) rfl) I₆ ?_
                rw [if_pos rfl]
                have hsn : ∀ o ∈ sn, ¬ o = (i : Int) := fun o ho e => hin (e ▸ F.sub o ho)
                have hi5 : (i : Int) ∈ sn₁ ++ [(i : Int)] := List.mem_append_right _ (.head _)
                refine ⟨?_, ?_, ?_, ?_⟩
                · exact put_vals (by rw [post.has i hi5]; exact ht) (IsDI.nodup D₆) (post.look i hi5) post.perm
                · intro p hp
                  rcases put_mem hp with rfl | hp
                  · exact ⟨he, by constructor <;> dsimp only <;> omega⟩
                  · exact post.ok p hp
                · intro o ho
                  rw [kpr_has_put, decide_eq_false (hsn o ho), Bool.false_or, post.has o (List.mem_append_left _ (F.sub o ho))]
                · intro o ho
                  rw [kpr_look_put, if_neg (hsn o ho), post.look o (List.mem_append_left _ (F.sub o ho))]
              | false =>
                rw [if_neg Bool.false_ne_true] at post
                obtain ⟨rfl, G⟩ := post
                simp only [Bool.false_eq_true, if_false]
                refine isTrue_or_nil ?_
                simp only [Bool.false_eq_true, if_false]
                refine wpAny_execs_nil (wpAny_execs_nil (wpAny_execs_nil (Turn.next X₆ ⟨m1, m2, m3, m4, us', sn', rfl, I₆, ?_⟩)))
                have hi5 : (i : Int) ∈ sn' := G.sub i (List.mem_append_right _ (.head _))
                have hs5 : ∀ x ∈ sn₁, x ∈ sn' := fun x hx => G.sub x (List.mem_append_left _ hx)
                refine ⟨fun x hx => hs5 x (F.sub x hx), G.ok, fun o h0 h1 he' => ?_, fun o h1 h2 => ?_⟩
                · by_cases e : o = (i : Int)
                  · rw [e]; exact hi5
                  · exact hs5 o (F.nb o h0 (by omega) he')
                · by_cases e : o = (i : Int)
                  · exact ⟨kprLook t' i 0, e ▸ hx, fun o2 q he' => G.nb o2 q.1 q.2 he'⟩
                  · by_cases q : o ∈ sn₁
                    · obtain ⟨x, hx1, hx2⟩ := F.cl o q h2
                      exact ⟨x, hx1, fun o2 q2 he' => hs5 o2 (hx2 o2 q2 he')⟩
                    · exact G.cl o h1 fun z => by
                        rcases List.mem_append.mp z with z | z
                        · exact q z
                        · exact e (List.mem_singleton.mp z)
      · rw [decide_eq_false (show ¬ 0 < kprLook c (one, (i : Int)) 0 from he), if_neg Bool.false_ne_true]
        simp only [Bool.false_eq_true, if_false]
        refine wpAny_execs_nil (wpAny_execs_nil (Turn.next X₄ ⟨m1, m2, m3, m4, us₁, sn₁, rfl, hi₁, nb1 (.inl he)⟩))
    · rintro m₁ O₁ h₂ tk₂ ⟨m1, m2, m3, m4, us₁, sn₁, rfl, hi₁, F⟩ X₂ k₂
      refine wpAny_execs_cons (wpAny_Return_some (wpAny_Constant_bool ?_))
      refine h h₂ _ false t us₁ sn₁ X₂.chg (X₂.get (i := 0) rfl) (X₂.get (i := 1) rfl) hi₁ ?_
      rw [if_neg Bool.false_ne_true]
      exact ⟨rfl, F⟩
end
end Mine
end

section
open PySem PySem.W PySem.Calls PyProof.Rows
set_option maxRecDepth 100000
namespace Mine
theorem rlt_int {prog : Program} {w : World} {A : Around} {E : Value → Shared → Prop} {s : Shared} {a b : Int} {t u : Tok} {Q : Value → Shared → Prop} (h : Q (.bool (decide (a < b))) s) : wpAny (model prog w) A (richCompare .Lt (.int a t) (.int b u)) Q E s :=
  (PyProof.Rows.lt_int h : wpAny (model prog w) A (compareOp .Lt (.int a t) (.int b u)) Q E s)
open PySem.AutoSeq1 (wpAny_loadPart') in
theorem tuple_lt_meets (a b : Addr) (i j k l : Int) (t u t' u' : Tok) (n n2 : Nat) (dd dd2 : Option Addr) (sl sl2 : Array (Option Value)) :
    Meets (Builtin.«tuple.__lt__» ⟨[.ref a, .ref b], []⟩)
      (fun _ R s => s.heap.get? a = some { cls := .type "tuple", dict := dd, data := .seq #[.int i t, .int j u] n, slots := sl } ∧ s.heap.get? b = some { cls := .type "tuple", dict := dd2, data := .seq #[.int k t', .int l u'] n2, slots := sl2 } ∧
        R (.ok (.ret (.bool (if i = k then decide (j < l) else decide (i < k))))) s) :=
  .of_wp fun prog w A R s h => by
    obtain ⟨hp, g, d, tk, os⟩ := s; obtain ⟨hl, hb, h⟩ := h
    have f2 := AutoSeq1.sub_tuple_tuple
    wp_walk using wpAny_loadPart' hl, wpAny_loadPart' hb, wpAny_eqBool_int
    by_cases hik : i = k
    · subst hik
      rw [if_pos rfl] at h
      rw [beq_self_eq_true]
      wp_walk using wpAny_eqBool_int
      by_cases hjl : j = l
      · subst hjl
        rw [beq_self_eq_true]
        wp_walk
        exact ⟨_, rfl, by simpa [Builtin.Tuple.tupleCompareSizes] using h⟩
      · rw [beq_eq_false_iff_ne.mpr hjl]
        wp_walk using rlt_int
        exact ⟨_, rfl, h⟩
    · rw [if_neg hik] at h
      rw [beq_eq_false_iff_ne.mpr hik]
      wp_walk using rlt_int
      exact ⟨_, rfl, h⟩
/-! Pairs of ints. -/
def plt (p q : Int × Int) : Bool := if p.1 = q.1 then decide (p.2 < q.2) else decide (p.1 < q.1)
theorem plt_iff {p q : Int × Int} : plt p q = true ↔ p.1 < q.1 ∨ (p.1 = q.1 ∧ p.2 < q.2) := by
  unfold plt
  split
  · rename_i h; simp; omega
  · rename_i h; simp; omega
theorem plt_trans {p q r : Int × Int} (h : plt p q = true) (k : plt q r = true) : plt p r = true := by
  rw [plt_iff] at *; omega
theorem plt_irrefl {p : Int × Int} : plt p p = false := by
  cases h : plt p p with
  | false => rfl
  | true => rw [plt_iff] at h; omega
theorem plt_total {p q : Int × Int} (h : plt p q = false) (n : p ≠ q) : plt q p = true := by
  have h' : ¬ plt p q = true := by rw [h]; exact Bool.false_ne_true
  rw [plt_iff] at h' ⊢
  have : ¬ (p.1 = q.1 ∧ p.2 = q.2) := fun e => n (Prod.ext e.1 e.2)
  omega
section
variable {prog : Program} {w : World} {h₀ hb : Heap} {W : List Addr} {a d L : Addr} {m : Str → Option Value} {O : List (Addr × AO)} {A : Around} {E : Value → Shared → Prop} {s : Shared} {env : Env}
theorem Prs.len {h : Heap} {vs : List Value} {ps : List (Int × Int)} (x : Prs h vs ps) : vs.length = ps.length := by
  induction x with
  | nil => rfl
  | cons _ _ ih => simp [ih]
theorem Prs.append {h : Heap} {vs us : List Value} {ps qs : List (Int × Int)} (x : Prs h vs ps) (y : Prs h us qs) : Prs h (vs ++ us) (ps ++ qs) := by
  induction x with
  | nil => exact y
  | cons p _ ih => exact .cons p ih
theorem Prs.take {h : Heap} {vs : List Value} {ps : List (Int × Int)} (x : Prs h vs ps) : ∀ k, Prs h (vs.take k) (ps.take k) := by
  induction x with
  | nil => intro k; simp; exact .nil
  | cons p _ ih => intro k; cases k with
    | zero => exact .nil
    | succ k => exact .cons p (ih k)
theorem Prs.drop {h : Heap} {vs : List Value} {ps : List (Int × Int)} (x : Prs h vs ps) : ∀ k, Prs h (vs.drop k) (ps.drop k) := by
  induction x with
  | nil => intro k; simp; exact .nil
  | cons p y ih => intro k; cases k with
    | zero => exact .cons p y
    | succ k => exact ih k
theorem Prs.get {h : Heap} {vs : List Value} {ps : List (Int × Int)} (x : Prs h vs ps) : ∀ {i : Nat} {p : Int × Int}, ps[i]? = some p → ∃ v, vs[i]? = some v ∧ IsPr h v p := by
  induction x with
  | nil => intro i p e; simp at e
  | cons p y ih => intro i q e; cases i with
    | zero => simp at e; subst e; exact ⟨_, rfl, p⟩
    | succ i => exact ih (by simpa using e)
/-- a pair less than another -/
theorem lt_pair {v v' : Value} {p q : Int × Int} {Q : Value → Shared → Prop} (hu : A.units < cLine) (x : IsPr s.heap v p) (y : IsPr s.heap v' q) (h : Q (.bool (plt p q)) s) : wpAny (model prog w) A (compareOp .Lt v v') Q E s := by
  obtain ⟨a, t, u, rfl, ⟨oc, od, oda, os⟩, ho, hc, n, hd⟩ := x
  obtain ⟨b, t', u', rfl, ⟨pc, pd, pda, ps⟩, ho', hc', n', hd'⟩ := y
  cases hc; cases hd; cases hc'; cases hd'
  refine cmp_ofLt (wpAny_richCompare_same_room (op := .Lt) (T := "tuple") ⟨_, ho, rfl⟩ ⟨_, ho', rfl⟩ PySem.F.slot_tuple_lt ?_ hu)
  exact call_meets PySem.F.slot_tuple_lt ⟨_, ho, rfl⟩ PySem.F.entry_tuple_lt (PySem.F.args_tuple_lt_2 _ _) (tuple_lt_meets _ _ _ _ _ _ _ _ _ _ _ _ _ _ _ _) ⟨ho, ho', by simp, h⟩
theorem lst_insert {i : Int} {u : Tok} {k : Nat} {y : Value} {vs : List Value} {Q : Value → Shared → Prop} (x : s.heap.PlainList d vs.toArray) (hz : vs.length ≤ 1000) (hk : i = (k : Int)) (hi : k ≤ vs.length)
    (h : ∀ h', h'.PlainList d (vs.take k ++ y :: vs.drop k).toArray → Heap.SameBut d s.heap h' → Q .none { s with heap := h' }) : wpAny (model prog w) A (call (.builtin "list.insert") [.ref d, .int i u, y]) Q E s := by
  obtain ⟨n, ho⟩ := x
  have hc0 : ¬(!Builtin.List.listFitsIndex i) = true := by unfold Builtin.List.listFitsIndex; simp; omega
  refine call_meets PySem.F.slot_list_insert ⟨_, ho, rfl⟩ PySem.F.entry_list_insert (PySem.F.args_list_insert_3 _ _ _) (AutoSeq1.list_insert_list_int_val_1 d vs.toArray n i u y hc0 (by rw [List.size_toArray, sizeLine_eq]; omega)) ⟨ho, ?_⟩
  refine h _ ?_ (Heap.SameBut.update ..)
  have e := IsL.update (show IsL s.heap d vs.toArray n from ho) (fun xs : Array Value => have k' := if i < 0 then (i + (xs.size : Int)).toNat else min i.toNat xs.size; (xs.extract 0 k').push y ++ xs.extract k')
  have e2 : (have k' := if i < 0 then (i + (vs.toArray.size : Int)).toNat else min i.toNat vs.toArray.size; (vs.toArray.extract 0 k').push y ++ vs.toArray.extract k') = (vs.take k ++ y :: vs.drop k).toArray := by
    have hm : min i.toNat vs.length = k := by omega
    have hn : ¬ i < 0 := by omega
    dsimp only
    rw [if_neg hn, List.size_toArray, hm]
    apply Array.toList_inj.mp
    have e3 : List.take (vs.length - k) (List.drop k vs) = List.drop k vs := List.take_of_length_le (by rw [List.length_drop]; exact Nat.le_refl _)
    simp [e3]
  dsimp only at e2
  dsimp only at e
  rw [e2] at e
  exact ⟨_, e⟩
/-- a while statement -/
theorem while_stmt {test : PySem.Expr} {body : List PySem.Stmt} {pos : Pos} {Q : Flow → Shared → Prop} (I : Nat → Shared → Prop)
    (turn : ∀ n s, I n s → wpAny (model prog w) A (isTrue test env (eval test env)) (fun b s₂ =>
      if b then wpAny (model prog w) A (execs body env) (fun f s₃ => match f with
          | .next | .cont => ∃ m, m < n ∧ I m s₃
          | .brk => Q .next s₃
          | .ret v => Q (.ret v) s₃) (fun _ _ => False) s₂
      else Q .next s₂) (fun _ _ => False) s)
    (n : Nat) (h : I n s) : wpAny (model prog w) A (exec (.While test body [] pos) env) Q (fun _ _ => False) s := by
  refine wpAny_While (codeAny_whileLoop I (fun n s hI => wpAny_mono (turn n s hI) (fun b s₂ g => ?_) fun _ _ e => e.elim) n h)
  cases b with
  | true =>
    simp only [if_true] at g ⊢
    exact wpAny_mono g (fun f s₃ g => by cases f <;> exact g) fun _ _ e => e.elim
  | false =>
    simp only [Bool.false_eq_true, if_false] at g ⊢
    exact wpAny_execs_nil g
end
end Mine
end

section
open PySem PySem.W PySem.Calls PyProof.Rows
set_option maxRecDepth 100000
set_option maxHeartbeats 4000000
namespace Mine
theorem bind_ins {P : Params} {s : Shared} {pm cd a x : Value} (X : (dfl P).In s.heap) : BindsTo s (fdOf 4 (.ref 29) (.ref 30) pm cd) ⟨[a, x], []⟩ [("a", a), ("x", x), ("lo", .int 0 211), ("hi", .none), ("key", .none)] :=
  kp_binds X (by intro S; rfl)
theorem bind_bis {P : Params} {s : Shared} {pm cd a x l h : Value} (X : (dfl P).In s.heap) : BindsTo s (fdOf 5 (.ref 38) (.ref 39) pm cd) ⟨[a, x, l, h], []⟩ [("a", a), ("x", x), ("lo", l), ("hi", h), ("key", .none)] :=
  kp_binds X (by intro S; rfl)
section
variable {prog : Program} {w : World} {h₀ hb : Heap} {W : List Addr} {a d L : Addr} {m : Str → Option Value} {O : List (Addr × AO)} {A : Around} {E : Value → Shared → Prop} {s : Shared} {env : Env}

theorem bisect_spec {E : Value → Shared → Prop} {us : List Value} {ps : List (Int × Int)} {x : Value} {q : Int × Int} {t : Tok} {Q : Value → Shared → Prop} (T : Tp h₀) (R : Rm A 2 20) (hkeep : ∀ b o, h₀.get? b = some o → s.heap.get? b = some o) (hbig : h₀.objs.size ≤ s.heap.objs.size)
    (hl : s.heap.IsList d us.toArray) (hp : Prs s.heap us ps) (hx : IsPr s.heap x q) (hs : ps.Pairwise (fun a b => plt a b = true)) (hz : ps.length ≤ 900)
    (h : ∀ h' tk t (k : Nat), Chg h₀ [] s.heap h' → k ≤ ps.length → (∀ (i : Nat) p, i < k → ps[i]? = some p → plt p q = true) → (∀ (i : Nat) p, k ≤ i → ps[i]? = some p → plt p q = false) → Q (.int (k : Int) t) { s with heap := h', toks := tk }) :
    wpAny (model prog w) A (call (.ref 46) [.ref d, x, .int 0 t, .none]) Q E s := by
  obtain ⟨P, hP⟩ := T.dflt
  refine call_def (O := []) (W := []) (binds := [("a", .ref d), ("x", x), ("lo", .int 0 t), ("hi", .none), ("key", .none)]) T T.bis hkeep hbig (by have := R.dp; omega) (fun _ q => nomatch q) List.nodup_nil (fun _ q => nomatch q) (fun pm cd => bind_bis (hP.keeps hkeep)) (locs rfl) ?_
  intro L cd h₁ tk X
  have R' : Rm (A.deeper (envOf (sName (defAt 5)) (sScope (defAt 5)) L 46 cd)) 1 17 := R.deeper
  refine wpAny_execs_cons (wpAny_If (wpAny_isTrue_Compare1 (eN X rfl (wpAny_Constant_int ?_))))
  refine PyProof.Rows.lt_int (wpAny_truthy_bool ?_)
  rw [decide_eq_false (by decide), if_neg Bool.false_ne_true]
  refine wpAny_execs_nil ?_
  refine wpAny_execs_cons (wpAny_If (wpAny_isTrue_Compare1 (eN X rfl (wpAny_Constant_none ?_))))
  refine is_none (wpAny_truthy_bool ?_)
  rw [if_pos (show (Value.none == Value.none) = true from rfl)]
  refine wpAny_execs_cons (wpAny_Assign_Name ?_)
  refine wpAny_Call_NameR ?_
  refine eG T X.fr (gmem (i := 10) rfl) ?_
  refine PyProof.Rows.callWith_builtin1 (args_cons (eN X rfl (args_nil ?_)))
  have hul := hp.len
  have c0 : ∀ {h' : Heap}, Chg h₀ [] s.heap h' → h'.IsList d us.toArray ∧ Prs h' us ps ∧ IsPr h' x q := fun c => ⟨isList_chg hl c.toKp (fun q => nomatch q), hp.kp c.toKp, hx.kp c.toKp⟩
  refine call_len_list (c0 X.chg).1 (by rw [List.size_toArray]; omega) ?_
  refine sN X fun h₂ X₂ => wpAny_execs_nil ?_
  dsimp only
  refine wpAny_execs_cons (wpAny_If (wpAny_isTrue_Compare1 (eN X₂ rfl (wpAny_Constant_none ?_))))
  refine is_none (wpAny_truthy_bool ?_)
  rw [if_pos (show (Value.none == Value.none) = true from rfl)]
  refine wpAny_execs_cons (while_stmt (fun n s' => ∃ h' tk m' lo hi t1 t2, s' = { s with heap := h', toks := tk } ∧ St prog w h₀ s.heap [] L m' [] h' ∧ m' "a" = some (.ref d) ∧ m' "x" = some x ∧ m' "lo" = some (.int ((lo : Nat) : Int) t1) ∧ m' "hi" = some (.int ((hi : Nat) : Int) t2) ∧
      lo ≤ hi ∧ hi ≤ ps.length ∧ n = hi - lo ∧ (∀ (i : Nat) p, i < lo → ps[i]? = some p → plt p q = true) ∧ (∀ (i : Nat) p, hi ≤ i → ps[i]? = some p → plt p q = false)) ?_ (ps.length - 0)
    ⟨h₂, _, _, 0, ps.length, _, _, rfl, X₂, rfl, rfl, rfl, by rw [List.size_toArray, hul]; rfl, Nat.zero_le _, Nat.le_refl _, rfl, fun i p h _ => absurd h (Nat.not_lt_zero _), fun i p h e => by rw [List.getElem?_eq_none h] at e; cases e⟩)
  rintro n s' ⟨h', tk', m', lo, hi, t1, t2, rfl, X', ma, mx, mlo, mhi, hlh, hhi, rfl, hlt, hge⟩
  refine wpAny_isTrue_Compare1 (eN X' mlo (eN X' mhi (PyProof.Rows.lt_int (wpAny_truthy_bool ?_))))
  by_cases hb : (lo : Int) < hi
  · rw [decide_eq_true hb, if_pos rfl]
    refine wpAny_execs_cons (wpAny_Assign_Name (wpAny_BinOp (wpAny_BinOp (eN X' mlo (eN X' mhi (add_int (wpAny_Constant_int ?_)))))))
    refine floordiv_int (by decide) ?_
    refine sN X' fun h₃ X₃ => ?_
    dsimp only
    have hmid : ((lo : Int) + hi).fdiv 2 = ((lo + hi) / 2 : Nat) := by
      rw [Int.fdiv_eq_ediv_of_nonneg _ (by decide)]; omega
    rw [hmid] at X₃
    obtain ⟨mid, hm⟩ : ∃ mid, (lo + hi) / 2 = mid := ⟨_, rfl⟩
    rw [hm] at X₃
    have hm1 : lo ≤ mid := by omega
    have hm2 : mid < hi := by omega
    obtain ⟨p, hpm⟩ : ∃ p, ps[mid]? = some p := ⟨ps[mid]'(by omega), by simp⟩
    obtain ⟨v, hv, hvp⟩ := (c0 X₃.chg).2.1.get hpm
    refine wpAny_execs_cons (wpAny_If (wpAny_isTrue_Compare1 (sub_item "list" _ PySem.F.slot_list_getitem.lookup (eN X₃ ma (eN X₃ rfl ⟨(c0 X₃.chg).1.typeIs, ?_⟩)))))
    refine wpAny_getItem_list (c0 X₃.chg).1 (by omega) (by omega) (by simpa using hv) (eN X₃ mx ?_)
    refine lt_pair (by have := R'.un; omega) hvp (c0 X₃.chg).2.2 (wpAny_truthy_bool ?_)
    cases hpq : plt p q with
    | true =>
      rw [if_pos rfl]
      refine wpAny_execs_cons (wpAny_Assign_Name (wpAny_BinOp (eN X₃ rfl (wpAny_Constant_int (add_int ?_)))))
      refine sN X₃ fun h₄ X₄ => wpAny_execs_nil (wpAny_execs_nil ?_)
      refine ⟨hi - (mid + 1), by omega, h₄, _, _, mid + 1, hi, _, t2, rfl, X₄, ma, mx, rfl, mhi, by omega, hhi, rfl, ?_, hge⟩
      intro i p' hi' e
      by_cases q1 : i = mid
      · subst q1; rw [hpm] at e; cases e; exact hpq
      · have e1 : i < mid := by omega
        have hlen := (List.getElem?_eq_some_iff.mp e).1
        have := List.pairwise_iff_getElem.mp hs i mid hlen (by omega) e1
        rw [List.getElem?_eq_getElem hlen] at e
        rw [List.getElem?_eq_getElem (by omega)] at hpm
        rw [Option.some.inj e, Option.some.inj hpm] at this
        exact plt_trans this hpq
    | false =>
      rw [if_neg Bool.false_ne_true]
      refine wpAny_execs_cons (wpAny_Assign_Name (eN X₃ rfl ?_))
      refine sN X₃ fun h₄ X₄ => wpAny_execs_nil (wpAny_execs_nil ?_)
      refine ⟨mid - lo, by omega, h₄, _, _, lo, mid, t1, _, rfl, X₄, ma, mx, mlo, rfl, hm1, by omega, rfl, hlt, ?_⟩
      intro i p' hi' e
      by_cases q1 : i = mid
      · subst q1; rw [hpm] at e; cases e; exact hpq
      · have e1 : mid < i := by omega
        have hlen := (List.getElem?_eq_some_iff.mp e).1
        have := List.pairwise_iff_getElem.mp hs mid i (by omega) hlen e1
        rw [List.getElem?_eq_getElem hlen] at e
        rw [List.getElem?_eq_getElem (by omega)] at hpm
        rw [Option.some.inj e, Option.some.inj hpm] at this
        cases z : plt p' q with
        | false => rfl
        | true => rw [plt_trans this z] at hpq; cases hpq
  · rw [decide_eq_false hb, if_neg Bool.false_ne_true]
    refine wpAny_execs_nil (wpAny_execs_cons (wpAny_Return_some (eN X' mlo ?_)))
    have : lo = hi := by omega
    subst this
    exact h h' _ _ lo X'.chg hhi hlt hge

/-- sorted without twins, and put in its place -/
theorem sorted_put {ps : List (Int × Int)} {q : Int × Int} {k : Nat} (hs : ps.Pairwise (fun a b => plt a b = true)) (hq : q ∉ ps) (hk : k ≤ ps.length)
    (h1 : ∀ (i : Nat) p, i < k → ps[i]? = some p → plt p q = true) (h2 : ∀ (i : Nat) p, k ≤ i → ps[i]? = some p → plt p q = false) :
    (ps.take k ++ q :: ps.drop k).Pairwise (fun a b => plt a b = true) ∧ (ps.take k ++ q :: ps.drop k).Perm (q :: ps) := by
  have ht : ∀ p ∈ ps.take k, plt p q = true := fun p hp => by
    obtain ⟨i, hi, e⟩ := List.mem_iff_getElem.mp hp
    rw [List.length_take] at hi
    rw [List.getElem_take] at e
    exact h1 i p (by omega) (by rw [List.getElem?_eq_getElem (by omega), e])
  have hd : ∀ p ∈ ps.drop k, plt q p = true := fun p hp => by
    obtain ⟨i, hi, e⟩ := List.mem_iff_getElem.mp hp
    rw [List.length_drop] at hi
    rw [List.getElem_drop] at e
    refine plt_total (h2 (k + i) p (by omega) (by rw [List.getElem?_eq_getElem (by omega), e])) fun z => hq ?_
    rw [← z, ← e]; exact List.getElem_mem _
  refine ⟨List.pairwise_append.mpr ⟨hs.sublist (List.take_sublist ..), List.pairwise_cons.mpr ⟨hd, hs.sublist (List.drop_sublist ..)⟩, ?_⟩, ?_⟩
  · intro a ha b hb
    rcases List.mem_cons.mp hb with rfl | hb
    · exact ht a ha
    · exact plt_trans (ht a ha) (hd b hb)
  · refine List.perm_middle.trans ?_
    rw [List.take_append_drop]
theorem insort_spec {E : Value → Shared → Prop} {us : List Value} {ps : List (Int × Int)} {x : Value} {q : Int × Int} {Q : Value → Shared → Prop} (T : Tp h₀) (R : Rm A 3 30) (hkeep : ∀ b o, h₀.get? b = some o → s.heap.get? b = some o) (hbig : h₀.objs.size ≤ s.heap.objs.size)
    (hl : s.heap.PlainList d us.toArray) (hd : h₀.objs.size ≤ d) (hp : Prs s.heap us ps) (hx : IsPr s.heap x q) (hs : ps.Pairwise (fun a b => plt a b = true)) (hq : q ∉ ps) (hz : ps.length ≤ 900)
    (h : ∀ h' tk us' ps', Chg h₀ [d] s.heap h' → h'.PlainList d us'.toArray → Prs h' us' ps' → ps'.Perm (q :: ps) → ps'.Pairwise (fun a b => plt a b = true) → Q .none { s with heap := h', toks := tk }) :
    wpAny (model prog w) A (call (.ref 37) [.ref d, x]) Q E s := by
  obtain ⟨P, hP⟩ := T.dflt
  refine call_def (O := [(d, .lst us)]) (W := [d]) (binds := [("a", .ref d), ("x", x), ("lo", .int 0 211), ("hi", .none), ("key", .none)]) T T.ins hkeep hbig (by have := R.dp; omega) (fun p q => by rw [List.mem_singleton.mp q]; exact ⟨hl, hd⟩) (by simp) (fun p q => by rw [List.mem_singleton.mp q]; exact .head _) (fun pm cd => bind_ins (hP.keeps hkeep)) (locs rfl) ?_
  intro L cd h₁ tk X
  have R' : Rm (A.deeper (envOf (sName (defAt 4)) (sScope (defAt 4)) L 37 cd)) 2 20 := Rm.deeper (R.le (by omega) (by omega))
  refine wpAny_execs_cons (wpAny_If (wpAny_isTrue_Compare1 (eN X rfl (wpAny_Constant_none ?_))))
  refine is_none (wpAny_truthy_bool ?_)
  rw [if_pos (show (Value.none == Value.none) = true from rfl)]
  refine wpAny_execs_cons (wpAny_Assign_Name ?_)
  refine wpAny_Call_NameR ?_
  refine eG T X.fr (gmem (i := 3) rfl) ?_
  refine callG T.bis (args_cons (eN X rfl (args_cons (eN X rfl (args_cons (eN X rfl (args_cons (eN X rfl (args_nil ⟨X.fr.keep, ?_⟩)))))))))
  refine bisect_spec (ps := ps) (us := us) T R' X.fr.keep X.big (Heap.PlainList.isList (X.get (i := 0) rfl)) (hp.kp X.chg.toKp) (hx.kp X.chg.toKp) hs hz fun h₂ tk₂ t₂ k c₂ hk k1 k2 => ?_
  have X₂ := X.call0 c₂
  refine sN X₂ fun h₃ X₃ => wpAny_execs_nil ?_
  dsimp only
  have hul := hp.len
  refine wpAny_execs_cons (wpAny_Expr (MethodCall_ (eN X₃ rfl (lst_meth PySem.F.slot_list_insert PySem.F.type_list_insert (X₃.get (i := 0) rfl) ?_))))
  refine callWith_method1 (args_cons (eN X₃ rfl (args_cons (eN X₃ rfl (args_nil ?_)))))
  refine lst_insert (k := k) (X₃.get (i := 0) rfl) (by omega) rfl (by omega) fun h₄ p₄ s₄ => ?_
  have X₄ := X₃.put (i := 0) (o' := .lst _) rfl s₄ p₄
  refine wpAny_execs_nil ?_
  obtain ⟨z1, z2⟩ := sorted_put hs hq hk k1 k2
  exact h h₄ _ _ _ X₄.chg (X₄.get (i := 0) rfl) (((hp.kp X₄.chg.toKp).take k).append (.cons (hx.kp X₄.chg.toKp) ((hp.kp X₄.chg.toKp).drop k))) z2 z1
end
end Mine
end

section
open PySem PySem.W PySem.Calls PyProof.Rows
set_option maxRecDepth 100000
namespace Mine
section
variable {prog : Program} {w : World} {h₀ hb : Heap} {W : List Addr} {a d L : Addr} {m : Str → Option Value} {O : List (Addr × AO)} {A : Around} {E : Value → Shared → Prop} {s : Shared} {env : Env}

/-! Comprehensions: what follows once the target is bound. -/
def EmitA (prog : Program) (w : World) (A : Around) (elt : PySem.Expr) (env : Env) (acc : Value) (K : Shared → Prop) (s : Shared) : Prop :=
  wpAny (model prog w) A (eval elt env) (fun x s₁ => wpAny (model prog w) A (call (.builtin "list.append") [acc, x]) (fun _ s₂ => K s₂) (fun _ _ => False) s₁) (fun _ _ => False) s
def EmitT (prog : Program) (w : World) (A : Around) (c elt : PySem.Expr) (env : Env) (acc : Value) (K : Shared → Prop) (s : Shared) : Prop :=
  wpAny (model prog w) A (isTrue c env (eval c env)) (fun ok s₁ => if ok = true then EmitA prog w A elt env acc K s₁ else K s₁) (fun _ _ => False) s
def EmitN (prog : Program) (w : World) (A : Around) (e iter : PySem.Expr) (env : Env) (acc : Value) (K : Shared → Prop) (s : Shared) : Prop :=
  wpAny (model prog w) A (eval iter env) (fun x s₁ => wpAny (model prog w) A (pyIter x) (fun it s₂ => codeAny (model prog w) A (.compStart e 1 it acc env) (fun r s' => match r with | .ok _ => K s' | .error _ => False) s₂) (fun _ _ => False) s₁) (fun _ _ => False) s
theorem EmitA.mono {elt : PySem.Expr} {acc : Value} {K K' : Shared → Prop} (hk : ∀ s, K s → K' s) (h : EmitA prog w A elt env acc K s) : EmitA prog w A elt env acc K' s :=
  wpAny_mono h (fun _ _ h₁ => wpAny_mono h₁ (fun _ _ h₂ => hk _ h₂) fun _ _ e => e) fun _ _ e => e
theorem EmitT.mono {c elt : PySem.Expr} {acc : Value} {K K' : Shared → Prop} (hk : ∀ s, K s → K' s) (h : EmitT prog w A c elt env acc K s) : EmitT prog w A c elt env acc K' s :=
  wpAny_mono h (fun ok _ h₁ => by cases ok with
    | true => exact EmitA.mono hk h₁
    | false => exact hk _ h₁) fun _ _ e => e
theorem EmitN.mono {e iter : PySem.Expr} {acc : Value} {K K' : Shared → Prop} (hk : ∀ s, K s → K' s) (h : EmitN prog w A e iter env acc K s) : EmitN prog w A e iter env acc K' s :=
  wpAny_mono h (fun _ _ h₁ => wpAny_mono h₁ (fun _ _ h₂ => codeAny_mono h₂ fun r s' g => by cases r with
    | ok f => exact hk _ g
    | error e => exact g) fun _ _ e => e) fun _ _ e => e

/-- the rule of a comprehension's loop -/
def CompRule (prog : Program) (w : World) (A : Around) (target : PySem.Expr) (it : Value) (c : Code) (env : Env) (Emit : (Shared → Prop) → Shared → Prop) : Prop :=
  ∀ (R : Result → Shared → Prop) (Inv : Nat → Shared → Prop), (∀ n s, Inv n s → wpAny (model prog w) A (pyNext it) (fun r s₁ => match r with
      | none => R (.ok .next) s₁
      | some v => wpAny (model prog w) A (letOwnedTupleGo target it v) (fun _ s₂ => wpAny (model prog w) A (assign target env v) (fun _ s₃ => Emit (fun s₄ => ∃ m, m < n ∧ Inv m s₄) s₃) (fun _ _ => False) s₂) (fun _ _ => False) s₁) (fun _ _ => False) s) →
    ∀ n s, Inv n s → codeAny (model prog w) A c R s

theorem compTurn_a (elt target iter : PySem.Expr) (scope : Scope) (pos : Pos) (it acc : Value) (env : Env) :
    compTurn (.ListComp elt [⟨target, iter, [], 0⟩] scope pos) 0 it acc env = (standAt iter.pos >>= fun _ => pyNext it >>= fun r => match r with
      | none => pure (.done .next)
      | some v => letOwnedTupleGo target it v >>= fun _ => assign target env v >>= fun _ =>
        (eval elt env >>= fun x => call (.builtin "list.append") [acc, x] >>= fun _ => pure ()) >>= fun _ =>
          again (.compLoop (.ListComp elt [⟨target, iter, [], 0⟩] scope pos) 0 it acc env)) := by rfl
theorem compTurn_n (elt target iter target₂ iter₂ : PySem.Expr) (scope : Scope) (pos : Pos) (it acc : Value) (env : Env) :
    compTurn (.ListComp elt [⟨target, iter, [], 0⟩, ⟨target₂, iter₂, [], 0⟩] scope pos) 0 it acc env = (standAt iter.pos >>= fun _ => pyNext it >>= fun r => match r with
      | none => pure (.done .next)
      | some v => letOwnedTupleGo target it v >>= fun _ => assign target env v >>= fun _ =>
        eval iter₂ env >>= fun x => standAt iter₂.pos >>= fun _ => foldedSetIterable iter₂ env x >>= fun x => holding [x] (pyIter x) >>= fun it₂ =>
          runOwn (.compStart (.ListComp elt [⟨target, iter, [], 0⟩, ⟨target₂, iter₂, [], 0⟩] scope pos) 1 it₂ acc env) env >>= fun _ =>
          again (.compLoop (.ListComp elt [⟨target, iter, [], 0⟩, ⟨target₂, iter₂, [], 0⟩] scope pos) 0 it acc env)) := by rfl
theorem compTurn_i (elt target iter target₂ iter₂ : PySem.Expr) (scope : Scope) (pos : Pos) (it acc : Value) (env : Env) :
    compTurn (.ListComp elt [⟨target, iter, [], 0⟩, ⟨target₂, iter₂, [], 0⟩] scope pos) 1 it acc env = (standAt iter₂.pos >>= fun _ => pyNext it >>= fun r => match r with
      | none => pure (.done .next)
      | some v => letOwnedTupleGo target₂ it v >>= fun _ => assign target₂ env v >>= fun _ =>
        (eval elt env >>= fun x => call (.builtin "list.append") [acc, x] >>= fun _ => pure ()) >>= fun _ =>
          again (.compLoop (.ListComp elt [⟨target, iter, [], 0⟩, ⟨target₂, iter₂, [], 0⟩] scope pos) 1 it acc env)) := by rfl

theorem noted_False {P : Value → Shared → Prop} {α : Type} {m : Sem α} {Q : α → Shared → Prop} (h : wpAny (model prog w) A m Q (fun _ _ => False) s) : wpAny (model prog w) A m Q P s := wpAny_mono h (fun _ _ h => h) fun _ _ e => e.elim
theorem rule_a {elt target iter : PySem.Expr} {scope : Scope} {pos : Pos} {it acc : Value} : CompRule prog w A target it (.compLoop (.ListComp elt [⟨target, iter, [], 0⟩] scope pos) 0 it acc env) env (EmitA prog w A elt env acc) := by
  intro R Inv turn n s hI
  refine codeAny_loop rfl Inv (fun n s hI => ?_) n hI
  show wpAny _ A ((compTurn (.ListComp elt [⟨target, iter, [], 0⟩] scope pos) 0 it acc env).onRaise (fun x => do noteFrame x env; theTreesLotGoes x)) _ _ s
  refine wpAny_noted ?_
  rw [compTurn_a]
  refine wpAny_bind (wpAny_standAt (wpAny_bind (wpAny_mono (turn n s hI) (fun r s₁ h₁ => ?_) fun _ _ e => e.elim)))
  cases r with
  | none => exact wpAny_pure h₁
  | some v =>
    refine wpAny_bind (wpAny_mono h₁ (fun _ s₂ h₂ => wpAny_bind (wpAny_mono h₂ (fun _ s₃ h₃ => ?_) fun _ _ e => e.elim)) fun _ _ e => e.elim)
    exact wpAny_bind (wpAny_bind (wpAny_mono h₃ (fun x s₄ h₄ => wpAny_bind (wpAny_mono h₄ (fun _ s₅ h₅ => wpAny_pure (wpAny_pure ⟨rfl, h₅⟩)) fun _ _ e => e.elim)) fun _ _ e => e.elim))
theorem rule_i {elt target iter target₂ iter₂ : PySem.Expr} {scope : Scope} {pos : Pos} {it acc : Value} : CompRule prog w A target₂ it (.compLoop (.ListComp elt [⟨target, iter, [], 0⟩, ⟨target₂, iter₂, [], 0⟩] scope pos) 1 it acc env) env (EmitA prog w A elt env acc) := by
  intro R Inv turn n s hI
  refine codeAny_loop rfl Inv (fun n s hI => ?_) n hI
  show wpAny _ A ((compTurn (.ListComp elt [⟨target, iter, [], 0⟩, ⟨target₂, iter₂, [], 0⟩] scope pos) 1 it acc env).onRaise (fun x => do noteFrame x env; theTreesLotGoes x)) _ _ s
  refine wpAny_noted ?_
  rw [compTurn_i]
  refine wpAny_bind (wpAny_standAt (wpAny_bind (wpAny_mono (turn n s hI) (fun r s₁ h₁ => ?_) fun _ _ e => e.elim)))
  cases r with
  | none => exact wpAny_pure h₁
  | some v =>
    refine wpAny_bind (wpAny_mono h₁ (fun _ s₂ h₂ => wpAny_bind (wpAny_mono h₂ (fun _ s₃ h₃ => ?_) fun _ _ e => e.elim)) fun _ _ e => e.elim)
    exact wpAny_bind (wpAny_bind (wpAny_mono h₃ (fun x s₄ h₄ => wpAny_bind (wpAny_mono h₄ (fun _ s₅ h₅ => wpAny_pure (wpAny_pure ⟨rfl, h₅⟩)) fun _ _ e => e.elim)) fun _ _ e => e.elim))
theorem rule_t {elt target iter c : PySem.Expr} {scope : Scope} {pos : Pos} {it acc : Value} : CompRule prog w A target it (.compLoop (.ListComp elt [⟨target, iter, [c], 0⟩] scope pos) 0 it acc env) env (EmitT prog w A c elt env acc) := by
  intro R Inv turn n s hI
  refine codeAny_loop rfl Inv (fun n s hI => ?_) n hI
  show wpAny _ A ((compTurn (.ListComp elt [⟨target, iter, [c], 0⟩] scope pos) 0 it acc env).onRaise (fun x => do noteFrame x env; theTreesLotGoes x)) _ _ s
  refine wpAny_noted ?_
  rw [compTurn_list]
  refine wpAny_bind (wpAny_standAt (wpAny_bind (wpAny_mono (turn n s hI) (fun r s₁ h₁ => ?_) fun _ _ e => e.elim)))
  cases r with
  | none => exact wpAny_pure h₁
  | some v =>
    refine wpAny_bind (wpAny_mono h₁ (fun _ s₂ h₂ => wpAny_bind (wpAny_mono h₂ (fun _ s₃ h₃ => ?_) fun _ _ e => e.elim)) fun _ _ e => e.elim)
    refine wpAny_bind (wpAny_tests_one (wpAny_mono h₃ (fun ok s₄ h₄ => ?_) fun _ _ e => e.elim))
    cases ok with
    | false => exact wpAny_pure ⟨rfl, h₄⟩
    | true => exact wpAny_bind (wpAny_bind (wpAny_mono h₄ (fun x s₄ h₄ => wpAny_bind (wpAny_mono h₄ (fun _ s₅ h₅ => wpAny_pure (wpAny_pure ⟨rfl, h₅⟩)) fun _ _ e => e.elim)) fun _ _ e => e.elim))
theorem rule_n {elt target iter target₂ iter₂ : PySem.Expr} {scope : Scope} {pos : Pos} {it acc : Value} (hs : ∀ x, foldedSetIterable iter₂ env x = pure x := by intro _; rfl) :
    CompRule prog w A target it (.compLoop (.ListComp elt [⟨target, iter, [], 0⟩, ⟨target₂, iter₂, [], 0⟩] scope pos) 0 it acc env) env (EmitN prog w A (.ListComp elt [⟨target, iter, [], 0⟩, ⟨target₂, iter₂, [], 0⟩] scope pos) iter₂ env acc) := by
  intro R Inv turn n s hI
  refine codeAny_loop rfl Inv (fun n s hI => ?_) n hI
  show wpAny _ A ((compTurn (.ListComp elt [⟨target, iter, [], 0⟩, ⟨target₂, iter₂, [], 0⟩] scope pos) 0 it acc env).onRaise (fun x => do noteFrame x env; theTreesLotGoes x)) _ _ s
  refine wpAny_noted ?_
  rw [compTurn_n]
  refine wpAny_bind (wpAny_standAt (wpAny_bind (wpAny_mono (turn n s hI) (fun r s₁ h₁ => ?_) fun _ _ e => e.elim)))
  cases r with
  | none => exact wpAny_pure h₁
  | some v =>
    refine wpAny_bind (wpAny_mono h₁ (fun _ s₂ h₂ => wpAny_bind (wpAny_mono h₂ (fun _ s₃ h₃ => ?_) fun _ _ e => e.elim)) fun _ _ e => e.elim)
    refine wpAny_bind (wpAny_mono h₃ (fun x s₄ h₄ => wpAny_bind (wpAny_standAt (wpAny_bind (wpAny_of_eq (hs x) (wpAny_bind (wpAny_holding (wpAny_mono h₄ (fun it₂ s₅ h₅ => ?_) fun _ _ e => e.elim))))))) fun _ _ e => e.elim)
    refine wpAny_bind (wpAny_runOwn (h := none) (codeAny_mono h₅ fun r s' g => ?_))
    cases r with
    | ok f => exact wpAny_pure ⟨rfl, g⟩
    | error e => exact g.elim
/-- at a comprehension's clause: its iterator is asked for itself once more -/
theorem start_d {elt : PySem.Expr} {gens : List Comprehension} {scope : Scope} {pos : Pos} {dp : Nat} {g : Comprehension} {it acc : Value} {R : Result → Shared → Prop} (hg : gens[dp]? = some g) (ha : g.is_async = 0)
    (h : codeAny (model prog w) A (.compLoop (.ListComp elt gens scope pos) dp it acc env) R s)
    (hit : ∀ (Q : Value → Shared → Prop), Q it s → wpAny (model prog w) A (pyIter it) Q (fun _ _ => False) s) :
    codeAny (model prog w) A (.compStart (.ListComp elt gens scope pos) dp it acc env) R s := by
  refine codeAny_of_tree ?_
  show wpAny _ _ ((compStart (.ListComp elt gens scope pos) dp it acc env).onRaise (fun x => do noteFrame x env; standAt theWindowsPlace)) _ _ s
  refine wpAny_notedAt ?_
  unfold compStart
  have e1 : ((clausesOf (.ListComp elt gens scope pos))[dp]?).elim false (·.is_async != 0) = false := by
    show (gens[dp]?).elim false (·.is_async != 0) = false
    rw [hg]; simp [ha]
  have e2 : (clausesOf (.ListComp elt gens scope pos))[dp]? = some g := hg
  rw [e1, e2]
  simp only [Bool.false_eq_true, if_false]
  show wpAny _ _ (ask >>= _) _ _ s
  refine wpAny_bind (wpAny_askSetting (wpAny_ite ?_))
  split
  · first
      | exact wpAny_bind (wpAny_pure (wpAny_pure (And.intro rfl h)))
      | exact wpAny_pure (And.intro rfl h)
  · refine wpAny_bind (wpAny_rule ?_)
    show wpAny _ _ (standAt g.iter.pos >>= _) _ _ s
    refine wpAny_bind (wpAny_standAt (wpAny_bind ?_))
    exact wpAny_mono (hit _ h) (fun it' s' h' => wpAny_pure (And.intro rfl h')) fun _ _ x => x.elim
end
end Mine
end

section
open PySem PySem.W PySem.Calls PyProof.Rows
set_option maxRecDepth 100000
namespace Mine
/-- an iterator made here, at its start -/
structure Itr (prog : Program) (w : World) (A : Around) (target : PySem.Expr) (I : Addr) (n : Nat) (P : Nat → Value → Heap → Prop) (h₀ hb : Heap) (bad : List Addr) (h : Heap) : Prop where
  ex : ∃ fp Md Sw, KTurns prog w A target I fp [I] n P Md Sw ∧ Sw 0 h ∧ (∀ b ∈ fp, b ∉ bad) ∧ (∀ i h, Sw i h → (∀ b ∈ [I], NotTup h b) ∧ ∀ b ∈ fp, ∃ o, h.get? b = some o) ∧
    ∀ (s : Shared) (Q : Value → Shared → Prop), Sw 0 s.heap → Q (.ref I) s → wpAny (model prog w) A (pyIter (.ref I)) Q (fun _ _ => False) s
  lo : h₀.objs.size ≤ I
  new : hb.get? I = none
section
variable {prog : Program} {w : World} {h₀ hb : Heap} {W : List Addr} {a d L : Addr} {m : Str → Option Value} {O : List (Addr × AO)} {A : Around} {E : Value → Shared → Prop} {s : Shared} {env : Env}
theorem Itr.keeps {target : PySem.Expr} {I : Addr} {n : Nat} {P : Nat → Value → Heap → Prop} {bad bad' : List Addr} {h h' : Heap} (x : Itr prog w A target I n P h₀ hb bad h) (k : ∀ b o, h.get? b = some o → h'.get? b = some o) (hbad : ∀ b ∈ bad', b ∈ bad ∨ h.get? b = none) : Itr prog w A target I n P h₀ hb bad' h' := by
  obtain ⟨⟨fp, Md, Sw, T, st, fb, wt, self⟩, lo, new⟩ := x
  refine ⟨⟨fp, Md, Sw, T, T.frame _ _ _ st fun b _ o e => k b o e, fun b hb q => ?_, wt, self⟩, lo, new⟩
  rcases hbad b q with q | q
  · exact fb b hb q
  · obtain ⟨o, e⟩ := (wt _ _ st).2 b hb
    rw [e] at q; cases q

theorem comp_turns {R : Result → Shared → Prop} {target : PySem.Expr} {c : Code} {I : Addr} {n : Nat} {P : Nat → Value → Heap → Prop} {Emit : (Shared → Prop) → Shared → Prop} {m : Str → Option Value}
    (rule : CompRule prog w A target (.ref I) c env Emit) (emono : ∀ K K' s, (∀ s, K s → K' s) → Emit K s → Emit K' s)
    (T : Itr prog w A target I n P h₀ hb (env.locals :: O.map (·.1)) s.heap) (X : St prog w h₀ hb W env.locals m O s.heap)
    (J : Nat → (Str → Option Value) → List (Addr × AO) → Prop) (j0 : J 0 m O)
    (step : ∀ i v m₁ O₁ h tk, i < n → P i v h → J i m₁ O₁ → St prog w h₀ h (env.locals :: O₁.map (·.1)) env.locals m₁ O₁ h → Kp h₀ (I :: (env.locals :: O.map (·.1))) s.heap h →
      wpAny (model prog w) A (assign target env v) (fun _ s₂ => Emit (TurnEnd prog w h₀ h env.locals (env.locals :: O₁.map (·.1)) (J (i + 1)) { s with heap := h, toks := tk }) s₂) (fun _ _ => False) { s with heap := h, toks := tk })
    (done : ∀ m₁ O₁ h tk, J n m₁ O₁ → St prog w h₀ hb W env.locals m₁ O₁ h → Kp h₀ (I :: (env.locals :: O.map (·.1))) s.heap h → (∀ a ∈ O₁.map (·.1), a ∈ env.locals :: O.map (·.1) ∨ s.heap.get? a = none) → R (.ok .next) { s with heap := h, toks := tk }) :
    codeAny (model prog w) A c R s := by
  obtain ⟨⟨fp, Md, Sw, T, hst, hfp, hwt, _⟩, hI0, hIb⟩ := T
  have hwr : ∀ b ∈ [I], h₀.objs.size ≤ b ∧ hb.get? b = none := fun b q => by rw [List.mem_singleton.mp q]; exact ⟨hI0, hIb⟩
  refine rule R
    (fun k s' => ∃ h' tk m' O' i, s' = { s with heap := h', toks := tk } ∧ Sw i h' ∧ St prog w h₀ hb W env.locals m' O' h' ∧ (∀ b ∈ fp, b ∉ env.locals :: O'.map (·.1)) ∧
      (∀ a ∈ O'.map (·.1), a ∈ env.locals :: O.map (·.1) ∨ s.heap.get? a = none) ∧ Kp h₀ ([I] ++ (env.locals :: O.map (·.1))) s.heap h' ∧ J i m' O' ∧ i ≤ n ∧ k = n + 1 - i) ?_ (n + 1) s
    ⟨s.heap, s.toks, m, O, 0, rfl, hst, X, hfp, fun a ha => .inl (.tail _ ha), .refl, j0, Nat.zero_le _, rfl⟩
  rintro k s' ⟨h', tk, m', O', i, rfl, hst', X', hfp', hO', hk', hJ, hi, rfl⟩
  have walked : ∀ h₁ : Heap, (∀ b o, b ∉ [I] → h'.get? b = some o → h₁.get? b = some o) → St prog w h₀ hb W env.locals m' O' h₁ ∧ Kp h₀ ([I] ++ (env.locals :: O.map (·.1))) s.heap h₁ := fun h₁ hk₁ => by
    have c : Kp h₀ [I] h' h₁ := .ofKeep hk₁ (hwt i h' hst').1 fun a q => (hwr a q).1
    exact ⟨X'.other c (fun a q => hfp' a (T.sub a q)) fun a q => (hwr a q).2, hk'.trans (c.mono fun b q => List.mem_append_left _ q)⟩
  by_cases hlt : i < n
  · refine T.item i _ _ _ hlt hst' fun v h₁ tk₁ hMd hk₁ => ?_
    refine T.go i v _ _ _ hMd fun h₂ hP hst₂ hk₂' => ?_
    obtain ⟨X₂, k₂⟩ := walked h₂ fun b o q e => hk₂' b o q (hk₁ b o q e)
    refine wpAny_mono (step i v m' O' h₂ _ hlt hP hJ X₂.rebase k₂) (fun _ s₂ g₂ => emono _ _ _ (fun s₃ g₃ => ?_) g₂) fun _ _ e => e.elim
    obtain ⟨h₃, tk₃, m₃, O₃, rfl, X₃, j₃⟩ := g₃
    have keepI : ∀ b ∈ fp, ∀ o, h₂.get? b = some o → h₃.get? b = some o := fun b q o e => X₃.chg.keep b o (hfp' b q) e
    refine ⟨n + 1 - (i + 1), by omega, h₃, tk₃, m₃, O₃, i + 1, rfl, T.frame _ _ _ hst₂ keepI, X₂.join X₃ .refl, ?_, ?_, ?_, j₃, hlt, rfl⟩
    · intro b q e
      rcases X₃.may b e with e | e
      · exact hfp' b q e
      · obtain ⟨o, ho⟩ := (hwt _ _ hst₂).2 b q
        rw [e] at ho; cases ho
    · intro b e
      rcases X₃.may b (.tail _ e) with e | e
      · rcases List.mem_cons.mp e with rfl | e
        · exact .inl (.head _)
        · exact hO' b e
      · by_cases q : b ∈ env.locals :: O.map (·.1)
        · exact .inl q
        · refine .inr ?_
          cases e' : s.heap.get? b with
          | none => rfl
          | some o =>
            by_cases qw : b ∈ [I]
            · obtain ⟨o', ho'⟩ := (hwt _ _ hst₂).2 b (T.sub b qw)
              rw [e] at ho'; cases ho'
            · have := k₂.keep b o (fun z => (List.mem_append.mp z).elim qw q) e'
              rw [e] at this; cases this
    · refine k₂.step X₃.chg.toKp fun b e => ?_
      rcases List.mem_cons.mp e with rfl | e
      · exact .inl (List.mem_append_right _ (.head _))
      · rcases hO' b e with e | e
        · exact .inl (List.mem_append_right _ e)
        · exact .inr e
  · have hin : i = n := by omega
    subst hin
    refine T.done _ _ _ hst' fun h₁ tk₁ hk₁ => ?_
    obtain ⟨X₁, k₁⟩ := walked h₁ hk₁
    exact done m' O' h₁ tk₁ hJ X₁ k₁ hO'
/-- a comprehension's clause within: from its iterator on -/
theorem comp_within {elt : PySem.Expr} {gens : List Comprehension} {scope : Scope} {pos : Pos} {dp : Nat} {g : Comprehension} {acc : Value} {R : Result → Shared → Prop} {target : PySem.Expr} {I : Addr} {n : Nat} {P : Nat → Value → Heap → Prop} {Emit : (Shared → Prop) → Shared → Prop} {m : Str → Option Value}
    (hg : gens[dp]? = some g) (ha : g.is_async = 0)
    (rule : CompRule prog w A target (.ref I) (.compLoop (.ListComp elt gens scope pos) dp (.ref I) acc env) env Emit) (emono : ∀ K K' s, (∀ s, K s → K' s) → Emit K s → Emit K' s)
    (T : Itr prog w A target I n P h₀ hb (env.locals :: O.map (·.1)) s.heap) (X : St prog w h₀ hb W env.locals m O s.heap)
    (J : Nat → (Str → Option Value) → List (Addr × AO) → Prop) (j0 : J 0 m O)
    (step : ∀ i v m₁ O₁ h tk, i < n → P i v h → J i m₁ O₁ → St prog w h₀ h (env.locals :: O₁.map (·.1)) env.locals m₁ O₁ h → Kp h₀ (I :: (env.locals :: O.map (·.1))) s.heap h →
      wpAny (model prog w) A (assign target env v) (fun _ s₂ => Emit (TurnEnd prog w h₀ h env.locals (env.locals :: O₁.map (·.1)) (J (i + 1)) { s with heap := h, toks := tk }) s₂) (fun _ _ => False) { s with heap := h, toks := tk })
    (done : ∀ m₁ O₁ h tk, J n m₁ O₁ → St prog w h₀ hb W env.locals m₁ O₁ h → Kp h₀ (I :: (env.locals :: O.map (·.1))) s.heap h → (∀ a ∈ O₁.map (·.1), a ∈ env.locals :: O.map (·.1) ∨ s.heap.get? a = none) → R (.ok .next) { s with heap := h, toks := tk }) :
    codeAny (model prog w) A (.compStart (.ListComp elt gens scope pos) dp (.ref I) acc env) R s := by
  refine start_d hg ha (comp_turns rule emono T X J j0 step done) fun Q q => ?_
  obtain ⟨⟨fp, Md, Sw, T, hst, hfp, hwt, self⟩, hI0, hIb⟩ := T
  exact self s Q hst q
end
end Mine
end

section
open PySem PySem.W PySem.Calls PyProof.Rows
set_option maxRecDepth 100000
namespace Mine
section
variable {prog : Program} {w : World} {h₀ hb : Heap} {W : List Addr} {a d L : Addr} {m : Str → Option Value} {O : List (Addr × AO)} {A : Around} {E : Value → Shared → Prop} {s : Shared} {env : Env}
theorem list_turnsT {elts : List PySem.Expr} {k : Nat} {pos : Pos} {I ax : Addr} (hh : A.handled = none) (hne : ax ≠ I) (items : Array Value) (href : ∀ (i : Nat) v, items[i]? = some v → ∃ T, v = .ref T) :
    KTurns prog w A (.Tuple elts k pos) I [I, ax] [I] items.size (fun i v _ => items[i]? = some v) (fun i v h => items[i]? = some v ∧ (h.IsListIter I ax (i + 1) ∧ h.IsList ax items)) (fun i h => h.IsListIter I ax i ∧ h.IsList ax items) := by
  have W := list_turns (prog := prog) (w := w) (A := A) (target := .Name "_" ⟨0, 0, 0, 0⟩) hh hne items (fun v => rfl)
  refine ⟨W.sub, W.frame, W.item, fun i v s Q E hm hQ => ?_, W.done⟩
  obtain ⟨T, rfl⟩ := href i v hm.1
  exact wpAny_letOwnedTupleGo_listiter hm.2.1 (hQ s.heap hm.1 hm.2 fun _ _ _ e => e)

/-! iterators of a comprehension -/
theorem it_list {items : Array Value} {Q : Value → Shared → Prop} (hh : A.handled = none) (X : St prog w h₀ hb W L m O s.heap) (r : s.heap.IsList d items) (hd : d ∉ L :: O.map (·.1))
    (h : ∀ h', St prog w h₀ hb W L m O h' → Kp h₀ [] s.heap h' → (∀ target : PySem.Expr, (∀ (I : Addr) (v : Value), letOwnedTupleGo target (.ref I) v = pure ()) → Itr prog w A target s.heap.objs.size items.size (fun i v _ => items[i]? = some v) h₀ hb (L :: O.map (·.1)) h') → Q (.ref s.heap.objs.size) { s with heap := h' }) : wpAny (model prog w) A (pyIter (.ref d)) Q (fun _ _ => False) s := by
  refine wpAny_pyIter_list r ?_
  obtain ⟨o, ho, _⟩ := id r
  refine h _ (X.push _) (.push _) fun target hgo => ⟨⟨_, _, _, list_turns hh (Nat.ne_of_lt (Heap.lt_size ho)) items (hgo _), ⟨⟨_, Heap.get?_push_size _ rfl, rfl, rfl⟩, r.at fun o e => Heap.get?_push_of_some _ e⟩, ?_, fun i h z => list_turns_ok z, fun s Q st q => wpAny_pyIter_listiter st.1 q⟩, X.big, X.chg.fresh⟩
  intro b q
  rcases List.mem_cons.mp q with rfl | q
  · exact X.fresh
  · rw [List.mem_singleton.mp q]; exact hd
theorem it_listT {items : Array Value} {Q : Value → Shared → Prop} (hh : A.handled = none) (X : St prog w h₀ hb W L m O s.heap) (r : s.heap.IsList d items) (hd : d ∉ L :: O.map (·.1)) (href : ∀ (i : Nat) v, items[i]? = some v → ∃ T, v = .ref T)
    (h : ∀ h', St prog w h₀ hb W L m O h' → Kp h₀ [] s.heap h' → (∀ (elts : List PySem.Expr) (k : Nat) (pos : Pos), Itr prog w A (.Tuple elts k pos) s.heap.objs.size items.size (fun i v _ => items[i]? = some v) h₀ hb (L :: O.map (·.1)) h') → Q (.ref s.heap.objs.size) { s with heap := h' }) : wpAny (model prog w) A (pyIter (.ref d)) Q (fun _ _ => False) s := by
  refine wpAny_pyIter_list r ?_
  obtain ⟨o, ho, _⟩ := id r
  refine h _ (X.push _) (.push _) fun elts k pos => ⟨⟨_, _, _, list_turnsT hh (Nat.ne_of_lt (Heap.lt_size ho)) items href, ⟨⟨_, Heap.get?_push_size _ rfl, rfl, rfl⟩, r.at fun o e => Heap.get?_push_of_some _ e⟩, ?_, fun i h z => list_turns_ok z, fun s Q st q => wpAny_pyIter_listiter st.1 q⟩, X.big, X.chg.fresh⟩
  intro b q
  rcases List.mem_cons.mp q with rfl | q
  · exact X.fresh
  · rw [List.mem_singleton.mp q]; exact hd
theorem it_keys {es : Array DictEntry} {ep : Nat} {Q : Value → Shared → Prop} (hh : A.handled = none) (X : St prog w h₀ hb W L m O s.heap) (lo : (d == sysModules) = false) (r : RD s.heap d es ep) (hd : d ∉ L :: O.map (·.1))
    (h : ∀ h', St prog w h₀ hb W L m O h' → Kp h₀ [] s.heap h' → (∀ target : PySem.Expr, (∀ (I : Addr) (v : Value), letOwnedTupleGo target (.ref I) v = pure ()) → Itr prog w A target s.heap.objs.size es.size (fun i v _ => ∃ e : DictEntry, es[i]? = some e ∧ v = e.key) h₀ hb (L :: O.map (·.1)) h') → Q (.ref s.heap.objs.size) { s with heap := h' }) : wpAny (model prog w) A (pyIter (.ref d)) Q (fun _ _ => False) s := by
  refine rd_iter_keys lo r ?_
  obtain ⟨o, ho, _⟩ := id r
  refine h _ (X.push _) (.push _) fun target hgo => ⟨⟨_, _, _, keys_turns hh (Nat.ne_of_lt (Heap.lt_size ho)) (fun v => hgo _ v), ⟨⟨_, Heap.get?_push_size _ rfl, rfl, rfl⟩, r.at fun o e => Heap.get?_push_of_some _ e⟩, ?_, fun i h z => keys_turns_ok z, fun s Q st q => wpAny_pyIter_keyiter st.1 q⟩, X.big, X.chg.fresh⟩
  intro b q
  rcases List.mem_cons.mp q with rfl | q
  · exact X.fresh
  · rw [List.mem_singleton.mp q]; exact hd
theorem it_vals {es : Array DictEntry} {ep : Nat} {v : Addr} {Q : Value → Shared → Prop} (hh : A.handled = none) (X : St prog w h₀ hb W L m O s.heap) (hv : ∃ o, s.heap.get? v = some o ∧ o.cls = .type "dict_values" ∧ o.data = .fields #[.ref d]) (r : RD s.heap d es ep) (hd : d ∉ L :: O.map (·.1))
    (h : ∀ h', St prog w h₀ hb W L m O h' → Kp h₀ [] s.heap h' → (∀ target : PySem.Expr, (∀ (I : Addr) (v : Value), letOwnedTupleGo target (.ref I) v = pure ()) → Itr prog w A target s.heap.objs.size es.size (fun i v _ => ∃ e : DictEntry, es[i]? = some e ∧ v = e.val) h₀ hb (L :: O.map (·.1)) h') → Q (.ref s.heap.objs.size) { s with heap := h' }) : wpAny (model prog w) A (pyIter (.ref v)) Q (fun _ _ => False) s := by
  refine rd_iter_values hv r ?_
  obtain ⟨o, ho, _⟩ := id r
  refine h _ (X.push _) (.push _) fun target hgo => ⟨⟨_, _, _, vals_turns hh (Nat.ne_of_lt (Heap.lt_size ho)) (fun v => hgo _ v), ⟨⟨_, Heap.get?_push_size _ rfl, rfl, rfl⟩, r.at fun o e => Heap.get?_push_of_some _ e⟩, ?_, fun i h z => vals_turns_ok z, fun s Q st q => wpAny_pyIter_valiter st.1 q⟩, X.big, X.chg.fresh⟩
  intro b q
  rcases List.mem_cons.mp q with rfl | q
  · exact X.fresh
  · rw [List.mem_singleton.mp q]; exact hd
theorem it_range {n : Nat} {r : Addr} {t u v : Tok} {Q : Value → Shared → Prop} (hh : A.handled = none) (X : St prog w h₀ hb W L m O s.heap) (hr : IsRange s.heap r 0 n 1 t u v) (hn : n ≤ 1000)
    (h : ∀ h', St prog w h₀ hb W L m O h' → Kp h₀ [] s.heap h' → (∀ target : PySem.Expr, (∀ (I : Addr) (v : Value), letOwnedTupleGo target (.ref I) v = pure ()) → Itr prog w A target s.heap.objs.size n (fun i v _ => ∃ t, v = .int (i : Int) t) h₀ hb (L :: O.map (·.1)) h') → Q (.ref s.heap.objs.size) { s with heap := h' }) : wpAny (model prog w) A (pyIter (.ref r)) Q (fun _ _ => False) s := by
  have hs : Builtin.Range.rangeSize 0 (n : Int) 1 = n := by simp [Builtin.Range.rangeSize]; omega
  refine wpAny_pyIter_range hr ?_ ?_
  · rw [Builtin.Range.small, hs]; simp [Builtin.Range.rangeFitsLong]; omega
  rw [hs]
  refine h _ (X.push _) (.push _) fun target hgo => ⟨⟨_, _, _, range_turns hh n (fun v => hgo _ v), ?_, ?_, ?_, ?_⟩, X.big, X.chg.fresh⟩
  · show IsRangeIter _ _ (0 + ((0 : Nat) : Int) * 1) ((n : Int) - ((0 : Nat) : Int)) 1
    simp only [IsRangeIter, Int.natCast_zero, Int.zero_mul, Int.add_zero, Int.sub_zero]
    exact Heap.get?_push_size _ rfl
  · intro b q
    rw [List.mem_singleton.mp q]; exact X.fresh
  · intro i h z
    refine ⟨fun b q => by rw [List.mem_singleton.mp q]; exact .fields z rfl, fun b q => by rw [List.mem_singleton.mp q]; exact ⟨_, z⟩⟩
  · intro s Q st q
    exact wpAny_pyIter_rangeiter st q
end
end Mine
end

section
open PySem PySem.W PySem.Calls PyProof.Rows
set_option maxRecDepth 100000
namespace Mine
section
variable {prog : Program} {w : World} {h₀ hb : Heap} {W : List Addr} {a d L : Addr} {m : Str → Option Value} {O : List (Addr × AO)} {A : Around} {s : Shared} {env : Env}
/-- a comprehension, once its first iterator is made -/
def CompIn (prog : Program) (w : World) (A : Around) (e : PySem.Expr) (scope : Scope) (cl : List (Str × Addr)) (env : Env) (it : Value) (Q : Value → Shared → Prop) (s : Shared) : Prop :=
  wpAny (model prog w) A (newList []) (fun acc s₃ => wpAny (model prog w) A (newFunctionEnv scope env.globals cl [] env.qual none .none (some env)) (fun cenv s₄ =>
    codeAny (model prog w) A (.compStart e 0 it acc { cenv with scope := relabel scope env }) (compPost (model prog w) A (fun _ _ => False) none Q acc cenv.locals) s₄) (fun _ _ => False) s₃) (fun _ _ => False) s
theorem list_comp {elt target iter : PySem.Expr} {ifs : List PySem.Expr} {rest : List Comprehension} {scope : Scope} {pos : Pos} {cl : List (Str × Addr)} {Q : Value → Shared → Prop} (hclos : closureFor scope env = pure cl)
    (h : wpAny (model prog w) A (eval iter env) (fun x s₁ => wpAny (model prog w) A (pyIter x) (fun it s₂ => CompIn prog w A (.ListComp elt (⟨target, iter, ifs, 0⟩ :: rest) scope pos) scope cl env it Q s₂) (fun _ _ => False) s₁) (fun _ _ => False) s)
    (hkind : scope.kind = .function := by rfl) (hnames : ∀ x ∈ scope.names, x.2 = .local → scope.names.lookup x.1 = some .local := by decide) (hs : ∀ x, foldedSetIterable iter env x = pure x := by intro _; rfl) :
    wpAny (model prog w) A (eval (.ListComp elt (⟨target, iter, ifs, 0⟩ :: rest) scope pos) env) Q (fun _ _ => False) s := by
  rw [eval_ListComp]
  exact wpAny_comprehension_free rfl hs hclos hkind hnames h

theorem comp_core {elt : PySem.Expr} {gens : List Comprehension} {scope : Scope} {pos : Pos} {g : Comprehension} {target : PySem.Expr} {I D : Addr} {n : Nat} {P : Nat → Value → Heap → Prop} {Emit : (Shared → Prop) → Shared → Prop} {Q : Value → Shared → Prop} {cenv : Env} {m' : Str → Option Value} {O' : List (Addr × AO)} {s₀ : Shared} {H : Heap} {tk₀ : Nat}
    (hg : gens[0]? = some g) (ha : g.is_async = 0)
    (rule : CompRule prog w A target (.ref I) (.compLoop (.ListComp elt gens scope pos) 0 (.ref I) (.ref D) cenv) cenv Emit) (emono : ∀ K K' s, (∀ s, K s → K' s) → Emit K s → Emit K' s)
    (X : St prog w h₀ hb W L m O s₀.heap) (T : Itr prog w A target I n P h₀ hb (L :: O.map (·.1)) s₀.heap)
    (hkeep : ∀ b o, s₀.heap.get? b = some o → H.get? b = some o) (hC : s₀.heap.get? cenv.locals = none)
    (Y : St prog w h₀ hb W cenv.locals m' O' H) (hO : ∀ a ∈ O'.map (·.1), a ∈ O.map (·.1) ∨ s₀.heap.get? a = none)
    (J : Nat → (Str → Option Value) → List (Addr × AO) → Prop) (j0 : J 0 m' O')
    (step : ∀ i v m₁ O₁ h tk, i < n → P i v h → J i m₁ O₁ → St prog w h₀ h (cenv.locals :: O₁.map (·.1)) cenv.locals m₁ O₁ h → Kp h₀ (I :: O.map (·.1)) s₀.heap h →
      wpAny (model prog w) A (assign target cenv v) (fun _ s₂ => Emit (TurnEnd prog w h₀ h cenv.locals (cenv.locals :: O₁.map (·.1)) (J (i + 1)) { s₀ with heap := h, toks := tk }) s₂) (fun _ _ => False) { s₀ with heap := h, toks := tk })
    (done : ∀ m₁ O₁ h tk, J n m₁ O₁ → St prog w h₀ hb W L m O₁ h → Kp h₀ (I :: O.map (·.1)) s₀.heap h → Q (.ref D) { s₀ with heap := h, toks := tk }) :
    codeAny (model prog w) A (.compStart (.ListComp elt gens scope pos) 0 (.ref I) (.ref D) cenv) (compPost (model prog w) A (fun _ _ => False) none Q (.ref D) cenv.locals) { s₀ with heap := H, toks := tk₀ } := by
  have hnone : ∀ {b}, H.get? b = none → s₀.heap.get? b = none := fun {b} e => by
    cases q : s₀.heap.get? b with
    | none => rfl
    | some o => rw [hkeep b o q] at e; cases e
  have hIL : I ∉ L :: O.map (·.1) := by
    obtain ⟨fp, Md, Sw, T, _, hfp, _⟩ := T.ex
    exact hfp I (T.sub I (.head _))
  have T' : Itr prog w A target I n P h₀ hb (cenv.locals :: O'.map (·.1)) H := T.keeps hkeep fun b q => by
    rcases List.mem_cons.mp q with rfl | q
    · exact .inr hC
    · exact (hO b q).imp (fun z => .tail _ z) id
  have k0 : Kp h₀ [] s₀.heap H := ⟨fun b o _ e => hkeep b o e, fun b o _ e => hkeep b o e, fun b o e _ => hkeep b o e⟩
  have kk : ∀ h, Kp h₀ (I :: (cenv.locals :: O'.map (·.1))) H h → Kp h₀ (I :: O.map (·.1)) s₀.heap h := fun h k => (k0.mono fun _ q => nomatch q).step k fun b q => by
    rcases List.mem_cons.mp q with rfl | q
    · exact .inl (.head _)
    · rcases List.mem_cons.mp q with rfl | q
      · exact .inr hC
      · exact (hO b q).imp (fun z => .tail _ z) id
  refine comp_within (s := { s₀ with heap := H, toks := tk₀ }) hg ha rule emono T' Y J j0 ?_ ?_
  · intro i v m₁ O₁ h tk hi hP hJ X₁ k₁
    exact step i v m₁ O₁ h tk hi hP hJ X₁ (kk h k₁)
  · intro m₁ O₁ h tk hJ X₁ k₁ hn₁
    refine ⟨m₁, X₁.fr.ns, fun h' hs => ?_⟩
    have hCn : hb.get? cenv.locals = none := X.chg.none hC
    have c : Kp h₀ [cenv.locals] h h' := .same hs (.ns X₁.fr.ns) X₁.fr.above
    obtain ⟨hCO, hnd⟩ := List.nodup_cons.mp X₁.nodup
    have kL : Kp h₀ (I :: O.map (·.1)) s₀.heap h' := (kk h k₁).step c fun b q => by rw [List.mem_singleton.mp q]; exact .inr hC
    have hLO : L ∉ O₁.map (·.1) := fun q => by
      have hL1 : L ∉ O.map (·.1) := (List.nodup_cons.mp X.nodup).1
      obtain ⟨oL, hoL⟩ := ns_here X.fr.ns
      rcases hn₁ L q with z | z
      · rcases List.mem_cons.mp z with z | z
        · rw [← z] at hC; rw [hC] at hoL; cases hoL
        · rcases hO L z with z | z
          · exact hL1 z
          · rw [hoL] at z; cases z
      · have := hnone z
        rw [hoL] at this; cases this
    have X₂ : St prog w h₀ hb W L m O₁ h' := by
      refine ⟨Fr.chg X.fr kL ?_, X₁.chg.past c fun b q => by rw [List.mem_singleton.mp q]; exact hCn, fun p hp => ⟨(X₁.objs p hp).1.chg c ?_, (X₁.objs p hp).2⟩, List.nodup_cons.mpr ⟨hLO, hnd⟩, ?_⟩
      · intro q
        rcases List.mem_cons.mp q with q | q
        · exact hIL (q ▸ .head _)
        · exact (List.nodup_cons.mp X.nodup).1 q
      · intro q
        have := List.mem_singleton.mp q
        exact hCO (this ▸ List.mem_map.mpr ⟨p, hp, rfl⟩)
      · intro b q
        rcases List.mem_cons.mp q with rfl | q
        · exact X.may _ (.head _)
        · exact X₁.may b (.tail _ q)
    exact done m₁ O₁ h' tk hJ X₂ kL

/-- a comprehension whose scope holds no cell of its own -/
theorem comp_in {elt : PySem.Expr} {gens : List Comprehension} {scope : Scope} {pos : Pos} {g : Comprehension} {target : PySem.Expr} {I : Addr} {n : Nat} {P : Nat → Value → Heap → Prop} {Emit : Addr → Env → (Shared → Prop) → Shared → Prop} {Q : Value → Shared → Prop} {cl : List (Str × Addr)}
    (hg : gens[0]? = some g) (ha : g.is_async = 0)
    (rule : ∀ D C, CompRule prog w A target (.ref I) (.compLoop (.ListComp elt gens scope pos) 0 (.ref I) (.ref D) (compEnvC scope cl C env)) (compEnvC scope cl C env) (Emit D (compEnvC scope cl C env))) (emono : ∀ D C K K' s, (∀ s, K s → K' s) → Emit D C K s → Emit D C K' s)
    (X : St prog w h₀ hb W L m O s.heap) (T : Itr prog w A target I n P h₀ hb (L :: O.map (·.1)) s.heap)
    (J : Addr → Nat → (Str → Option Value) → List (Addr × AO) → Prop) (j0 : ∀ D, s.heap.get? D = none → J D 0 (fun _ => none) ((D, .lst []) :: O))
    (step : ∀ D C, s.heap.get? C = none → ∀ i v m₁ O₁ h tk, i < n → P i v h → J D i m₁ O₁ → St prog w h₀ h (C :: O₁.map (·.1)) C m₁ O₁ h → Kp h₀ (I :: O.map (·.1)) s.heap h →
      wpAny (model prog w) A (assign target (compEnvC scope cl C env) v) (fun _ s₂ => Emit D (compEnvC scope cl C env) (TurnEnd prog w h₀ h C (C :: O₁.map (·.1)) (J D (i + 1)) { s with heap := h, toks := tk }) s₂) (fun _ _ => False) { s with heap := h, toks := tk })
    (done : ∀ D m₁ O₁ h tk, J D n m₁ O₁ → St prog w h₀ hb W L m O₁ h → Kp h₀ (I :: O.map (·.1)) s.heap h → s.heap.get? D = none → Q (.ref D) { s with heap := h, toks := tk })
    (hcell : ∀ y ∈ scope.names, y.2 ≠ .cell := by decide) (hkind : scope.kind = .function := by rfl) : CompIn prog w A (.ListComp elt gens scope pos) scope cl env (.ref I) Q s := by
  unfold CompIn
  refine wpAny_newObj_type (wpAny_newFunctionEnv hcell (by intro y hy; simp at hy) (fun h₁ hns₁ hsb₁ => ?_) hkind)
  dsimp only at hns₁ hsb₁ ⊢
  have X₁ := X.push { cls := .type "list", dict := none, data := .seq ([] : List Value).toArray }
  have hD : s.heap.get? s.heap.objs.size = none := none_size
  have hCs : s.heap.get? (s.heap.push { cls := .type "list", dict := none, data := .seq ([] : List Value).toArray }).objs.size = none := none_push
  have hDs : (s.heap.push { cls := .type "list", dict := none, data := .seq ([] : List Value).toArray }).get? s.heap.objs.size = some { cls := .type "list", dict := none, data := .seq ([] : List Value).toArray } := Heap.get?_push_size _ rfl
  have k1 : ∀ b o, s.heap.get? b = some o → (s.heap.push { cls := .type "list", dict := none, data := .seq ([] : List Value).toArray }).get? b = some o := fun b o e => Heap.get?_push_of_some _ e
  generalize s.heap.push { cls := .type "list", dict := none, data := .seq ([] : List Value).toArray } = H at hns₁ hsb₁ X₁ hCs hDs k1 ⊢
  have k2 : ∀ b o, H.get? b = some o → h₁.get? b = some o := fun b o e => hsb₁.extBut b o (Nat.ne_of_lt (Heap.lt_size e)) (Heap.get?_push_of_some _ e)
  have kp : Kp h₀ [] s.heap h₁ := ⟨fun b o _ e => k2 b o (k1 b o e), fun b o _ e => k2 b o (k1 b o e), fun b o e _ => k2 b o (k1 b o e)⟩
  have hne : s.heap.objs.size ≠ H.objs.size := fun e => by rw [← e] at hCs hns₁; exact absurd (Heap.lt_size hDs) (by rw [e]; exact Nat.lt_irrefl _)
  have Y : St prog w h₀ hb W H.objs.size (fun _ => none) ((s.heap.objs.size, .lst []) :: O) h₁ := by
    have X₂ := X.other (V := []) kp (fun _ q => nomatch q) fun _ q => nomatch q
    refine ⟨⟨hns₁, X₂.fr.keep, X₁.big⟩, X₂.chg, ?_, ?_, ?_⟩
    · intro p hp
      rcases List.mem_cons.mp hp with rfl | hp
      · exact ⟨⟨0, k2 _ _ hDs⟩, X.big⟩
      · exact X₂.objs p hp
    · refine List.nodup_cons.mpr ⟨fun q => ?_, List.nodup_cons.mpr ⟨fun q => X.fresh (.tail _ q), (List.nodup_cons.mp X.nodup).2⟩⟩
      rcases List.mem_cons.mp q with q | q
      · exact hne q.symm
      · obtain ⟨o, ho⟩ := X.all _ (.tail _ q)
        rw [hCs] at ho; cases ho
    · intro b q
      rcases List.mem_cons.mp q with rfl | q
      · exact .inr (X.chg.none hCs)
      · rcases List.mem_cons.mp q with rfl | q
        · exact .inr (X.chg.none hD)
        · exact X.may b (.tail _ q)
  exact comp_core (s₀ := s) (cenv := compEnvC scope cl H.objs.size env) hg ha (rule _ _) (emono _ _) X T (fun b o e => k2 b o (k1 b o e)) hCs Y
    (fun b q => by
      rcases List.mem_cons.mp q with rfl | q
      · exact .inr hD
      · exact .inl q) (J _) (j0 _ hD) (step _ _ hCs) fun m₁ O₁ h tk hJ X₁ k => done _ m₁ O₁ h tk hJ X₁ k hD

/-- a comprehension whose scope holds one cell -/
theorem comp_in1 {elt : PySem.Expr} {gens : List Comprehension} {scope : Scope} {pos : Pos} {g : Comprehension} {target : PySem.Expr} {I : Addr} {n : Nat} {P : Nat → Value → Heap → Prop} {Emit : Addr → Env → (Shared → Prop) → Shared → Prop} {Q : Value → Shared → Prop} {cl : List (Str × Addr)} {x : Str}
    (hg : gens[0]? = some g) (ha : g.is_async = 0)
    (rule : ∀ D C, CompRule prog w A target (.ref I) (.compLoop (.ListComp elt gens scope pos) 0 (.ref I) (.ref D) (compEnvC scope ((x, C + 1) :: cl) C env)) (compEnvC scope ((x, C + 1) :: cl) C env) (Emit D (compEnvC scope ((x, C + 1) :: cl) C env))) (emono : ∀ D C K K' s, (∀ s, K s → K' s) → Emit D C K s → Emit D C K' s)
    (X : St prog w h₀ hb W L m O s.heap) (T : Itr prog w A target I n P h₀ hb (L :: O.map (·.1)) s.heap)
    (J : Addr → Addr → Nat → (Str → Option Value) → List (Addr × AO) → Prop) (j0 : ∀ D C, s.heap.get? D = none → s.heap.get? (C + 1) = none → J D C 0 (fun _ => none) ((C + 1, .cell none) :: (D, .lst []) :: O))
    (step : ∀ D C, s.heap.get? C = none → ∀ i v m₁ O₁ h tk, i < n → P i v h → J D C i m₁ O₁ → St prog w h₀ h (C :: O₁.map (·.1)) C m₁ O₁ h → Kp h₀ (I :: O.map (·.1)) s.heap h →
      wpAny (model prog w) A (assign target (compEnvC scope ((x, C + 1) :: cl) C env) v) (fun _ s₂ => Emit D (compEnvC scope ((x, C + 1) :: cl) C env) (TurnEnd prog w h₀ h C (C :: O₁.map (·.1)) (J D C (i + 1)) { s with heap := h, toks := tk }) s₂) (fun _ _ => False) { s with heap := h, toks := tk })
    (done : ∀ D C m₁ O₁ h tk, J D C n m₁ O₁ → St prog w h₀ hb W L m O₁ h → Kp h₀ (I :: O.map (·.1)) s.heap h → Q (.ref D) { s with heap := h, toks := tk })
    (hpc : ∀ h, pushCells h scope.names = h.push { cls := .type "cell", data := .cell none } := by intro _; rfl) (hcf : ∀ n, cellsFrom n scope.names cl = (x, n) :: cl := by intro _; rfl) : CompIn prog w A (.ListComp elt gens scope pos) scope cl env (.ref I) Q s := by
  unfold CompIn
  refine wpAny_newObj_type ?_
  simp only [newFunctionEnv, Option.isSome_some, if_true]
  refine wpAny_bind (wpAny_alloc ?_)
  refine wpAny_bind (wpAny_layCells _ (fun name kind cells => by cases hkc : kind == NameKind.cell <;> simp [hkc]) _ _ _ _ ?_)
  rw [hpc, hcf]
  refine wpAny_bind ?_
  rw [List.forIn_nil]
  refine wpAny_pure (wpAny_pure ?_)
  dsimp only
  have X₁ := X.push { cls := .type "list", dict := none, data := .seq ([] : List Value).toArray }
  have hD : s.heap.get? s.heap.objs.size = none := none_size
  have hCs : s.heap.get? (s.heap.push { cls := .type "list", dict := none, data := .seq ([] : List Value).toArray }).objs.size = none := none_push
  have hDs : (s.heap.push { cls := .type "list", dict := none, data := .seq ([] : List Value).toArray }).get? s.heap.objs.size = some { cls := .type "list", dict := none, data := .seq ([] : List Value).toArray } := Heap.get?_push_size _ rfl
  have k1 : ∀ b o, s.heap.get? b = some o → (s.heap.push { cls := .type "list", dict := none, data := .seq ([] : List Value).toArray }).get? b = some o := fun b o e => Heap.get?_push_of_some _ e
  generalize s.heap.push { cls := .type "list", dict := none, data := .seq ([] : List Value).toArray } = H at X₁ hCs hDs k1 ⊢
  have k2 : ∀ b o, H.get? b = some o → ((H.push { cls := .type "dict", data := .dict #[] }).push { cls := .type "cell", data := .cell none }).get? b = some o := fun b o e => Heap.get?_push_of_some _ (Heap.get?_push_of_some _ e)
  have kp : Kp h₀ [] s.heap ((H.push { cls := .type "dict", data := .dict #[] }).push { cls := .type "cell", data := .cell none }) := ⟨fun b o _ e => k2 b o (k1 b o e), fun b o _ e => k2 b o (k1 b o e), fun b o e _ => k2 b o (k1 b o e)⟩
  have hlt : s.heap.objs.size < H.objs.size := Heap.lt_size hDs
  have hsz : (H.push { cls := .type "dict", data := .dict #[] }).objs.size = H.objs.size + 1 := Heap.size_push ..
  have hC1 : s.heap.get? (H.objs.size + 1) = none := by
    cases e : s.heap.get? (H.objs.size + 1) with
    | none => rfl
    | some o =>
      have q : H.objs.size + 1 < s.heap.objs.size := Heap.lt_size e
      omega
  have Y : St prog w h₀ hb W H.objs.size (fun _ => none) ((H.objs.size + 1, .cell none) :: (s.heap.objs.size, .lst []) :: O) ((H.push { cls := .type "dict", data := .dict #[] }).push { cls := .type "cell", data := .cell none }) := by
    have X₂ := X.other (V := []) kp (fun _ q => nomatch q) fun _ q => nomatch q
    have hOlt : ∀ q ∈ L :: O.map (·.1), q < s.heap.objs.size := fun q hq => by obtain ⟨o, ho⟩ := X.all q hq; exact Heap.lt_size ho
    refine ⟨⟨(Heap.Ns.new H (.type "dict")).keeps fun b o e => Heap.get?_push_of_some _ e, X₂.fr.keep, X₁.big⟩, X₂.chg, ?_, ?_, ?_⟩
    · intro p hp
      rcases List.mem_cons.mp hp with rfl | hp
      · refine ⟨⟨{ cls := .type "cell", data := .cell none }, ?_, rfl⟩, Nat.le_trans X₁.big (Nat.le_succ _)⟩
        rw [← hsz]; exact Heap.get?_push_size _ rfl
      · rcases List.mem_cons.mp hp with rfl | hp
        · exact ⟨⟨0, k2 _ _ hDs⟩, X.big⟩
        · exact X₂.objs p hp
    · refine List.nodup_cons.mpr ⟨fun q => ?_, List.nodup_cons.mpr ⟨fun q => ?_, List.nodup_cons.mpr ⟨fun q => X.fresh (.tail _ q), (List.nodup_cons.mp X.nodup).2⟩⟩⟩
      · rcases List.mem_cons.mp q with q | q
        · exact absurd (show H.objs.size = H.objs.size + 1 from q) (by omega)
        · rcases List.mem_cons.mp q with q | q
          · exact absurd (show H.objs.size = s.heap.objs.size from q) (by omega)
          · exact absurd (show H.objs.size < s.heap.objs.size from hOlt _ (.tail _ q)) (by omega)
      · rcases List.mem_cons.mp q with q | q
        · exact absurd (show H.objs.size + 1 = s.heap.objs.size from q) (by omega)
        · exact absurd (show H.objs.size + 1 < s.heap.objs.size from hOlt _ (.tail _ q)) (by omega)
    · intro b q
      rcases List.mem_cons.mp q with rfl | q
      · exact .inr (X.chg.none hCs)
      · rcases List.mem_cons.mp q with rfl | q
        · exact .inr (X.chg.none hC1)
        · rcases List.mem_cons.mp q with rfl | q
          · exact .inr (X.chg.none hD)
          · exact X.may b (.tail _ q)
  rw [hsz]
  exact comp_core (s₀ := s) (cenv := compEnvC scope ((x, H.objs.size + 1) :: cl) H.objs.size env) hg ha (rule _ _) (emono _ _) X T (fun b o e => k2 b o (k1 b o e)) hCs Y
    (fun b q => by
      rcases List.mem_cons.mp q with rfl | q
      · exact .inr hC1
      · rcases List.mem_cons.mp q with rfl | q
        · exact .inr hD
        · exact .inl q) (J _ _) (j0 _ _ hD hC1) (step _ _ hCs) fun m₁ O₁ h tk hJ X₁ k => done _ _ m₁ O₁ h tk hJ X₁ k

/-- a comprehension, once its first iterator is made, where a name takes its list at once -/
def CompInU (prog : Program) (w : World) (A : Around) (e : PySem.Expr) (scope : Scope) (cl : List (Str × Addr)) (env : Env) (x : Str) (px : Pos) (it : Value) (Q : Value → Shared → Prop) (s : Shared) : Prop :=
  wpAny (model prog w) A (newList []) (fun acc s₃ => wpAny (model prog w) A (newFunctionEnv scope env.globals cl [] env.qual none .none (some env)) (fun cenv s₄ =>
    codeAny (model prog w) A (.compStart e 0 it acc { cenv with scope := relabel scope env }) (compPost (model prog w) A (fun _ _ => False) (some (assign (.Name x px) env)) Q acc cenv.locals) s₄) (fun _ _ => False) s₃) (fun _ _ => False) s
theorem assign_comp {elt target iter : PySem.Expr} {ifs : List PySem.Expr} {rest : List Comprehension} {scope : Scope} {p1 pos : Pos} {x : Str} {px : Pos} {cl : List (Str × Addr)} {Q : Flow → Shared → Prop} (hclos : closureFor scope env = pure cl)
    (h : wpAny (model prog w) A (eval iter env) (fun xv s₁ => wpAny (model prog w) A (pyIter xv) (fun it s₂ => CompInU prog w A (.ListComp elt (⟨target, iter, ifs, 0⟩ :: rest) scope p1) scope cl env x px it (fun _ s' => Q .next s') s₂) (fun _ _ => False) s₁) (fun _ _ => False) s)
    (hkind : scope.kind = .function := by rfl) (hnames : ∀ x ∈ scope.names, x.2 = .local → scope.names.lookup x.1 = some .local := by decide) (hs : ∀ x, foldedSetIterable iter env x = pure x := by intro _; rfl)
    (hsw : swapsWith (.ListComp elt (⟨target, iter, ifs, 0⟩ :: rest) scope p1) (some (.Name x px)) pos.line env = pure true := by rfl) :
    wpAny (model prog w) A (exec (.Assign [.Name x px] (.ListComp elt (⟨target, iter, ifs, 0⟩ :: rest) scope p1) pos) env) Q (fun _ _ => False) s := by
  rw [exec_Assign_Name_used _ _ _ _ hsw]
  refine wpAny_bind (wpAny_standAt (wpAny_bind ?_))
  show wpAny _ _ (comprehension _ scope env _ (newList []) false (firstIter (⟨target, iter, ifs, 0⟩ :: rest) env) (some (assign (.Name x px) env)) >>= fun _ => pure ()) _ _ s
  refine wpAny_bind (wpAny_mono (wpAny_comprehension_free rfl hs hclos hkind hnames h) (fun _ s' g => wpAny_pure (wpAny_pure g)) fun _ _ e => e)
theorem comp_core_u {elt : PySem.Expr} {gens : List Comprehension} {scope : Scope} {pos : Pos} {g : Comprehension} {target : PySem.Expr} {I D : Addr} {n : Nat} {P : Nat → Value → Heap → Prop} {Emit : (Shared → Prop) → Shared → Prop} {Q : Value → Shared → Prop} {cenv env : Env} {x : Str} {px : Pos} {m' : Str → Option Value} {O' : List (Addr × AO)} {s₀ : Shared} {H : Heap} {tk₀ : Nat}
    (hg : gens[0]? = some g) (ha : g.is_async = 0)
    (rule : CompRule prog w A target (.ref I) (.compLoop (.ListComp elt gens scope pos) 0 (.ref I) (.ref D) cenv) cenv Emit) (emono : ∀ K K' s, (∀ s, K s → K' s) → Emit K s → Emit K' s)
    (X : St prog w h₀ hb W L m O s₀.heap) (T : Itr prog w A target I n P h₀ hb (L :: O.map (·.1)) s₀.heap)
    (hkeep : ∀ b o, s₀.heap.get? b = some o → H.get? b = some o) (hC : s₀.heap.get? cenv.locals = none)
    (Y : St prog w h₀ hb W cenv.locals m' O' H) (hO : ∀ a ∈ O'.map (·.1), a ∈ O.map (·.1) ∨ s₀.heap.get? a = none)
    (J : Nat → (Str → Option Value) → List (Addr × AO) → Prop) (j0 : J 0 m' O')
    (step : ∀ i v m₁ O₁ h tk, i < n → P i v h → J i m₁ O₁ → St prog w h₀ h (cenv.locals :: O₁.map (·.1)) cenv.locals m₁ O₁ h → Kp h₀ (I :: O.map (·.1)) s₀.heap h →
      wpAny (model prog w) A (assign target cenv v) (fun _ s₂ => Emit (TurnEnd prog w h₀ h cenv.locals (cenv.locals :: O₁.map (·.1)) (J (i + 1)) { s₀ with heap := h, toks := tk }) s₂) (fun _ _ => False) { s₀ with heap := h, toks := tk })
    (done : ∀ m₁ O₁ h tk, J n m₁ O₁ → St prog w h₀ hb W L (fun y => if y = x then some (.ref D) else m y) O₁ h → Q .none { s₀ with heap := h, toks := tk }) (heL : env.locals = L) (hek : env.scope.kind = .function) (hel : env.kindOf x = some .local) :
    codeAny (model prog w) A (.compStart (.ListComp elt gens scope pos) 0 (.ref I) (.ref D) cenv) (compPost (model prog w) A (fun _ _ => False) (some (assign (.Name x px) env)) Q (.ref D) cenv.locals) { s₀ with heap := H, toks := tk₀ } := by
  have hnone : ∀ {b}, H.get? b = none → s₀.heap.get? b = none := fun {b} e => by
    cases q : s₀.heap.get? b with
    | none => rfl
    | some o => rw [hkeep b o q] at e; cases e
  have hIL : I ∉ L :: O.map (·.1) := by
    obtain ⟨fp, Md, Sw, T, _, hfp, _⟩ := T.ex
    exact hfp I (T.sub I (.head _))
  have T' : Itr prog w A target I n P h₀ hb (cenv.locals :: O'.map (·.1)) H := T.keeps hkeep fun b q => by
    rcases List.mem_cons.mp q with rfl | q
    · exact .inr hC
    · exact (hO b q).imp (fun z => .tail _ z) id
  have k0 : Kp h₀ [] s₀.heap H := ⟨fun b o _ e => hkeep b o e, fun b o _ e => hkeep b o e, fun b o e _ => hkeep b o e⟩
  have kk : ∀ h, Kp h₀ (I :: (cenv.locals :: O'.map (·.1))) H h → Kp h₀ (I :: O.map (·.1)) s₀.heap h := fun h k => (k0.mono fun _ q => nomatch q).step k fun b q => by
    rcases List.mem_cons.mp q with rfl | q
    · exact .inl (.head _)
    · rcases List.mem_cons.mp q with rfl | q
      · exact .inr hC
      · exact (hO b q).imp (fun z => .tail _ z) id
  refine comp_within (s := { s₀ with heap := H, toks := tk₀ }) hg ha rule emono T' Y J j0 ?_ ?_
  · intro i v m₁ O₁ h tk hi hP hJ X₁ k₁
    exact step i v m₁ O₁ h tk hi hP hJ X₁ (kk h k₁)
  · intro m₁ O₁ h tk hJ X₁ k₁ hn₁
    have hCn : hb.get? cenv.locals = none := X.chg.none hC
    obtain ⟨hCO, hnd⟩ := List.nodup_cons.mp X₁.nodup
    have kL : Kp h₀ (I :: O.map (·.1)) s₀.heap h := kk h k₁
    have hLC : L ≠ cenv.locals := fun z => by
      obtain ⟨oL, hoL⟩ := ns_here X.fr.ns
      rw [← z] at hC; rw [hC] at hoL; cases hoL
    have hLO : L ∉ O₁.map (·.1) := fun q => by
      have hL1 : L ∉ O.map (·.1) := (List.nodup_cons.mp X.nodup).1
      obtain ⟨oL, hoL⟩ := ns_here X.fr.ns
      rcases hn₁ L q with z | z
      · rcases List.mem_cons.mp z with z | z
        · exact hLC z
        · rcases hO L z with z | z
          · exact hL1 z
          · rw [hoL] at z; cases z
      · have := hnone z
        rw [hoL] at this; cases this
    have X₂ : St prog w h₀ hb W L m O₁ h := by
      refine ⟨Fr.chg X.fr kL ?_, X₁.chg, fun p hp => X₁.objs p hp, List.nodup_cons.mpr ⟨hLO, hnd⟩, ?_⟩
      · intro q
        rcases List.mem_cons.mp q with q | q
        · exact hIL (q ▸ .head _)
        · exact (List.nodup_cons.mp X.nodup).1 q
      · intro b q
        rcases List.mem_cons.mp q with rfl | q
        · exact X.may _ (.head _)
        · exact X₁.may b (.tail _ q)
    subst heL
    show wpAny (model prog w) A (assign (.Name x px) env (.ref D)) _ _ _
    refine wpAny_assign_Name (wpAny_storeName_local hel X₂.fr.ns (fun h₂ hn hs => ?_) (by rw [hek]; rfl))
    have X₃ := X₂.frame hs hn
    refine ⟨m₁, X₁.fr.ns.at (fun o e => hs.extBut _ o (fun z => hLC z.symm) e), fun h' hs' => ?_⟩
    have c : Kp h₀ [cenv.locals] h₂ h' := .same hs' (.ns (X₁.fr.ns.at (fun o e => hs.extBut _ o (fun z => hLC z.symm) e))) X₁.fr.above
    exact done m₁ O₁ h' _ hJ (X₃.other c (fun a q => by
      rw [List.mem_singleton.mp q]
      intro z
      rcases List.mem_cons.mp z with z | z
      · exact hLC z.symm
      · exact hCO z) fun a q => by rw [List.mem_singleton.mp q]; exact hCn)
/-- and where its list is named before its variables are let go -/
theorem comp_in_u {elt : PySem.Expr} {gens : List Comprehension} {scope : Scope} {pos : Pos} {g : Comprehension} {target : PySem.Expr} {I : Addr} {n : Nat} {P : Nat → Value → Heap → Prop} {Emit : Addr → Env → (Shared → Prop) → Shared → Prop} {Q : Value → Shared → Prop} {cl : List (Str × Addr)} {x : Str} {px : Pos}
    (hg : gens[0]? = some g) (ha : g.is_async = 0)
    (rule : ∀ D C, CompRule prog w A target (.ref I) (.compLoop (.ListComp elt gens scope pos) 0 (.ref I) (.ref D) (compEnvC scope cl C env)) (compEnvC scope cl C env) (Emit D (compEnvC scope cl C env))) (emono : ∀ D C K K' s, (∀ s, K s → K' s) → Emit D C K s → Emit D C K' s)
    (X : St prog w h₀ hb W env.locals m O s.heap) (T : Itr prog w A target I n P h₀ hb (env.locals :: O.map (·.1)) s.heap)
    (J : Addr → Nat → (Str → Option Value) → List (Addr × AO) → Prop) (j0 : ∀ D, s.heap.get? D = none → J D 0 (fun _ => none) ((D, .lst []) :: O))
    (step : ∀ D C, s.heap.get? C = none → ∀ i v m₁ O₁ h tk, i < n → P i v h → J D i m₁ O₁ → St prog w h₀ h (C :: O₁.map (·.1)) C m₁ O₁ h → Kp h₀ (I :: O.map (·.1)) s.heap h →
      wpAny (model prog w) A (assign target (compEnvC scope cl C env) v) (fun _ s₂ => Emit D (compEnvC scope cl C env) (TurnEnd prog w h₀ h C (C :: O₁.map (·.1)) (J D (i + 1)) { s with heap := h, toks := tk }) s₂) (fun _ _ => False) { s with heap := h, toks := tk })
    (done : ∀ D m₁ O₁ h tk, J D n m₁ O₁ → St prog w h₀ hb W env.locals (fun y => if y = x then some (.ref D) else m y) O₁ h → Q .none { s with heap := h, toks := tk })
    (hcell : ∀ y ∈ scope.names, y.2 ≠ .cell := by decide) (hkind : scope.kind = .function := by rfl) (hek : env.scope.kind = .function := by rfl) (hel : env.kindOf x = some .local := by rfl) : CompInU prog w A (.ListComp elt gens scope pos) scope cl env x px (.ref I) Q s := by
  unfold CompInU
  refine wpAny_newObj_type (wpAny_newFunctionEnv hcell (by intro y hy; simp at hy) (fun h₁ hns₁ hsb₁ => ?_) hkind)
  dsimp only at hns₁ hsb₁ ⊢
  have X₁ := X.push { cls := .type "list", dict := none, data := .seq ([] : List Value).toArray }
  have hD : s.heap.get? s.heap.objs.size = none := none_size
  have hCs : s.heap.get? (s.heap.push { cls := .type "list", dict := none, data := .seq ([] : List Value).toArray }).objs.size = none := none_push
  have hDs : (s.heap.push { cls := .type "list", dict := none, data := .seq ([] : List Value).toArray }).get? s.heap.objs.size = some { cls := .type "list", dict := none, data := .seq ([] : List Value).toArray } := Heap.get?_push_size _ rfl
  have k1 : ∀ b o, s.heap.get? b = some o → (s.heap.push { cls := .type "list", dict := none, data := .seq ([] : List Value).toArray }).get? b = some o := fun b o e => Heap.get?_push_of_some _ e
  generalize s.heap.push { cls := .type "list", dict := none, data := .seq ([] : List Value).toArray } = H at hns₁ hsb₁ X₁ hCs hDs k1 ⊢
  have k2 : ∀ b o, H.get? b = some o → h₁.get? b = some o := fun b o e => hsb₁.extBut b o (Nat.ne_of_lt (Heap.lt_size e)) (Heap.get?_push_of_some _ e)
  have kp : Kp h₀ [] s.heap h₁ := ⟨fun b o _ e => k2 b o (k1 b o e), fun b o _ e => k2 b o (k1 b o e), fun b o e _ => k2 b o (k1 b o e)⟩
  have hne : s.heap.objs.size ≠ H.objs.size := fun e => by rw [← e] at hCs hns₁; exact absurd (Heap.lt_size hDs) (by rw [e]; exact Nat.lt_irrefl _)
  have Y : St prog w h₀ hb W H.objs.size (fun _ => none) ((s.heap.objs.size, .lst []) :: O) h₁ := by
    have X₂ := X.other (V := []) kp (fun _ q => nomatch q) fun _ q => nomatch q
    refine ⟨⟨hns₁, X₂.fr.keep, X₁.big⟩, X₂.chg, ?_, ?_, ?_⟩
    · intro p hp
      rcases List.mem_cons.mp hp with rfl | hp
      · exact ⟨⟨0, k2 _ _ hDs⟩, X.big⟩
      · exact X₂.objs p hp
    · refine List.nodup_cons.mpr ⟨fun q => ?_, List.nodup_cons.mpr ⟨fun q => X.fresh (.tail _ q), (List.nodup_cons.mp X.nodup).2⟩⟩
      rcases List.mem_cons.mp q with q | q
      · exact hne q.symm
      · obtain ⟨o, ho⟩ := X.all _ (.tail _ q)
        rw [hCs] at ho; cases ho
    · intro b q
      rcases List.mem_cons.mp q with rfl | q
      · exact .inr (X.chg.none hCs)
      · rcases List.mem_cons.mp q with rfl | q
        · exact .inr (X.chg.none hD)
        · exact X.may b (.tail _ q)
  exact comp_core_u (s₀ := s) (cenv := compEnvC scope cl H.objs.size env) hg ha (rule _ _) (emono _ _) X T (fun b o e => k2 b o (k1 b o e)) hCs Y
    (fun b q => by
      rcases List.mem_cons.mp q with rfl | q
      · exact .inr hD
      · exact .inl q) (J _) (j0 _ hD) (step _ _ hCs) (fun m₁ O₁ h tk hJ X₁ => done _ m₁ O₁ h tk hJ X₁) rfl hek hel

end
end Mine
end

section
open PySem PySem.W PySem.Calls PyProof.Rows
set_option maxRecDepth 100000
namespace Mine
section
variable {prog : Program} {w : World} {h₀ hb : Heap} {W : List Addr} {a d L : Addr} {m : Str → Option Value} {O : List (Addr × AO)} {A : Around} {E : Value → Shared → Prop} {s : Shared} {env : Env}
/-! cells -/
theorem eC {i : Nat} {c : Addr} {n : Str} {pos : Pos} {v : Value} {Q : Value → Shared → Prop} (x : St prog w h₀ hb W L m O s.heap) (hv : O[i]? = some (c, .cell (some v))) (hc : env.cells.lookup n = some c) (h : Q v s)
    (hk : env.scope.kind = .function := by rfl) (hl : env.kindOf n = some .cell := by rfl) (hd : (n == ("__debug__" : Str)) = false := by decide) : wpAny (model prog w) A (eval (.Name n pos) env) Q E s :=
  wpAny_Name (wpAny_loadName_cell hk hl hc (x.get hv) h) hd
theorem sC {i : Nat} {c : Addr} {n : Str} {v₀ : Option Value} {v : Value} {Q : Unit → Shared → Prop} (x : St prog w h₀ hb W L m O s.heap) (hv : O[i]? = some (c, .cell v₀)) (hc : env.cells.lookup n = some c)
    (h : ∀ h', St prog w h₀ hb W L m (O.set i (c, .cell (some v))) h' → Q () { s with heap := h' }) (hk : env.scope.kind = .function := by rfl) (hl : env.kindOf n = some .cell := by rfl) : wpAny (model prog w) A (storeName env n v) Q E s :=
  wpAny_storeName_cell hk hl hc (x.get hv) fun h' hv' hs => h h' (x.put hv hs hv')
/-! dicts -/
theorem isD_len {κ : Type} {emb : κ → List (Str ⊕ Int)} {c : List (κ × Int)} {Q : Value → Shared → Prop} (x : IsD prog w emb s.heap d c) (hz : c.length ≤ 1000) (h : ∀ t tk, Q (.int (c.length : Int) t) { s with toks := tk }) :
    wpAny (model prog w) A (call (.builtin "len") [.ref d]) Q E s := by
  have hT := isD_type x
  obtain ⟨lo, xs, ⟨o, es, ep, ho, hc, hdat, he, _⟩, hh⟩ := x
  have hes : es.size = c.length := by rw [← Array.length_toList, he, List.length_map, hh.length]
  refine Calls.call_function_entry kind_len plain_len entry_len (args_len1 _) ?_
  unfold Builtin.«len»
  refine wpAny_bind (m := oneArg "len" _) (wpAny_pure ?_)
  refine wpAny_bind (m := callSpecial? (.ref d) (Str.ofString "__len__")) (wpAny_callSpecial?_slot (name := Str.ofString "__len__") hT F.slot_dict_len
    (wpAny_call_entry F.slot_dict_len hT F.entry_dict_len ?_ (F.args_dict_len_1 _)))
  show wpAny _ _ (dictSize d >>= _) _ _ s
  unfold dictSize
  refine wpAny_bind (wpAny_bind (wpAny_dictEntries ho hdat (wpAny_pure ?_)))
  show wpAny _ _ (Builtin.Dict.pendingCount d >>= _) _ _ s
  refine wpAny_bind (wpAny_pendingCount_other lo ?_)
  refine wpAny_ret_mkInt ?_
  rw [hes, show ((c.length : Int) + ((0 : Nat) : Int)) = (c.length : Int) by omega]
  refine wpAny_bind (wpAny_holding (wpAny_pure ?_))
  refine wpAny_bind (wpAny_letGo ?_)
  show wpAny _ _ (if ((c.length : Nat) : Int) < 0 then _ else _) _ _ _
  rw [if_neg (by omega)]
  show wpAny _ _ (if ((c.length : Nat) : Int) ≥ 2 ^ 63 then _ else _) _ _ _
  rw [if_neg (by omega)]
  exact wpAny_bind (wpAny_mkInt (wpAny_pure ⟨_, rfl, h _ _⟩))
end
end Mine
end

section
open PySem PySem.W PySem.Calls PyProof.Rows
set_option maxRecDepth 100000
namespace Mine
section
variable {prog : Program} {w : World} {h₀ hb : Heap} {W : List Addr} {a d L : Addr} {m : Str → Option Value} {O : List (Addr × AO)} {A : Around} {E : Value → Shared → Prop} {s : Shared} {env : Env}
/-! {key: int}, the key a tuple -/
theorem dict_one {κ : Type} [DecidableEq κ] {emb : κ → List (Str ⊕ Int)} {key val : PySem.Expr} {pos : Pos} {Q : Value → Shared → Prop} (inj : ∀ a b, emb a = emb b → a = b) (hu : A.units + 1 < cLine) (lo : (s.heap.objs.size == sysModules) = false)
    (h : wpAny (model prog w) A (eval key env) (fun kv s₁ => wpAny (model prog w) A (eval val env) (fun vv s₂ => ∃ T k n t, kv = .ref T ∧ vv = .int n t ∧ IsTupleKey (mix prog w) s₂.heap (emb k) T ∧ s₂.heap.get? s.heap.objs.size = some { cls := .type "dict", data := .dict #[] } ∧
      ∀ h' tk, IsD prog w emb h' s.heap.objs.size [(k, n)] → Heap.SameBut s.heap.objs.size s₂.heap h' → Q (.ref s.heap.objs.size) { s₂ with heap := h', toks := tk }) E s₁) E { s with heap := s.heap.push { cls := .type "dict", data := .dict #[] } }) :
    wpAny (model prog w) A (eval (.Dict [some key] [val] pos) env) Q E s := by
  refine wpAny_Dict_any rfl rfl (by simp) (by show 1 ≤ 15; decide) ?_
  refine evalPairs_cons (wpAny_mono h (fun kv s₁ h₁ => wpAny_bind (wpAny_mono h₁ (fun vv s₂ h₂ => wpAny_bind (wpAny_standAt (wpAny_pure (evalPairs_nil ?_)))) fun _ _ e => e)) fun _ _ e => e)
  obtain ⟨T, k, n, t, rfl, rfl, hk, hg, hq⟩ := h₂
  unfold storeAll
  rw [List.forIn_cons]
  have hx : s₂.heap.DictOfH (tupleKind (mix prog w)) s.heap.objs.size [] := ⟨_, #[], 0, hg, ⟨rfl, rfl, rfl⟩, rfl, by simp, fun _ q => (List.not_mem_nil q).elim, List.nodup_nil⟩
  refine wpAny_bind (wpAny_bind (wpAny_dictSet_heap (knd := tupleKind (mix prog w)) (k := emb k) (hsz := by size_fits) (show A.units < cLine by omega) hk hx fun h' hm hs => wpAny_pure ?_))
  dsimp only
  rw [List.forIn_nil]
  refine wpAny_pure (hq h' _ ⟨lo, _, hm, ?_⟩ hs)
  have := Holds2.stored (emb := emb) (c := []) inj (.nil) k T n t
  exact this
/-! dict(d), copied -/
theorem hash_inj : ∀ p ∈ (List.range 4).flatMap (fun i => (List.range 4).map fun j => (i, j)), ∀ q ∈ (List.range 4).flatMap (fun i => (List.range 4).map fun j => (i, j)),
    reduceHash (Builtin.Tuple.tupleHashOf [hashInt (p.1 : Nat), hashInt (p.2 : Nat)]) = reduceHash (Builtin.Tuple.tupleHashOf [hashInt (q.1 : Nat), hashInt (q.2 : Nat)]) → p = q := by decide +kernel
theorem hash_inj4 {p q : Int × Int} (hp : (0 ≤ p.1 ∧ p.1 < 4) ∧ (0 ≤ p.2 ∧ p.2 < 4)) (hq : (0 ≤ q.1 ∧ q.1 < 4) ∧ (0 ≤ q.2 ∧ q.2 < 4)) (h : tupleKeyHash (mix prog w) (key2 p) = tupleKeyHash (mix prog w) (key2 q)) : p = q := by
  have mem : ∀ r : Int × Int, ((0 ≤ r.1 ∧ r.1 < 4) ∧ (0 ≤ r.2 ∧ r.2 < 4)) → (r.1.toNat, r.2.toNat) ∈ (List.range 4).flatMap (fun i => (List.range 4).map fun j => (i, j)) := fun r hr =>
    List.mem_flatMap.mpr ⟨r.1.toNat, List.mem_range.mpr (by omega), List.mem_map.mpr ⟨r.2.toNat, List.mem_range.mpr (by omega), rfl⟩⟩
  have e : ∀ r : Int × Int, ((0 ≤ r.1 ∧ r.1 < 4) ∧ (0 ≤ r.2 ∧ r.2 < 4)) → tupleKeyHash (mix prog w) (key2 r) = reduceHash (Builtin.Tuple.tupleHashOf [hashInt (r.1.toNat : Nat), hashInt (r.2.toNat : Nat)]) := fun r hr => by
    have e1 : ((r.1.toNat : Nat) : Int) = r.1 := by omega
    have e2 : ((r.2.toNat : Nat) : Int) = r.2 := by omega
    rw [e1, e2]; rfl
  rw [e p hp, e q hq] at h
  have := hash_inj _ (mem p hp) _ (mem q hq) h
  have h1 := congrArg Prod.fst this
  have h2 := congrArg Prod.snd this
  dsimp only at h1 h2
  exact Prod.ext (by omega) (by omega)
theorem filter_one {α : Type} {f : α → Int} {v : Int} : ∀ {l : List α}, l.Pairwise (fun a b => f a ≠ f b) → (l.filter fun a => f a == v).length ≤ 1
  | [], _ => Nat.zero_le _
  | a :: l, h => by
    obtain ⟨h1, h2⟩ := List.pairwise_cons.mp h
    rw [List.filter_cons]
    split
    · rename_i q
      have : l.filter (fun a => f a == v) = [] := List.filter_eq_nil_iff.mpr fun b hb e => h1 b hb ((beq_iff_eq.mp q).trans (beq_iff_eq.mp e).symm)
      rw [this]; exact Nat.le_refl _
    · exact filter_one h2
theorem quiet_tuple {a : Addr} {Q : Bool → Shared → Prop} (hT : s.TypeIs (.ref a) "tuple") (h : Q false s) : wpAny (model prog w) A (Builtin.Dict.quietEq (.ref a)) Q E s := by
  unfold Builtin.Dict.quietEq
  exact wpAny_bind (wpAny_specialOf hT F.slot_tuple_eq.lookup (wpAny_pure h))
theorem entries_tuples {id : String} {o : Obj} {es : Array DictEntry} {ep : Nat} {Q : Array DictEntry → Shared → Prop} (ho : s.heap.get? d = some o) (hd : o.data = .dict es ep) (hk : ∀ e ∈ es, ∃ a, e.key = .ref a ∧ s.TypeIs (.ref a) "tuple")
    (hp : es.toList.Pairwise (fun a b => a.hash ≠ b.hash)) (h : Q es s) : wpAny (model prog w) A (Builtin.Dict.entriesForEmpty id d) Q E s := by
  unfold Builtin.Dict.entriesForEmpty
  refine wpAny_bind (wpAny_dictEntries ho hd ?_)
  rw [← Array.forIn_toList]
  refine wpAny_bind (wpAny_forIn_list _ (fun rest _ s' => s' = s ∧ ∀ e ∈ rest, e ∈ es) _ ?_ ?_ _ _ ⟨rfl, fun e he => Array.mem_toList_iff.mp he⟩)
  · rintro e rest b s' ⟨rfl, hr⟩
    obtain ⟨a, ha, hT⟩ := hk e (hr e (.head _))
    rw [ha]
    refine wpAny_bind (quiet_tuple hT ?_)
    have hone : ¬ (es.filter fun x => x.hash == e.hash).size > 1 := by
      have := filter_one (v := e.hash) hp
      rw [← Array.length_toList, Array.toList_filter]
      omega
    simp only [Bool.not_false, if_true]
    rw [if_neg hone]
    exact wpAny_pure ⟨rfl, fun x hx => hr x (.tail _ hx)⟩
  · rintro b s' ⟨rfl, _⟩
    exact wpAny_pure h
theorem isD_copy {c : List ((Int × Int) × Int)} {Q : Value → Shared → Prop} (x : IsD prog w key2 s.heap d c) (hne : c ≠ []) (h4 : ∀ p ∈ c, (0 ≤ p.1.1 ∧ p.1.1 < 4) ∧ (0 ≤ p.1.2 ∧ p.1.2 < 4)) (hz : c.length ≤ 900) (lo' : (s.heap.objs.size == sysModules) = false)
    (h : ∀ h', IsD prog w key2 h' s.heap.objs.size c → Heap.SameBut s.heap.objs.size (s.heap.push { cls := .type "dict", data := .dict #[] }) h' → Q (.ref s.heap.objs.size) { s with heap := h' }) :
    wpAny (model prog w) A (call (.type "dict") [.ref d]) Q E s := by
  refine callType_codes (Q₁ := fun obj s₁ => obj = .ref s.heap.objs.size ∧ s₁ = { s with heap := s.heap.push { cls := .type "dict", data := .dict #[] } }) F.kt_called_dict (F.kt_typeCall_dict_1 _) F.entry_dict_init (kt_code_dict_new _ ⟨rfl, rfl⟩) ?_
  rintro obj s₁ ⟨rfl, rfl⟩
  have hnew : (s.heap.push { cls := .type "dict", data := .dict #[] }).get? s.heap.objs.size = some { cls := .type "dict", data := .dict #[] } := Heap.get?_push_size _ rfl
  have hnewT : ({ s with heap := s.heap.push { cls := .type "dict", data := .dict #[] } } : Shared).TypeIs (.ref s.heap.objs.size) "dict" := ⟨_, hnew, rfl⟩
  have x' : IsD prog w key2 (s.heap.push { cls := .type "dict", data := .dict #[] }) d c := x.chg (h₀ := s.heap) (W := []) (.push _) fun q => nomatch q
  have hT := isD_type (s := { s with heap := s.heap.push { cls := .type "dict", data := .dict #[] } }) x'
  have hdo : s.heap.objs.size ≠ d := fun e => by
    obtain ⟨o, ho⟩ := x.here
    exact absurd (Heap.lt_size ho) (by rw [← e]; exact Nat.lt_irrefl _)
  obtain ⟨lo, xs, ⟨o, es, ep, ho, hc, hdat, he, hk, hn⟩, hh⟩ := x'
  refine ⟨hnewT, F.args_dict_init_2 _ _, ?_⟩
  unfold Builtin.«dict.__init__»
  refine wpAny_bind ?_
  unfold Builtin.Dict.selfAndRest
  refine wpAny_bind (wpAny_notOrdered_dict hnewT ?_)
  show wpAny _ _ (pure (s.heap.objs.size, [Value.ref d])) _ _ _
  refine wpAny_pure ?_
  show wpAny _ _ (Builtin.Dict.updateFrom "dict.__init__" s.heap.objs.size (.ref d) [] .none) _ _ _
  unfold Builtin.Dict.updateFrom
  refine wpAny_bind (wpAny_typeOf hT ?_)
  rw [if_neg (by decide)]
  refine wpAny_bind ?_
  unfold Builtin.Dict.merge
  refine wpAny_bind ?_
  unfold Builtin.Dict.readDirectly
  refine wpAny_bind (wpAny_isInstance hT isSubtype_dict_dict ?_)
  simp only [Bool.not_true, Bool.false_eq_true, if_false]
  refine wpAny_bind (wpAny_specialOf hT F.slot_dict_iter.lookup (wpAny_pure ?_))
  simp only [beq_self_eq_true, if_true]
  refine wpAny_bind (wpAny_pure ?_)
  show wpAny _ _ (Builtin.Dict.mergeDict "dict.__init__" s.heap.objs.size d) _ _ _
  unfold Builtin.Dict.mergeDict
  rw [if_neg (by simpa using hdo)]
  unfold Builtin.Dict.showsAll
  rw [if_neg (by rw [lo]; exact Bool.false_ne_true)]
  refine wpAny_bind (wpAny_pure ?_)
  refine wpAny_bind (wpAny_dictEntries ho hdat ?_)
  have hxne : xs ≠ [] := fun e => hne (List.length_eq_zero_iff.mp (by rw [← hh.length, e]; rfl))
  have hesz : es.size = c.length := by rw [← Array.length_toList, he, List.length_map, hh.length]
  have hkey : ∀ e ∈ es, ∃ a, e.key = .ref a ∧ ({ s with heap := s.heap.push { cls := .type "dict", data := .dict #[] } } : Shared).TypeIs (.ref a) "tuple" := fun e q => by
    have q' := Array.mem_toList_iff.mpr q
    rw [he] at q'
    obtain ⟨y, hy, rfl⟩ := List.mem_map.mp q'
    obtain ⟨o', items, n, ho', hc', _⟩ := hk y hy
    exact ⟨y.2.1, rfl, o', ho', hc'⟩
  have hfew : (decide (es.size ≤ 8) && es.all fun e => (keyPart e.key).isSome) = false := by
    have hpos : 0 < es.size := by rw [hesz]; exact List.length_pos_iff.mpr hne
    obtain ⟨a, ha, _⟩ := hkey es[0] (Array.getElem_mem hpos)
    have : (es.all fun e => (keyPart e.key).isSome) = false := by
      rw [Array.all_eq_false']
      exact ⟨es[0], Array.getElem_mem hpos, by rw [ha]; exact Bool.false_ne_true⟩
    rw [this, Bool.and_false]
  dsimp only
  rw [hfew]
  simp only [Bool.not_false, if_true]
  refine wpAny_bind (wpAny_dictEntries hnew rfl ?_)
  rw [if_pos (by rfl)]
  have hpw : es.toList.Pairwise (fun a b => a.hash ≠ b.hash) := by
    rw [he, List.pairwise_map]
    refine List.pairwise_iff_getElem.mpr fun i j hi hj hij e => ?_
    have hci : i < c.length := by rw [← hh.length]; exact hi
    have hcj : j < c.length := by rw [← hh.length]; exact hj
    obtain ⟨a1, t1, g1⟩ := hh.get (i := i) (k := c[i].1) (n := c[i].2) (by simp [hci])
    obtain ⟨a2, t2, g2⟩ := hh.get (i := j) (k := c[j].1) (n := c[j].2) (by simp [hcj])
    rw [List.getElem?_eq_getElem hi] at g1
    rw [List.getElem?_eq_getElem hj] at g2
    rw [Option.some.inj g1, Option.some.inj g2] at e
    have e3 : c[i].1 = c[j].1 := hash_inj4 (prog := prog) (w := w) (h4 _ (List.getElem_mem hci)) (h4 _ (List.getElem_mem hcj)) e
    have hnd := x.nodup key2_inj
    have := (List.getElem?_inj (show i < (c.map (·.1)).length by rw [List.length_map]; exact hci) hnd).mp (show (c.map (·.1))[i]? = (c.map (·.1))[j]? by rw [List.getElem?_map, List.getElem?_map, List.getElem?_eq_getElem hci, List.getElem?_eq_getElem hcj]; simp [e3])
    omega
  refine wpAny_bind (entries_tuples ho hdat hkey hpw ?_)
  have hnemp : es.isEmpty = false := by
    have hpos : 0 < es.size := by rw [hesz]; exact List.length_pos_iff.mpr hne
    cases hq : es.isEmpty with
    | false => rfl
    | true => rw [Array.isEmpty_iff.mp hq] at hpos; exact absurd hpos (Nat.lt_irrefl _)
  rw [hnemp]
  simp only [Bool.not_false, if_true]
  refine wpAny_bind (wpAny_updateDictKeysTo hnew rfl (wpAny_pure ?_) (by rw [hesz, sizeLine_eq]; omega))
  show wpAny _ _ (Builtin.Dict.addKeywords s.heap.objs.size [] >>= _) _ _ _
  refine wpAny_bind (wpAny_pure (wpAny_pure ⟨rfl, h _ ⟨lo', xs, ⟨_, es, 0 + 1, Heap.get?_update_self _ hnew (Obj.isFreed_of_dict (Obj.data_mapDictKeys rfl _)), ?_, Obj.data_mapDictKeys rfl _, he, ?_, hn⟩, hh⟩ (Heap.SameBut.update ..)⟩))
  · exact (show Obj.ExactDict { cls := .type "dict", data := .dict #[] } from ⟨rfl, rfl, rfl⟩).mapDictKeys _
  · intro y hy
    exact key_chg (h₀ := s.heap) (W := [s.heap.objs.size]) (hk y hy) (.same (Heap.SameBut.update ..) (fun o ho' => by rw [hnew] at ho'; cases ho'; rintro ⟨hc', _⟩; exact absurd hc' (by decide)) (Nat.le_refl _))
end
end Mine
end

section
open PySem PySem.W PySem.Calls PyProof.Rows
set_option maxRecDepth 100000
namespace Mine
section
variable {prog : Program} {w : World} {h₀ hb : Heap} {W : List Addr} {a d L : Addr} {m : Str → Option Value} {O : List (Addr × AO)} {A : Around} {E : Value → Shared → Prop} {s : Shared} {env : Env}
theorem all_true (n : Nat) : ((List.range n).all fun _ => true) = true := by simp
/-- two lists of the same ints -/
theorem ints_ne {b : Addr} {vs us : List Value} {ns : List Int} {Q : Value → Shared → Prop} (hu : A.units < cLine) (x : s.heap.IsList a vs.toArray) (y : s.heap.IsList b us.toArray) (hx : IntsAre vs ns) (hy : IntsAre us ns) (h : Q (.bool false) s) :
    wpAny (model prog w) A (compareOp .NotEq (.ref a) (.ref b)) Q E s := by
  have hl : vs.toArray.size = us.toArray.size := by rw [List.size_toArray, List.size_toArray, intsAre_len hx, intsAre_len hy]
  refine cmp_ofNotEq (SeqAt.RcNeAt.lists (e := fun _ => true) x y hl hu (fun j h1 h2 => ?_) prog w E Q ?_)
  · have hj : j < ns.length := by rw [← intsAre_len hx]; simpa using h1
    obtain ⟨t, e1⟩ := intsAre_get hx (List.getElem?_eq_getElem hj)
    obtain ⟨u, e2⟩ := intsAre_get hy (List.getElem?_eq_getElem hj)
    have f1 : vs.toArray[j] = .int ns[j] t := by
      rw [List.getElem?_eq_getElem (by simpa using h1)] at e1; simpa using e1
    have f2 : us.toArray[j] = .int ns[j] u := by
      rw [List.getElem?_eq_getElem (by simpa using h2)] at e2; simpa using e2
    rw [f1, f2]
    have := SeqAt.EqAt.int_int (A := A.in1) (s := s) ns[j] t ns[j] u
    rwa [beq_self_eq_true] at this
  · rw [all_true]; exact h
/-- two lists of the same pairs -/
theorem pairs_eq {b : Addr} {vs us : List Value} {ps : List (Int × Int)} {Q : Value → Shared → Prop} (hu : A.units + 2 < cLine) (x : s.heap.IsList a vs.toArray) (y : s.heap.IsList b us.toArray) (hx : Prs s.heap vs ps) (hy : Prs s.heap us ps) (h : Q (.bool true) s) :
    wpAny (model prog w) A (compareOp .Eq (.ref a) (.ref b)) Q E s := by
  have hl : vs.toArray.size = us.toArray.size := by rw [List.size_toArray, List.size_toArray, hx.len, hy.len]
  refine cmp_ofEq (SeqAt.RcAt.lists (e := fun _ => true) x y hl (by omega) (fun j h1 h2 => ?_) prog w E Q ?_)
  · have hj : j < ps.length := by rw [← hx.len]; simpa using h1
    obtain ⟨v, e1, a1, t, u, rfl, p1⟩ := hx.get (List.getElem?_eq_getElem hj)
    obtain ⟨v', e2, a2, t', u', rfl, p2⟩ := hy.get (List.getElem?_eq_getElem hj)
    have f1 : vs.toArray[j] = .ref a1 := by
      rw [List.getElem?_eq_getElem (by simpa using h1)] at e1; simpa using e1
    have f2 : us.toArray[j] = .ref a2 := by
      rw [List.getElem?_eq_getElem (by simpa using h2)] at e2; simpa using e2
    rw [f1, f2]
    by_cases q : a1 = a2
    · subst q; exact SeqAt.EqAt.same _
    · refine SeqAt.EqAt.of_refs q ?_
      have r := SeqAt.RcAt.tuples (A := A.in1) (s := s) (e := fun _ => true) p1 p2 (show A.units + 1 < cLine by omega) fun i i1 i2 => ?_
      · have e3 : ((List.range (min (#[Value.int ps[j].1 t, .int ps[j].2 u] : Array Value).size (#[Value.int ps[j].1 t', .int ps[j].2 u'] : Array Value).size)).all (fun _ => true) && (#[Value.int ps[j].1 t, .int ps[j].2 u] : Array Value).size == (#[Value.int ps[j].1 t', .int ps[j].2 u'] : Array Value).size) = true := rfl
        rw [e3] at r; exact r
      · have hi : i < 2 := i1
        have go : ∀ (n : Int) (t u : Tok), SeqAt.EqAt A.in1.in1 s (.int n t) (.int n u) true := fun n t u => by
          have := SeqAt.EqAt.int_int (A := A.in1.in1) (s := s) n t n u
          rwa [beq_self_eq_true] at this
        match i, hi with
        | 0, _ => exact go _ _ _
        | 1, _ => exact go _ _ _
  · rw [all_true]; exact h
/-- the sum of a list of ints -/
theorem sum_list {vs : List Value} {ns : List Int} {Q : Value → Shared → Prop} (hh : A.handled = none) (x : s.heap.IsList d vs.toArray) (hx : IntsAre vs ns)
    (h : ∀ h' tk t, (∀ b o, s.heap.get? b = some o → h'.get? b = some o) → Q (.int ns.sum t) { s with heap := h', toks := tk }) : wpAny (model prog w) A (call (.builtin "sum") [.ref d]) Q E s := by
  refine call_sum_walkG (wpAny_pyIter_list x ?_)
  obtain ⟨o, ho, _⟩ := id x
  have hlt : d < s.heap.objs.size := Heap.lt_size ho
  refine ⟨s.heap.objs.size, _, _, _, _, _, fun i => ns.getD i 0, rfl, Walks.list (prog := prog) (w := w) (A := A.in1) hh s.heap.objs.size d (Nat.ne_of_lt hlt) vs.toArray, ⟨⟨_, Heap.get?_push_size _ rfl, rfl, rfl⟩, x.at fun o e => Heap.get?_push_of_some _ e⟩, ?_, ?_, ?_⟩
  · intro b q
    dsimp only
    rw [Heap.size_push]
    rcases List.mem_cons.mp q with rfl | q
    · exact Nat.lt_succ_self _
    · rw [List.mem_singleton.mp q]; exact Nat.lt_succ_of_lt hlt
  · intro i v hv
    have hv' : vs[i]? = some v := by simpa using hv
    have hi : i < ns.length := by rw [← intsAre_len hx]; exact (List.getElem?_eq_some_iff.mp hv').1
    obtain ⟨t, e⟩ := intsAre_get hx (List.getElem?_eq_getElem hi)
    rw [hv'] at e
    refine ⟨t, ?_⟩
    rw [Option.some.inj e]
    simp [hi]
  · intro h' tk t' k
    have e : preSum (fun i => ns.getD i 0) vs.toArray.size = ns.sum := by
      have gen : ∀ k, k ≤ ns.length → preSum (fun i => ns.getD i 0) k = (ns.take k).sum := by
        intro k
        induction k with
        | zero => intro _; rfl
        | succ k ih =>
          intro hk
          rw [preSum, ih (by omega), List.take_succ_eq_append_getElem (by omega), List.sum_append]
          simp [show k < ns.length by omega]
      rw [List.size_toArray, intsAre_len hx, gen _ (Nat.le_refl _), List.take_length]
    rw [e]
    refine h h' tk t' fun b o e => k b o (fun q => ?_) (Heap.get?_push_of_some _ e)
    rw [List.mem_singleton.mp q] at e
    exact absurd (Heap.lt_size e) (Nat.lt_irrefl _)
end
end Mine
end

section
open PySem PySem.W PySem.Calls PyProof.Rows
set_option maxRecDepth 100000
namespace Mine
/-! The decision tree of sorting, its questions answered by the order of pairs. -/
def ple (a b : Int × Int) : Prop := plt b a = false
theorem ple_trans {a b c : Int × Int} (h : ple a b) (k : ple b c) : ple a c := by
  unfold ple at *
  cases e : plt c a with
  | false => rfl
  | true =>
    by_cases q : a = b
    · subst q; rw [e] at k; cases k
    · have := plt_total h (fun z => q z.symm)
      rw [plt_trans e this] at k; cases k
theorem ple_refl (a : Int × Int) : ple a a := plt_irrefl
theorem ple_antisymm {a b : Int × Int} (h : ple a b) (k : ple b a) : a = b := by
  by_cases q : a = b
  · exact q
  · have := plt_total h (fun z => q z.symm)
    rw [k] at this; cases this
theorem plt_ple {a b : Int × Int} (h : plt a b = true) : ple a b := by
  unfold ple
  cases e : plt b a with
  | false => rfl
  | true => have := plt_trans h e; rw [plt_irrefl] at this; cases this
section
variable {cmp : Nat → Nat → (Bool → Shared → Prop) → Shared → Prop} {K : Nat → Int × Int} {n : Nat} {s : Shared}
theorem kas_go_true {α : Type} {T₁ T₂ : KasT α} {Q : α → Shared → Prop} (h : T₁.kasWp cmp Q s) : (if true = true then T₁ else T₂).kasWp cmp Q s := by rw [if_pos rfl]; exact h
theorem kas_go_false {α : Type} {T₁ T₂ : KasT α} {Q : α → Shared → Prop} (h : T₂.kasWp cmp Q s) : (if false = true then T₁ else T₂).kasWp cmp Q s := by rw [if_neg Bool.false_ne_true]; exact h
structure Ans (cmp : Nat → Nat → (Bool → Shared → Prop) → Shared → Prop) (K : Nat → Int × Int) (n : Nat) (s : Shared) : Prop where
  ans : ∀ i j C, i < n → j < n → C (plt (K i) (K j)) s → cmp i j C s
structure Gd (p : Array Nat) (n : Nat) : Prop where
  perm : p.toList.Perm (List.range n)
def kp (K : Nat → Int × Int) (p : Array Nat) (i : Nat) : Int × Int := K (p.getD i 0)
theorem Gd.size {p : Array Nat} (g : Gd p n) : p.size = n := by have := g.perm.length_eq; simpa using this
theorem getD_eq {p : Array Nat} {i : Nat} (h : i < p.size) : p.getD i 0 = p[i] := by simp [h]
theorem Gd.lt {p : Array Nat} (g : Gd p n) {i : Nat} (h : i < n) : p.getD i 0 < n := by
  have h' : i < p.size := by rw [g.size]; exact h
  rw [getD_eq h']
  exact List.mem_range.mp (g.perm.subset (by simp))
theorem kp_get? {p : Array Nat} {i : Nat} : kp K p i = K ((p[i]?).getD 0) := by unfold kp; simp [Array.getD_eq_getD_getElem?]
def Asc (K : Nat → Int × Int) (p : Array Nat) (m : Nat) : Prop := ∀ i, 1 ≤ i → i < m → ple (kp K p (i - 1)) (kp K p i)
def Dsc (K : Nat → Int × Int) (p : Array Nat) (m : Nat) : Prop := ∀ i, 1 ≤ i → i < m → ple (kp K p i) (kp K p (i - 1))
theorem Gd.rev {p : Array Nat} (g : Gd p n) (i j : Nat) : Gd (kas_rev p i j) n := ⟨(mirror_perm p i j _).toList.trans g.perm⟩
theorem Gd.bub {p : Array Nat} (g : Gd p n) (i j : Nat) : Gd (bubble p i j) n := ⟨(bubble_perm p i j).toList.trans g.perm⟩
theorem kp_rev {p : Array Nat} (g : Gd p n) {i j : Nat} (hj : j ≤ n) (k : Nat) : kp K (kas_rev p i j) k = if i ≤ k ∧ k < j then kp K p (i + j - 1 - k) else kp K p k := by
  rw [kp_get?, kas_rev, getElem?_mirror_all (by rw [g.size]; exact hj)]
  split <;> rw [kp_get?]
theorem kp_bub {p : Array Nat} (g : Gd p n) {src d : Nat} (hs : src < n) (hd : d ≤ src) (k : Nat) : kp K (bubble p src d) k = if k = src - d then kp K p src else if src - d < k ∧ k ≤ src then kp K p (k - 1) else kp K p k := by
  rw [kp_get?, getElem?_bubble (by rw [g.size]; exact hs) d hd]
  split
  · rw [kp_get?]
  · split <;> rw [kp_get?]
theorem asc_ok (c : Ans cmp K n s) {p : Array Nat} (g : Gd p n) {Q : Nat → Shared → Prop} : ∀ (f k : Nat), 1 ≤ k → k + f ≤ n →
    (∀ m, k ≤ m → m ≤ k + f → (∀ i, k ≤ i → i < m → ple (kp K p (i - 1)) (kp K p i)) → (m < k + f → plt (kp K p m) (kp K p (m - 1)) = true) → Q m s) → (kas_asc p f k).kasWp cmp Q s
  | 0, k, h1, hk, h => h k (Nat.le_refl _) (Nat.le_refl _) (fun i a b => absurd b (Nat.not_lt.mpr a)) fun a => absurd a (Nat.lt_irrefl _)
  | f + 1, k, h1, hk, h => by
    refine c.ans _ _ _ (g.lt (by omega)) (g.lt (by omega)) ?_
    cases e : plt (K (p.getD k 0)) (K (p.getD (k - 1) 0)) with
    | true => exact kas_go_true (h k (Nat.le_refl _) (Nat.le_add_right _ _) (fun i a b => absurd b (Nat.not_lt.mpr a)) fun _ => e)
    | false =>
      refine kas_go_false (asc_ok c g f (k + 1) (by omega) (by omega) fun m a b q st => h m (by omega) (by omega) (fun i i1 i2 => ?_) fun z => st (by omega))
      by_cases z : i = k
      · subst z; exact e
      · exact q i (by omega) i2
theorem desc_ok (c : Ans cmp K n s) {Q : Array Nat × Nat × Nat → Shared → Prop} : ∀ (f : Nat) (p : Array Nat) (k q : Nat), Gd p n → q + 1 ≤ k → k + f ≤ n → Dsc K p k → (∀ i, k - q ≤ i → i < k → kp K p i = kp K p (i - 1)) →
    (∀ p' m q', Gd p' n → q' + 1 ≤ m → m ≤ k + f → Dsc K p' m → (∀ i, m - q' ≤ i → i < m → kp K p' i = kp K p' (i - 1)) → Q (p', m, q') s) → (kas_desc f p k q).kasWp cmp Q s
  | 0, p, k, q, g, hq, hk, hd, he, h => h p k q g hq (Nat.le_refl _) hd he
  | f + 1, p, k, q, g, hq, hk, hd, he, h => by
    refine c.ans _ _ _ (g.lt (by omega)) (g.lt (by omega)) ?_
    cases e : plt (K (p.getD k 0)) (K (p.getD (k - 1) 0)) with
    | true =>
      refine kas_go_true ?_
      have up : Dsc K p (k + 1) := fun i i1 i2 => by
        by_cases z : i = k
        · subst z; exact plt_ple e
        · exact hd i i1 (by omega)
      by_cases hq0 : q > 0
      · rw [if_pos hq0]
        have seg : ∀ j, j < q + 1 → kp K p (k - 1 - j) = kp K p (k - 1) := by
          intro j
          induction j with
          | zero => intro _; rfl
          | succ j ih =>
            intro hj
            rw [← ih (by omega)]
            have := he (k - 1 - j) (by omega) (by omega)
            rw [this]
            congr 1
        have same : ∀ i, kp K (kas_rev p (k - (q + 1)) k) i = kp K p i := fun i => by
          rw [kp_rev g (by omega)]
          split
          · rename_i hi
            have e1 := seg (k - 1 - (k - (q + 1) + k - 1 - i)) (by omega)
            have e2 := seg (k - 1 - i) (by omega)
            rw [show k - 1 - (k - 1 - (k - (q + 1) + k - 1 - i)) = k - (q + 1) + k - 1 - i by omega] at e1
            rw [show k - 1 - (k - 1 - i) = i by omega] at e2
            rw [e1, e2]
          · rfl
        refine desc_ok c f _ (k + 1) 0 (g.rev _ _) (by omega) (by omega) (fun i i1 i2 => ?_) (fun i i1 i2 => by omega) fun p' m q' a b d e1 e2 => h p' m q' a b (by omega) e1 e2
        rw [same, same]
        exact up i i1 i2
      · rw [if_neg hq0]
        exact desc_ok c f _ (k + 1) 0 g (by omega) (by omega) up (fun i i1 i2 => by omega) fun p' m q' a b d e1 e2 => h p' m q' a b (by omega) e1 e2
    | false =>
      refine kas_go_false ?_
      refine c.ans _ _ _ (g.lt (by omega)) (g.lt (by omega)) ?_
      cases e' : plt (K (p.getD (k - 1) 0)) (K (p.getD k 0)) with
      | true => exact kas_go_true (h p k q g hq (by omega) hd he)
      | false =>
        have eq : kp K p k = kp K p (k - 1) := ple_antisymm e' e
        refine kas_go_false (desc_ok c f p (k + 1) (q + 1) g (by omega) (by omega) (fun i i1 i2 => ?_) (fun i i1 i2 => ?_) fun p' m q' a b d e1 e2 => h p' m q' a b (by omega) e1 e2)
        · by_cases z : i = k
          · subst z; exact e'
          · exact hd i i1 (by omega)
        · by_cases z : i = k
          · subst z; exact eq
          · exact he i (by omega) (by omega)
theorem tail_ok (c : Ans cmp K n s) {p : Array Nat} (g : Gd p n) {k : Nat} (h1 : 1 ≤ k) (hk : k ≤ n) (hd : Dsc K p k) {Q : Nat × Array Nat → Shared → Prop} (h : ∀ m p', Gd p' n → 1 ≤ m → m ≤ n → Asc K p' m → Q (m, p') s) :
    (kas_tail3 k n p).kasWp cmp Q s := by
  unfold kas_tail3
  rw [KasT.kasWp_bind]
  refine asc_ok c (g.rev 0 k) (n - k) k h1 (by omega) fun m a b q st => h m _ (g.rev 0 k) (by omega) (by omega) fun i i1 i2 => ?_
  by_cases z : k ≤ i
  · exact q i z i2
  · rw [kp_rev g hk, kp_rev g hk, if_pos (by omega), if_pos (by omega)]
    have := hd (0 + k - 1 - (i - 1)) (by omega) (by omega)
    rw [show 0 + k - 1 - (i - 1) - 1 = 0 + k - 1 - i by omega] at this
    exact this
theorem descPart_ok (c : Ans cmp K n s) {p : Array Nat} (g : Gd p n) {k : Nat} (h1 : 1 ≤ k) (hk : k + 1 ≤ n) (hd : Dsc K p (k + 1)) {Q : Nat × Array Nat → Shared → Prop} (h : ∀ m p', Gd p' n → 1 ≤ m → m ≤ n → Asc K p' m → Q (m, p') s) :
    (kas_descPart k n p).kasWp cmp Q s := by
  unfold kas_descPart
  rw [KasT.kasWp_bind]
  refine desc_ok c _ p (k + 1) 0 g (by omega) (by omega) hd (fun i a b => by omega) fun p' m q g' hq hm hd' he => ?_
  dsimp only
  by_cases hq0 : q > 0
  · rw [if_pos hq0]
    have seg : ∀ j, j < q + 1 → kp K p' (m - 1 - j) = kp K p' (m - 1) := by
      intro j
      induction j with
      | zero => intro _; rfl
      | succ j ih =>
        intro hj
        rw [← ih (by omega)]
        have := he (m - 1 - j) (by omega) (by omega)
        rw [this]
        congr 1
    have same : ∀ i, kp K (kas_rev p' (m - (q + 1)) m) i = kp K p' i := fun i => by
      rw [kp_rev g' (by omega)]
      split
      · rename_i hi
        have e1 := seg (m - 1 - (m - (q + 1) + m - 1 - i)) (by omega)
        have e2 := seg (m - 1 - i) (by omega)
        rw [show m - 1 - (m - 1 - (m - (q + 1) + m - 1 - i)) = m - (q + 1) + m - 1 - i by omega] at e1
        rw [show m - 1 - (m - 1 - i) = i by omega] at e2
        rw [e1, e2]
      · rfl
    exact tail_ok c (g'.rev _ _) (by omega) (by omega) (fun i i1 i2 => by rw [same, same]; exact hd' i i1 i2) h
  · rw [if_neg hq0]
    exact tail_ok c g' (by omega) (by omega) hd' h
theorem count_ok (c : Ans cmp K n s) {p : Array Nat} (g : Gd p n) (h1 : 1 ≤ n) {Q : Nat × Array Nat → Shared → Prop} (h : ∀ m p', Gd p' n → 1 ≤ m → m ≤ n → Asc K p' m → Q (m, p') s) : (kas_count n p).kasWp cmp Q s := by
  unfold kas_count
  rw [KasT.kasWp_bind]
  refine asc_ok c g (n - 1) 1 (Nat.le_refl _) (by omega) fun m a b q st => ?_
  have ha : Asc K p m := fun i i1 i2 => q i i1 i2
  by_cases hm : m = n
  · rw [if_pos (by simpa using hm)]
    exact h m p g a (by omega) ha
  · rw [if_neg (by simpa using hm)]
    have hlt := st (by omega)
    by_cases hm1 : m > 1
    · rw [if_pos hm1]
      refine c.ans _ _ _ (g.lt (by omega)) (g.lt (by omega)) ?_
      cases e : plt (K (p.getD 0 0)) (K (p.getD (m - 1) 0)) with
      | true => exact kas_go_true (h m p g a (by omega) ha)
      | false =>
        refine kas_go_false ?_
        have mono : ∀ j i, i ≤ j → j < m → ple (kp K p i) (kp K p j) := by
          intro j
          induction j with
          | zero => intro i hi _; rw [Nat.le_zero.mp hi]; exact ple_refl _
          | succ j ih =>
            intro i hi hj
            by_cases z : i = j + 1
            · rw [z]; exact ple_refl _
            · exact ple_trans (ih i (by omega) (by omega)) (ha (j + 1) (by omega) hj)
        have alleq : ∀ i, i < m → kp K p i = kp K p 0 := fun i hi => ple_antisymm (ple_trans (mono (m - 1) i (by omega) (by omega)) e) (mono i 0 (by omega) hi)
        have same : ∀ i, kp K (kas_rev p 0 m) i = kp K p i := fun i => by
          rw [kp_rev g (by omega)]
          split
          · rw [alleq _ (by omega), alleq i (by omega)]
          · rfl
        refine descPart_ok c (g.rev _ _) a (by omega) (fun i i1 i2 => ?_) h
        rw [same, same]
        by_cases z : i = m
        · subst z; exact plt_ple hlt
        · rw [alleq i (by omega), alleq (i - 1) (by omega)]; exact ple_refl _
    · rw [if_neg hm1]
      refine descPart_ok c g a (by omega) (fun i i1 i2 => ?_) h
      have : i = m := by omega
      subst this
      exact plt_ple hlt
theorem place_ok (c : Ans cmp K n s) {p : Array Nat} (g : Gd p n) {k : Nat} (hk : k < n) (ha : Asc K p k) {Q : Nat → Shared → Prop} : ∀ (f l r : Nat), l ≤ r → r ≤ k → r - l ≤ f → (∀ i, i < l → ple (kp K p i) (kp K p k)) → (∀ i, r ≤ i → i < k → ple (kp K p k) (kp K p i)) →
    (∀ l', l' ≤ k → (∀ i, i < l' → ple (kp K p i) (kp K p k)) → (∀ i, l' ≤ i → i < k → ple (kp K p k) (kp K p i)) → Q l' s) → (kas_place p k f l r).kasWp cmp Q s
  | 0, l, r, hlr, hr, hf, h1, h2, h => h l (by omega) h1 fun i a b => h2 i (by omega) b
  | f + 1, l, r, hlr, hr, hf, h1, h2, h => by
    have mono : ∀ j i, i ≤ j → j < k → ple (kp K p i) (kp K p j) := by
      intro j
      induction j with
      | zero => intro i hi _; rw [Nat.le_zero.mp hi]; exact ple_refl _
      | succ j ih =>
        intro i hi hj
        by_cases z : i = j + 1
        · rw [z]; exact ple_refl _
        · exact ple_trans (ih i (by omega) (by omega)) (ha (j + 1) (by omega) hj)
    show (if l ≥ r then KasT.ret l else KasT.ask (p.getD k 0) (p.getD ((l + r) / 2) 0) fun c => if c = true then kas_place p k f l ((l + r) / 2) else kas_place p k f ((l + r) / 2 + 1) r).kasWp cmp Q s
    by_cases hge : l ≥ r
    · rw [if_pos hge]
      exact h l (by omega) h1 fun i a b => h2 i (by omega) b
    · rw [if_neg hge]
      refine c.ans _ _ _ (g.lt hk) (g.lt (by omega)) ?_
      cases e : plt (K (p.getD k 0)) (K (p.getD ((l + r) / 2) 0)) with
      | true =>
        refine kas_go_true (place_ok c g hk ha f l ((l + r) / 2) (by omega) (by omega) (by omega) h1 (fun i a b => ?_) h)
        exact ple_trans (plt_ple e) (mono i _ a b)
      | false =>
        refine kas_go_false (place_ok c g hk ha f ((l + r) / 2 + 1) r (by omega) hr (by omega) (fun i a => ?_) h2 h)
        exact ple_trans (mono ((l + r) / 2) i (by omega) (by omega)) e
theorem bin_ok (c : Ans cmp K n s) {Q : Array Nat → Shared → Prop} (h : ∀ p', Gd p' n → Asc K p' n → Q p' s) : ∀ (f : Nat) (p : Array Nat) (k : Nat), Gd p n → k + f = n → Asc K p k → (kas_bin f p k).kasWp cmp Q s
  | 0, p, k, g, hk, ha => h p g (by rw [← hk]; exact ha)
  | f + 1, p, k, g, hk, ha => by
    show ((kas_place p k k 0 k).bind fun l => kas_bin f (bubble p k (k - l)) (k + 1)).kasWp cmp Q s
    rw [KasT.kasWp_bind]
    refine place_ok c g (by omega) ha k 0 k (Nat.zero_le _) (Nat.le_refl _) (by omega) (fun i a => absurd a (Nat.not_lt_zero _)) (fun i a b => absurd b (Nat.not_lt.mpr a)) fun l hl h1 h2 => ?_
    refine bin_ok c h f _ (k + 1) (g.bub _ _) (by omega) fun i i1 i2 => ?_
    rw [kp_bub g (by omega) (by omega), kp_bub g (by omega) (by omega), show k - (k - l) = l by omega]
    by_cases a : i < l
    · rw [if_neg (by omega), if_neg (by omega), if_neg (by omega), if_neg (by omega)]
      exact ha i i1 (by omega)
    · by_cases b : i = l
      · subst b
        rw [if_neg (by omega), if_neg (by omega), if_pos rfl]
        exact h1 _ (by omega)
      · by_cases d : i = l + 1
        · subst d
          rw [if_pos (by omega), if_neg (by omega), if_pos (by omega)]
          exact h2 _ (by omega) (by omega)
        · rw [if_neg (by omega), if_pos (by omega), if_neg b, if_pos (by omega)]
          exact ha (i - 1) (by omega) (by omega)
theorem sort_ok (c : Ans cmp K n s) (h1 : 1 ≤ n) {Q : Array Nat → Shared → Prop} (h : ∀ p', Gd p' n → Asc K p' n → Q p' s) : (kas_sort n).kasWp cmp Q s := by
  unfold kas_sort
  rw [KasT.kasWp_bind]
  refine count_ok c ⟨by simp⟩ h1 fun m p g a b ha => ?_
  dsimp only
  by_cases hm : m < n
  · rw [if_pos hm]
    exact bin_ok c h _ _ _ g (by omega) (by rw [Nat.max_eq_left a]; exact ha)
  · rw [if_neg hm]
    have : m = n := by omega
    subst this
    exact h p g ha
end
end Mine
end

section
open PySem PySem.W PySem.Calls PyProof.Rows
set_option maxRecDepth 100000
namespace Mine
section
variable {prog : Program} {w : World} {h₀ hb : Heap} {W : List Addr} {a d L : Addr} {m : Str → Option Value} {O : List (Addr × AO)} {A : Around} {E : Value → Shared → Prop} {s : Shared} {env : Env}
/-- all that stands beside h₀ and L -/
def rest (h₀ h : Heap) (L : Addr) : List (Addr × Obj) := (List.range h.objs.size).filterMap fun a => match h.get? a with
  | some o => if a ≠ L ∧ h₀.get? a = none then some (a, o) else none
  | none => none
theorem rest_mem {h : Heap} {b : Addr} {o : Obj} (e : h.get? b = some o) (hL : b ≠ L) (h0 : h₀.get? b = none) : (b, o) ∈ rest h₀ h L := by
  refine List.mem_filterMap.mpr ⟨b, List.mem_range.mpr (Heap.lt_size e), ?_⟩
  simp only [e]
  rw [if_pos ⟨hL, h0⟩]
theorem rest_news {h : Heap} : News h₀ L h (rest h₀ h L) := by
  rintro ⟨b, o⟩ hp
  obtain ⟨c, _, e⟩ := List.mem_filterMap.mp hp
  cases q : h.get? c with
  | none => rw [q] at e; cases e
  | some o' =>
    rw [q] at e
    simp only at e
    split at e
    · rename_i z
      simp only [Option.some.injEq, Prod.mk.injEq] at e
      obtain ⟨rfl, rfl⟩ := e
      exact ⟨q, z.1, z.2⟩
    · cases e
theorem rest_keep {h h' : Heap} {news : List (Addr × Obj)} (F : Fr h₀ L h m) (F' : Fr h₀ L h' m) (N : News h₀ L h' news) (hs : ∀ p ∈ rest h₀ h L, p ∈ news) : Kp h₀ [L] h h' := by
  have keep : ∀ b o, b ∉ [L] → h.get? b = some o → h'.get? b = some o := fun b o hb e => by
    cases q : h₀.get? b with
    | some o' => rw [F.keep b o' q] at e; rw [← e]; exact F'.keep b o' q
    | none => exact (N _ (hs _ (rest_mem e (fun z => hb (by rw [z]; exact .head _)) q))).1
  exact .ofKeep keep (fun b q => by rw [List.mem_singleton.mp q]; exact .ns F.ns) fun b q => by rw [List.mem_singleton.mp q]; exact F.above
theorem pair_keyLt {v v' : Value} {p q : Int × Int} {Q : Bool → Shared → Prop} (x : IsPr s.heap v p) (y : IsPr s.heap v' q) (h : Q (plt p q) s) : wpAny (model prog w) A (keyLt' (tuples' true) v v') Q (fun _ _ => False) s := by
  obtain ⟨a, t, u, rfl, o, ho, hc, n, hd⟩ := x
  obtain ⟨b, t', u', rfl, o', ho', hc', n', hd'⟩ := y
  refine kat_lt ho hd ho' hd' ?_
  refine kat_cons (wpAny_eqBool_int (kat_go (fun e => ?_) fun e => ?_))
  · have e1 : p.1 = q.1 := eq_of_beq e
    refine kat_yes (kat_cons (wpAny_eqBool_int (kat_go (fun e => ?_) fun e => ?_)))
    · have e2 : p.2 = q.2 := eq_of_beq e
      refine kat_yes (kat_nil ?_)
      have : plt p q = false := by unfold plt; rw [if_pos e1, e2]; simp
      rw [this] at h; exact h
    · refine kat_no (kat_one _ _ (PyProof.Rows.lt_int ?_))
      have : plt p q = decide (p.2 < q.2) := by unfold plt; rw [if_pos e1]
      rw [this] at h; exact h
  · refine kat_no (oneLt_int ?_)
    have : plt p q = decide (p.1 < q.1) := by unfold plt; rw [if_neg (fun z => by rw [z, beq_self_eq_true] at e; cases e)]
    rw [this] at h; exact h
theorem prs_tups {h : Heap} {vs : List Value} {ps : List (Int × Int)} (x : Prs h vs ps) : ∃ fs, KatTups h vs fs ∧ fs.length = vs.length ∧ ∀ v ∈ fs, ∃ n t, v = .int n t := by
  induction x with
  | nil => exact ⟨[], trivial, rfl, fun _ q => (List.not_mem_nil q).elim⟩
  | cons p _ ih =>
    obtain ⟨a, t, u, rfl, o, ho, hc, n, hd⟩ := p
    obtain ⟨fs, i1, i2, i3⟩ := ih
    refine ⟨_ :: fs, KatTups.cons ho hc hd rfl i1, by simp [i2], fun v hv => ?_⟩
    rcases List.mem_cons.mp hv with rfl | hv
    · exact ⟨_, _, rfl⟩
    · exact i3 v hv
theorem prs_at {h : Heap} {vs : List Value} {ps : List (Int × Int)} (x : Prs h vs ps) {i : Nat} (hi : i < vs.length) : IsPr h (vs.getD i .none) (ps.getD i (0, 0)) := by
  have hi' : i < ps.length := by rw [← x.len]; exact hi
  obtain ⟨v, e, r⟩ := x.get (List.getElem?_eq_getElem hi')
  have e1 : vs.getD i .none = v := by simp [List.getD_eq_getElem?_getD, e]
  have e2 : ps.getD i (0, 0) = ps[i] := by simp [List.getD_eq_getElem?_getD, hi']
  rw [e1, e2]; exact r
theorem prs_map {h : Heap} {vs : List Value} {ps : List (Int × Int)} (x : Prs h vs ps) : ∀ {l : List Nat}, (∀ i ∈ l, i < vs.length) → Prs h (l.map fun i => vs.getD i .none) (l.map fun i => ps.getD i (0, 0))
  | [], _ => .nil
  | i :: l, hl => .cons (prs_at x (hl i (.head _))) (prs_map x fun j hj => hl j (.tail _ hj))
theorem sort_pairs {vs : List Value} {ps : List (Int × Int)} {l : Addr} {Q : Value → Shared → Prop} (X : St prog w h₀ hb W L m O s.heap) (x : s.heap.IsList l vs.toArray) (hp : Prs s.heap vs ps) (h2 : 2 ≤ vs.length) (h64 : vs.length < 64)
    (h : ∀ D h' us qs, Kp h₀ [L] s.heap h' → Fr h₀ L h' m → h'.IsList D (List.toArray us) → s.heap.get? D = none → Prs h' us qs → qs.Perm ps → qs.Pairwise ple → Q (.ref D) { s with heap := h' }) :
    wpAny (model prog w) A (call (.builtin "sorted") [.ref l]) Q (fun _ _ => False) s := by
  refine kat_sorted X.fr (rest_news (h := s.heap)) x h2 h64 fun D e1 h₁ F₁ N₁ hD => ?_
  have k₁ : Kp h₀ [L] s.heap h₁ := rest_keep X.fr F₁ N₁ fun p hp => .tail _ hp
  have p₁ := hp.kp k₁
  have hDn : s.heap.get? D = none := by
    cases e : s.heap.get? D with
    | none => rfl
    | some o =>
      have hq := N₁ _ (.head _)
      exact absurd (hD _ (rest_mem e hq.2.1 hq.2.2)) (Nat.lt_irrefl _)
  obtain ⟨fs, t1, t2, t3⟩ := prs_tups p₁
  refine kat_kind (T := .type "int") t1 (by omega) (fun v hv => ?_) (by decide) ?_
  · obtain ⟨n, t, rfl⟩ := t3 v hv
    exact Looks.of_pure rfl
  have htt : (Value.type "int" != Value.type "tuple") = true := by decide
  rw [htt]
  refine sort_ok (K := fun i => ps.getD i (0, 0)) ⟨fun i j C hi hj hC => ?_⟩ (by omega) fun p g ha => ?_
  · exact pair_keyLt (s := { s with heap := h₁ }) (prs_at p₁ hi) (prs_at p₁ hj) hC
  · refine KasFin.intro F₁ N₁ (.head fun q hq e => absurd (hD q hq) (by rw [e]; exact Nat.lt_irrefl _)) fun h₂ c F₂ N₂ => ?_
    have k₂ : Kp h₀ [L] s.heap h₂ := rest_keep X.fr F₂ N₂ fun p hp => .tail _ hp
    have hlt : ∀ i ∈ p.toList, i < vs.length := fun i hi => List.mem_range.mp (g.perm.subset hi)
    refine h D h₂ _ (p.toList.map fun i => ps.getD i (0, 0)) k₂ F₂ ⟨_, (N₂ _ (.head _)).1, rfl, _, rfl⟩ hDn (prs_map (hp.kp k₂) hlt) ?_ ?_
    · have e : (List.range vs.length).map (fun i => ps.getD i (0, 0)) = ps := by
        refine List.ext_getElem (by simp [hp.len]) fun i h1 h2 => ?_
        simp [List.getD_eq_getElem?_getD, h2]
      exact (g.perm.map _).trans (by rw [e])
    · refine List.pairwise_iff_getElem.mpr fun i j hi hj hij => ?_
      have hsz := g.size
      have mono : ∀ j i, i ≤ j → j < vs.length → ple (kp (fun i => ps.getD i (0, 0)) p i) (kp (fun i => ps.getD i (0, 0)) p j) := by
        intro j
        induction j with
        | zero => intro i hi _; rw [Nat.le_zero.mp hi]; exact ple_refl _
        | succ j ih =>
          intro i hi hj
          by_cases z : i = j + 1
          · rw [z]; exact ple_refl _
          · exact ple_trans (ih i (by omega) (by omega)) (ha (j + 1) (by omega) hj)
      rw [List.length_map, Array.length_toList] at hi hj
      have := mono j i (by omega) (by omega)
      unfold kp at this
      rw [getD_eq hi, getD_eq hj] at this
      simpa using this
/-- where but the frame's own object may have been laid anew -/
theorem St.frameK {h h' : Heap} (x : St prog w h₀ hb W L m O h) (k : Kp h₀ [L] h h') (F : Fr h₀ L h' m) : St prog w h₀ hb W L m O h' := by
  have c : Chg h₀ [L] h h' := Chg.ofKp k fun a q => by rw [List.mem_singleton.mp q]; exact ns_here F.ns
  refine ⟨F, x.chg.step c fun a q => by rw [List.mem_singleton.mp q]; exact x.may L (.head _), fun p hp => ⟨(x.objs p hp).1.chg k fun q => ?_, (x.objs p hp).2⟩, x.nodup, x.may⟩
  exact (List.nodup_cons.mp x.nodup).1 ((List.mem_singleton.mp q) ▸ List.mem_map.mpr ⟨p, hp, rfl⟩)
end
end Mine
end

section
open PySem PySem.W PySem.Calls PyProof.Rows
set_option maxRecDepth 100000
namespace Mine
/-! Counting. -/
section
variable {α : Type} [DecidableEq α]
def bump (c : List (α × Int)) (x : α) : List (α × Int) := kprPut c x (kprLook c x 0 + 1)
def tally (l : List α) : List (α × Int) := l.foldl bump []
theorem tally_snoc (l : List α) (x : α) : tally (l ++ [x]) = bump (tally l) x := by simp [tally]
theorem snoc_ind {P : List α → Prop} (h0 : P []) (hs : ∀ l x, P l → P (l ++ [x])) (l : List α) : P l := by
  have : ∀ l : List α, P l.reverse := by
    intro l
    induction l with
    | nil => exact h0
    | cons a l ih => rw [List.reverse_cons]; exact hs _ _ ih
  have := this l.reverse
  rwa [List.reverse_reverse] at this
theorem tally_look (x : α) (l : List α) : kprLook (tally l) x 0 = (l.count x : Int) := by
  refine snoc_ind (P := fun l => kprLook (tally l) x 0 = (l.count x : Int)) rfl ?_ l
  intro l y ih
  rw [tally_snoc, bump, kpr_look_put, List.count_append]
  by_cases e : x = y
  · subst e; rw [if_pos rfl, ih]; simp
  · rw [if_neg e, ih]
    have : ¬ y = x := fun q => e q.symm
    simp [List.count_singleton, this]
theorem tally_has (x : α) (l : List α) : kprHas (tally l) x = true ↔ x ∈ l := by
  refine snoc_ind (P := fun l => kprHas (tally l) x = true ↔ x ∈ l) (by simp [tally, kpr_has_nil]) ?_ l
  intro l y ih
  rw [tally_snoc, bump, kpr_has_put, List.mem_append, List.mem_singleton, Bool.or_eq_true, ih]
  simp [or_comm]
theorem bump_len (c : List (α × Int)) (x : α) : (bump c x).length ≤ c.length + 1 := put_len c x _
theorem tally_len (l : List α) : (tally l).length ≤ l.length := by
  refine snoc_ind (P := fun l => (tally l).length ≤ l.length) (Nat.le_refl _) ?_ l
  intro l y ih
  rw [tally_snoc, List.length_append]
  have := bump_len (tally l) y
  simp only [List.length_cons, List.length_nil]
  omega
theorem put_nodup {c : List (α × Int)} (h : (c.map (·.1)).Nodup) (x : α) (v : Int) : ((kprPut c x v).map (·.1)).Nodup := by
  cases e : kprHas c x with
  | true => rw [kpr_keys_old e]; exact h
  | false =>
    rw [kpr_keys_new e]
    refine List.nodup_append.mpr ⟨h, by simp, fun a ha b hb => ?_⟩
    rw [List.mem_singleton.mp hb]
    exact fun z => kpr_has_false.mp e (z ▸ ha)
theorem tally_nodup (l : List α) : ((tally l).map (·.1)).Nodup := by
  refine snoc_ind (P := fun l => ((tally l).map (·.1)).Nodup) List.nodup_nil ?_ l
  intro l y ih
  rw [tally_snoc]; exact put_nodup ih _ _
theorem look_of_mem {c : List (α × Int)} {x : α} {v : Int} (hn : (c.map (·.1)).Nodup) (h : (x, v) ∈ c) (e : Int) : kprLook c x e = v := by
  induction c with
  | nil => exact (List.not_mem_nil h).elim
  | cons p c ih =>
    rw [List.map_cons, List.nodup_cons] at hn
    rw [kpr_look_cons]
    rcases List.mem_cons.mp h with rfl | h
    · rw [if_pos rfl]
    · rw [if_neg (fun z => hn.1 (List.mem_map.mpr ⟨_, h, z.symm⟩))]; exact ih hn.2 h
end
end Mine
end

section
open PySem PySem.W PySem.Calls PyProof.Rows
set_option maxRecDepth 100000
namespace Mine
/-! Sums over lists. -/
section
variable {α β : Type}
def sumOf (l : List α) (f : α → Int) : Int := (l.map f).sum
theorem sumOf_nil (f : α → Int) : sumOf [] f = 0 := rfl
theorem sumOf_cons (a : α) (l : List α) (f : α → Int) : sumOf (a :: l) f = f a + sumOf l f := by simp [sumOf]
theorem sumOf_append (l l' : List α) (f : α → Int) : sumOf (l ++ l') f = sumOf l f + sumOf l' f := by simp [sumOf, List.sum_append]
theorem sumOf_perm {l l' : List α} (p : l.Perm l') (f : α → Int) : sumOf l f = sumOf l' f := by
  induction p with
  | nil => rfl
  | cons x _ ih => rw [sumOf_cons, sumOf_cons, ih]
  | swap x y l => rw [sumOf_cons, sumOf_cons, sumOf_cons, sumOf_cons]; omega
  | trans _ _ h1 h2 => exact h1.trans h2
theorem sumOf_congr {l : List α} {f g : α → Int} (h : ∀ x ∈ l, f x = g x) : sumOf l f = sumOf l g := by
  induction l with
  | nil => rfl
  | cons a l ih => rw [sumOf_cons, sumOf_cons, h a (.head _), ih fun x hx => h x (.tail _ hx)]
theorem sumOf_nonneg {l : List α} {f : α → Int} (h : ∀ x ∈ l, 0 ≤ f x) : 0 ≤ sumOf l f := by
  induction l with
  | nil => exact Int.le_refl _
  | cons a l ih =>
    rw [sumOf_cons]
    have := h a (.head _)
    have := ih fun x hx => h x (.tail _ hx)
    omega
theorem sumOf_add (l : List α) (f g : α → Int) : sumOf l (fun x => f x + g x) = sumOf l f + sumOf l g := by
  induction l with
  | nil => rfl
  | cons a l ih => rw [sumOf_cons, sumOf_cons, sumOf_cons, ih]; omega
theorem sumOf_const (l : List α) (n : Int) : sumOf l (fun _ => n) = l.length * n := by
  induction l with
  | nil => simp [sumOf]
  | cons a l ih =>
    rw [sumOf_cons, ih, List.length_cons]
    have : ((l.length + 1 : Nat) : Int) = (l.length : Int) + 1 := by omega
    rw [this, Int.add_mul, Int.one_mul]; omega
theorem sumOf_comm (l : List α) (l' : List β) (f : α → β → Int) : sumOf l (fun a => sumOf l' (f a)) = sumOf l' (fun b => sumOf l fun a => f a b) := by
  induction l with
  | nil =>
    have : sumOf l' (fun _ => (0 : Int)) = 0 := by rw [sumOf_const]; omega
    simp only [sumOf_nil]; exact this.symm
  | cons a l ih =>
    rw [sumOf_cons, ih, ← sumOf_add]
    exact sumOf_congr fun b _ => by rw [sumOf_cons]
theorem sub_perm [DecidableEq α] : ∀ {l m : List α}, l.Nodup → (∀ x ∈ l, x ∈ m) → ∃ z, m.Perm (l ++ z)
  | [], m, _, _ => ⟨m, .refl _⟩
  | a :: l, m, hn, hs => by
    obtain ⟨h1, h2⟩ := List.nodup_cons.mp hn
    have ha : a ∈ m := hs a (.head _)
    obtain ⟨z, hz⟩ := sub_perm (l := l) (m := m.erase a) h2 fun x hx => (List.mem_erase_of_ne (fun e => h1 (by rw [← e]; exact hx))).mpr (hs x (.tail _ hx))
    exact ⟨z, (List.perm_cons_erase ha).trans (.cons a hz)⟩
theorem sumOf_sub [DecidableEq α] {l m : List α} {f : α → Int} (hn : l.Nodup) (hs : ∀ x ∈ l, x ∈ m) (h0 : ∀ x ∈ m, 0 ≤ f x) : sumOf l f ≤ sumOf m f := by
  obtain ⟨z, hz⟩ := sub_perm hn hs
  rw [sumOf_perm hz, sumOf_append]
  have := sumOf_nonneg (l := z) (f := f) fun x hx => h0 x (hz.symm.subset (List.mem_append_right _ hx))
  omega
theorem eq_of_sorted {r : α → α → Prop} (anti : ∀ a b, r a b → r b a → a = b) : ∀ {l m : List α}, l.Perm m → l.Pairwise r → m.Pairwise r → l = m
  | [], m, p, _, _ => (List.Perm.eq_nil p.symm).symm
  | a :: l, [], p, _, _ => absurd (List.Perm.eq_nil p) (by simp)
  | a :: l, b :: m, p, h1, h2 => by
    obtain ⟨a1, a2⟩ := List.pairwise_cons.mp h1
    obtain ⟨b1, b2⟩ := List.pairwise_cons.mp h2
    have e : a = b := by
      rcases List.mem_cons.mp (p.subset (.head _)) with e | e
      · exact e
      · rcases List.mem_cons.mp (p.symm.subset (.head _)) with q | q
        · exact q.symm
        · exact anti a b (a1 b q) (b1 a e)
    subst e
    rw [eq_of_sorted anti p.cons_inv a2 b2]
end
/-! Counts that are the same on either side. -/
def I4 : List Int := [0, 1, 2, 3]
theorem mem_I4 {x : Int} : x ∈ I4 ↔ In4 x := by
  unfold I4 In4
  simp only [List.mem_cons, List.not_mem_nil, or_false]
  omega
theorem nodup_I4 : I4.Nodup := by decide
structure Reg (c : Cn) (n : Int) : Prop where
  row : ∀ i, In4 i → sumOf I4 (fun o => kprLook c (i, o) 0) = n
  col : ∀ o, In4 o → sumOf I4 (fun i => kprLook c (i, o) 0) = n
  pos : ∀ i o, In4 i → In4 o → 0 ≤ kprLook c (i, o) 0
/-- Hall: the way that frees does not fail -/
theorem free_never {c : Cn} {n one : Int} {t : List (Int × Int)} {sn' : List Int} (R : Reg c n) (hn : 1 ≤ n) (h1 : In4 one) (hv : ((t.map (·.2))).Nodup) (h4 : ∀ p ∈ t, In4 p.2) (hone : one ∉ t.map (·.2)) (F : FrF c 4 one t [] sn') : False := by
  -- each one seen has its partner
  have part : ∃ X : List Int, X.length = sn'.length ∧ (∀ x ∈ X, ∃ o ∈ sn', (o, x) ∈ t) ∧ X.Nodup ∧ (∀ x ∈ X, ∀ o2, In4 o2 → Edge c x o2 → o2 ∈ sn') := by
    have gen : ∀ l : List Int, l.Nodup → (∀ o ∈ l, o ∈ sn') → ∃ X : List Int, X.length = l.length ∧ (∀ x ∈ X, ∃ o ∈ l, (o, x) ∈ t) ∧ X.Nodup ∧ (∀ x ∈ X, ∀ o2, In4 o2 → Edge c x o2 → o2 ∈ sn') := by
      intro l
      induction l with
      | nil => intro _ _; exact ⟨[], rfl, fun x hx => (List.not_mem_nil hx).elim, List.nodup_nil, fun x hx => (List.not_mem_nil hx).elim⟩
      | cons o l ih =>
        intro hl hs
        obtain ⟨n1, n2⟩ := List.nodup_cons.mp hl
        obtain ⟨X, a, b, d, e⟩ := ih n2 fun o ho => hs o (.tail _ ho)
        obtain ⟨x, hx1, hx2⟩ := F.cl o (hs o (.head _)) (List.not_mem_nil)
        refine ⟨x :: X, by simp [a], fun y hy => ?_, List.nodup_cons.mpr ⟨fun q => ?_, d⟩, fun y hy => ?_⟩
        · rcases List.mem_cons.mp hy with rfl | hy
          · exact ⟨o, .head _, hx1⟩
          · obtain ⟨o', ho', z⟩ := b y hy
            exact ⟨o', .tail _ ho', z⟩
        · obtain ⟨o', ho', z⟩ := b x q
          have : o = o' := by
            obtain ⟨i, hi⟩ := List.mem_iff_getElem?.mp hx1
            obtain ⟨j, hj⟩ := List.mem_iff_getElem?.mp z
            have e1 : (t.map (·.2))[i]? = some x := by rw [List.getElem?_map, hi]; rfl
            have e2 : (t.map (·.2))[j]? = some x := by rw [List.getElem?_map, hj]; rfl
            have := (List.getElem?_inj (List.getElem?_eq_some_iff.mp e1).1 hv).mp (e1.trans e2.symm)
            subst this
            rw [hi] at hj
            exact congrArg Prod.fst (Option.some.inj hj)
          exact n1 (this ▸ ho')
        · rcases List.mem_cons.mp hy with rfl | hy
          · exact hx2
          · exact e y hy
    exact gen sn' F.ok.nodup fun _ h => h
  obtain ⟨X, xl, xt, xn, xe⟩ := part
  have xv : ∀ x ∈ X, x ∈ t.map (·.2) := fun x hx => by obtain ⟨o, _, z⟩ := xt x hx; exact List.mem_map.mpr ⟨_, z, rfl⟩
  have ynd : (one :: X).Nodup := List.nodup_cons.mpr ⟨fun q => hone (xv one q), xn⟩
  have y4 : ∀ x ∈ one :: X, In4 x := fun x hx => by
    rcases List.mem_cons.mp hx with rfl | hx
    · exact h1
    · obtain ⟨p, hp, rfl⟩ := List.mem_map.mp (xv x hx); exact h4 p hp
  have ye : ∀ x ∈ one :: X, ∀ o2, In4 o2 → Edge c x o2 → o2 ∈ sn' := fun x hx o2 q he => by
    rcases List.mem_cons.mp hx with rfl | hx
    · exact F.nb o2 q.1 q.2 he
    · exact xe x hx o2 q he
  -- what each of these has, it has among the seen
  have each : ∀ x ∈ one :: X, sumOf sn' (fun o => kprLook c (x, o) 0) = n := fun x hx => by
    rw [← R.row x (y4 x hx)]
    obtain ⟨z, hz⟩ := sub_perm (m := I4) F.ok.nodup fun o ho => mem_I4.mpr (F.ok.four o ho)
    rw [sumOf_perm hz, sumOf_append]
    have hz0 : sumOf z (fun o => kprLook c (x, o) 0) = sumOf z (fun _ => 0) := sumOf_congr fun o ho => by
      have ho4 : In4 o := mem_I4.mp (hz.symm.subset (List.mem_append_right _ ho))
      have hns : o ∉ sn' := fun q => by
        have nd := hz.nodup nodup_I4
        exact (List.nodup_append.mp nd).2.2 o q o ho rfl
      have := R.pos x o (y4 x hx) ho4
      by_cases he : Edge c x o
      · exact absurd (ye x hx o ho4 he) hns
      · unfold Edge at he; omega
    rw [hz0, sumOf_const]; omega
  have tot : sumOf (one :: X) (fun x => sumOf sn' (fun o => kprLook c (x, o) 0)) = ((one :: X).length : Int) * n := (sumOf_congr each).trans (sumOf_const _ _)
  rw [sumOf_comm] at tot
  have le : sumOf sn' (fun o => sumOf (one :: X) fun x => kprLook c (x, o) 0) ≤ sumOf sn' (fun _ => n) := by
    have gen : ∀ l : List Int, (∀ o ∈ l, In4 o) → sumOf l (fun o => sumOf (one :: X) fun x => kprLook c (x, o) 0) ≤ sumOf l (fun _ => n) := by
      intro l
      induction l with
      | nil => intro _; exact Int.le_refl _
      | cons o l ih =>
        intro hl
        rw [sumOf_cons o l, sumOf_cons o l]
        have h1 := ih fun x hx => hl x (.tail _ hx)
        have ho := hl o (.head _)
        have h2 : sumOf (one :: X) (fun x => kprLook c (x, o) 0) ≤ sumOf I4 (fun x => kprLook c (x, o) 0) := sumOf_sub ynd (fun x hx => mem_I4.mpr (y4 x hx)) fun x hx => R.pos x o (mem_I4.mp hx) ho
        rw [R.col o ho] at h2
        omega
    exact gen sn' F.ok.four
  rw [tot, sumOf_const, List.length_cons, xl] at le
  have e : ((sn'.length + 1 : Nat) : Int) * n = (sn'.length : Int) * n + n := by
    have : ((sn'.length + 1 : Nat) : Int) = (sn'.length : Int) + 1 := by omega
    rw [this, Int.add_mul, Int.one_mul]
  omega
end Mine
end

section
open PySem PySem.W PySem.Calls PyProof.Rows
set_option maxRecDepth 100000
namespace Mine
/-! One lot of pairs taken away. -/
def dec (c : Cn) (p : Int × Int) : Cn := kprPut c p (kprLook c p 0 - 1)
def decs (c : Cn) (l : List (Int × Int)) : Cn := l.foldl dec c
theorem decs_snoc (c : Cn) (l : List (Int × Int)) (p : Int × Int) : decs c (l ++ [p]) = dec (decs c l) p := by simp [decs]
theorem decs_look (c : Cn) (q : Int × Int) (l : List (Int × Int)) : kprLook (decs c l) q 0 = kprLook c q 0 - (l.count q : Int) := by
  refine snoc_ind (P := fun l => kprLook (decs c l) q 0 = kprLook c q 0 - (l.count q : Int)) (by simp [decs]) ?_ l
  intro l p ih
  rw [decs_snoc, dec, kpr_look_put, List.count_append]
  by_cases e : q = p
  · subst e; rw [if_pos rfl, ih]; simp; omega
  · rw [if_neg e, ih]
    have : ¬ p = q := fun z => e z.symm
    simp [this]
theorem decs_keys (c : Cn) (l : List (Int × Int)) (h : ∀ p ∈ l, kprHas c p = true) : (decs c l).map (·.1) = c.map (·.1) := by
  refine snoc_ind (P := fun l => (∀ p ∈ l, kprHas c p = true) → (decs c l).map (·.1) = c.map (·.1)) (fun _ => rfl) ?_ l h
  intro l p ih h
  have e := ih fun q hq => h q (List.mem_append_left _ hq)
  rw [decs_snoc, dec, kpr_keys_old, e]
  rw [kpr_has_iff, e]
  exact kpr_has_iff.mp (h p (List.mem_append_right _ (.head _)))
theorem tally_look2 (x : Int × Int) (l : List (Int × Int)) : kprLook (tally l) x 0 = (l.count x : Int) := by
  refine snoc_ind (P := fun l => kprLook (tally l) x 0 = (l.count x : Int)) rfl ?_ l
  intro l y ih
  rw [tally_snoc, bump, kpr_look_put, List.count_append]
  by_cases e : x = y
  · subst e; rw [if_pos rfl, ih]; simp
  · rw [if_neg e, ih]
    have : ¬ y = x := fun q => e q.symm
    simp [this]
theorem cnt_row (i : Int) : ∀ l : List (Int × Int), (∀ p ∈ l, In4 p.2) → sumOf I4 (fun o => (l.count (i, o) : Int)) = ((l.map (·.1)).count i : Int)
  | [], _ => by simp [sumOf, I4]
  | p :: l, h => by
    have ih := cnt_row i l fun q hq => h q (.tail _ hq)
    have hp := mem_I4.mpr (h p (.head _))
    have e : sumOf I4 (fun o => ((p :: l).count (i, o) : Int)) = sumOf I4 (fun o => (l.count (i, o) : Int)) + sumOf I4 (fun o => if p = (i, o) then 1 else 0) := by
      rw [← sumOf_add]
      exact sumOf_congr fun o _ => by rw [List.count_cons]; by_cases z : p = (i, o) <;> simp [z]
    rw [e, ih, List.map_cons, List.count_cons]
    obtain ⟨a, b⟩ := p
    have hb : b = 0 ∨ b = 1 ∨ b = 2 ∨ b = 3 := by simpa [I4] using hp
    by_cases z : a = i
    · subst z
      rcases hb with rfl | rfl | rfl | rfl <;> simp [sumOf, I4]
    · simp [sumOf, I4, z]
theorem cnt_col (o : Int) : ∀ l : List (Int × Int), (∀ p ∈ l, In4 p.1) → sumOf I4 (fun i => (l.count (i, o) : Int)) = ((l.map (·.2)).count o : Int)
  | [], _ => by simp [sumOf, I4]
  | p :: l, h => by
    have ih := cnt_col o l fun q hq => h q (.tail _ hq)
    have hp := mem_I4.mpr (h p (.head _))
    have e : sumOf I4 (fun i => ((p :: l).count (i, o) : Int)) = sumOf I4 (fun i => (l.count (i, o) : Int)) + sumOf I4 (fun i => if p = (i, o) then 1 else 0) := by
      rw [← sumOf_add]
      exact sumOf_congr fun i _ => by rw [List.count_cons]; by_cases z : p = (i, o) <;> simp [z]
    rw [e, ih, List.map_cons, List.count_cons]
    obtain ⟨a, b⟩ := p
    have ha : a = 0 ∨ a = 1 ∨ a = 2 ∨ a = 3 := by simpa [I4] using hp
    by_cases z : b = o
    · subst z
      rcases ha with rfl | rfl | rfl | rfl <;> simp [sumOf, I4]
    · simp [sumOf, I4, z]
theorem count_I4 {x : Int} (h : In4 x) : I4.count x = 1 := by
  have : x = 0 ∨ x = 1 ∨ x = 2 ∨ x = 3 := by simpa [I4] using mem_I4.mpr h
  rcases this with rfl | rfl | rfl | rfl <;> decide
theorem reg_dec {c : Cn} {n : Int} {l : List (Int × Int)} (R : Reg c n) (h1 : (l.map (·.1)).Perm I4) (h2 : (l.map (·.2)).Perm I4) (hp : ∀ p ∈ l, Edge c p.1 p.2) : Reg (decs c l) (n - 1) := by
  have f1 : ∀ p ∈ l, In4 p.1 := fun p hp => mem_I4.mp (h1.subset (List.mem_map.mpr ⟨p, hp, rfl⟩))
  have f2 : ∀ p ∈ l, In4 p.2 := fun p hp => mem_I4.mp (h2.subset (List.mem_map.mpr ⟨p, hp, rfl⟩))
  have nd : l.Nodup := nodup_of_map (f := (·.1)) (h1.symm.nodup nodup_I4)
  have sub : ∀ f g : Int → Int, sumOf I4 (fun o => f o - g o) = sumOf I4 f - sumOf I4 g := fun f g => by simp only [sumOf, I4, List.map_cons, List.map_nil, List.sum_cons, List.sum_nil]; omega
  refine ⟨fun i hi => ?_, fun o ho => ?_, fun i o hi ho => ?_⟩
  · rw [sumOf_congr fun o _ => decs_look c (i, o) l, sub, R.row i hi, cnt_row i l f2, h1.count_eq, count_I4 hi]; rfl
  · rw [sumOf_congr fun i _ => decs_look c (i, o) l, sub, R.col o ho, cnt_col o l f1, h2.count_eq, count_I4 ho]; rfl
  · rw [decs_look]
    have := R.pos i o hi ho
    have hc : l.count (i, o) ≤ 1 := List.nodup_iff_count.mp nd (i, o)
    by_cases hm : (i, o) ∈ l
    · have := hp _ hm
      unfold Edge at this
      dsimp only at this
      omega
    · rw [List.count_eq_zero_of_not_mem hm]; omega
/-- the one side of a lot laid in order -/
theorem order_firsts {ps : List (Int × Int)} (h1 : (ps.map (·.1)).Perm I4) (hs : ps.Pairwise (fun a b => plt a b = true)) : ps.map (·.1) = I4 := by
  refine eq_of_sorted (r := (· ≤ ·)) (fun a b => Int.le_antisymm) h1 ?_ (by decide)
  rw [List.pairwise_map]
  exact hs.imp fun h => by rw [plt_iff] at h; omega
theorem sorted_I4 {l : List Int} (h : l.Perm I4) (hs : l.Pairwise (· ≤ ·)) : l = I4 := eq_of_sorted (r := (· ≤ ·)) (fun a b => Int.le_antisymm) h hs (by decide)
theorem reg_zero {c : Cn} (R : Reg c 0) {i o : Int} (hi : In4 i) (ho : In4 o) : kprLook c (i, o) 0 = 0 := by
  have h := R.row i hi
  have p0 := R.pos i 0 hi (by unfold In4; omega)
  have p1 := R.pos i 1 hi (by unfold In4; omega)
  have p2 := R.pos i 2 hi (by unfold In4; omega)
  have p3 := R.pos i 3 hi (by unfold In4; omega)
  simp only [sumOf, I4, List.map_cons, List.map_nil, List.sum_cons, List.sum_nil] at h
  have : o = 0 ∨ o = 1 ∨ o = 2 ∨ o = 3 := by simpa [I4] using mem_I4.mpr ho
  rcases this with rfl | rfl | rfl | rfl <;> omega
/-! The rows. -/
def rowPairs (r : List Int) : List (Int × Int) := (List.range 4).map fun (i : Nat) => ((i : Int), r.getD i 0)
def allPairs (rs : List (List Int)) : List (Int × Int) := rs.flatMap rowPairs
def col (rs : List (List Int)) (i : Nat) : List Int := rs.map fun r => r.getD i 0
theorem row_four {r : List Int} (h : r.Perm I4) : ∃ a b c d, r = [a, b, c, d] := by
  have hl : r.length = 4 := h.length_eq
  match r, hl with
  | [a, b, c, d], _ => exact ⟨a, b, c, d, rfl⟩
theorem rowPairs_eq {a b c d : Int} : rowPairs [a, b, c, d] = [(0, a), (1, b), (2, c), (3, d)] := rfl
theorem rowPairs_1 {r : List Int} : (rowPairs r).map (·.1) = I4 := rfl
theorem rowPairs_2 {r : List Int} (h : r.Perm I4) : (rowPairs r).map (·.2) = r := by
  obtain ⟨a, b, c, d, rfl⟩ := row_four h
  rfl
theorem all_4 {rs : List (List Int)} (h : ∀ r ∈ rs, r.Perm I4) : ∀ p ∈ allPairs rs, In4 p.1 ∧ In4 p.2 := by
  intro p hp
  obtain ⟨r, hr, q⟩ := List.mem_flatMap.mp hp
  have e1 : p.1 ∈ (rowPairs r).map (·.1) := List.mem_map.mpr ⟨p, q, rfl⟩
  have e2 : p.2 ∈ (rowPairs r).map (·.2) := List.mem_map.mpr ⟨p, q, rfl⟩
  rw [rowPairs_1] at e1
  rw [rowPairs_2 (h r hr)] at e2
  exact ⟨mem_I4.mp e1, mem_I4.mp ((h r hr).subset e2)⟩
theorem all_1 (rs : List (List Int)) {i : Int} (hi : In4 i) : ((allPairs rs).map (·.1)).count i = rs.length := by
  induction rs with
  | nil => rfl
  | cons r rs ih => rw [allPairs, List.flatMap_cons, List.map_append, List.count_append, rowPairs_1, count_I4 hi, List.length_cons]; rw [allPairs] at ih; omega
theorem all_2 {rs : List (List Int)} (h : ∀ r ∈ rs, r.Perm I4) {o : Int} (ho : In4 o) : ((allPairs rs).map (·.2)).count o = rs.length := by
  induction rs with
  | nil => rfl
  | cons r rs ih =>
    have := ih fun r hr => h r (.tail _ hr)
    rw [allPairs, List.flatMap_cons, List.map_append, List.count_append, rowPairs_2 (h r (.head _)), (h r (.head _)).count_eq, count_I4 ho, List.length_cons]
    rw [allPairs] at this; omega
theorem reg_all {rs : List (List Int)} (h : ∀ r ∈ rs, r.Perm I4) : Reg (tally (allPairs rs)) rs.length := by
  have f := all_4 h
  refine ⟨fun i hi => ?_, fun o ho => ?_, fun i o _ _ => ?_⟩
  · rw [sumOf_congr fun o _ => tally_look2 (i, o) _, cnt_row i _ fun p hp => (f p hp).2, all_1 rs hi]
  · rw [sumOf_congr fun i _ => tally_look2 (i, o) _, cnt_col o _ fun p hp => (f p hp).1, all_2 h ho]
  · rw [tally_look2]; omega
theorem cols_count {rs : List (List Int)} (h : ∀ r ∈ rs, r.Perm I4) {o : Int} (ho : In4 o) : ((col rs 0).count o : Int) + (col rs 1).count o + (col rs 2).count o + (col rs 3).count o = rs.length := by
  induction rs with
  | nil => rfl
  | cons r rs ih =>
    have ih := ih fun r hr => h r (.tail _ hr)
    have hr := h r (.head _)
    have hc := hr.count_eq o
    rw [count_I4 ho] at hc
    obtain ⟨a, b, c, d, rfl⟩ := row_four hr
    simp only [col, List.map_cons, List.count_cons, List.length_cons] at ih ⊢
    simp only [List.count_cons, List.count_nil] at hc
    simp at ih hc ⊢
    omega
end Mine
end

section
open PySem PySem.W PySem.Calls PyProof.Rows
set_option maxRecDepth 100000
namespace Mine
/-! Counts put together. -/
theorem mrg_nodup {c : List (Int × Int)} (h : (c.map (·.1)).Nodup) (e : List (Int × Int)) : ((mrg c e).map (·.1)).Nodup := by
  refine snoc_ind (P := fun e => ((mrg c e).map (·.1)).Nodup) h ?_ e
  intro e p ih
  rw [mrg_snoc]; exact put_nodup ih _ _
theorem mrg_has (c : List (Int × Int)) (x : Int) (e : List (Int × Int)) : kprHas (mrg c e) x = true ↔ kprHas c x = true ∨ kprHas e x = true := by
  refine snoc_ind (P := fun e => kprHas (mrg c e) x = true ↔ kprHas c x = true ∨ kprHas e x = true) (by simp [mrg, kpr_has_nil]) ?_ e
  intro e p ih
  rw [mrg_snoc, kpr_has_put, Bool.or_eq_true, ih, kpr_has_append, Bool.or_eq_true, kpr_has_cons, kpr_has_nil, Bool.or_false, decide_eq_true_eq, decide_eq_true_eq]
  constructor
  · rintro (h | h | h)
    · exact .inr (.inr h.symm)
    · exact .inl h
    · exact .inr (.inl h)
  · rintro (h | h | h)
    · exact .inr (.inl h)
    · exact .inr (.inr h)
    · exact .inl h.symm
theorem mrg_sum {c : List (Int × Int)} (h : (c.map (·.1)).Nodup) (e : List (Int × Int)) : kprSum (mrg c e) = kprSum c + kprSum e := by
  refine snoc_ind (P := fun e => kprSum (mrg c e) = kprSum c + kprSum e) (by simp [mrg, kprSum]) ?_ e
  intro e p ih
  rw [mrg_snoc, kpr_sum_put (mrg_nodup h e), ih, kpr_sum_append, kpr_sum_cons]
  have : kprSum ([] : List (Int × Int)) = 0 := rfl
  omega
theorem tally_sum (l : List Int) : kprSum (tally l) = l.length := by
  refine snoc_ind (P := fun l => kprSum (tally l) = l.length) rfl ?_ l
  intro l x ih
  rw [tally_snoc, bump, kpr_sum_put (tally_nodup l), ih, List.length_append]
  simp only [List.length_cons, List.length_nil]
  omega
def whole (rs : List (List Int)) (lot : List Nat) : List (Int × Int) := lot.foldl (fun c i => mrg c (tally (col rs i))) []
theorem whole_snoc (rs : List (List Int)) (lot : List Nat) (i : Nat) : whole rs (lot ++ [i]) = mrg (whole rs lot) (tally (col rs i)) := by simp [whole]
theorem whole_nodup (rs : List (List Int)) (lot : List Nat) : ((whole rs lot).map (·.1)).Nodup := by
  refine snoc_ind (P := fun lot => ((whole rs lot).map (·.1)).Nodup) List.nodup_nil ?_ lot
  intro lot i ih
  rw [whole_snoc]; exact mrg_nodup ih _
theorem whole_sum (rs : List (List Int)) (lot : List Nat) : kprSum (whole rs lot) = lot.length * rs.length := by
  refine snoc_ind (P := fun lot => kprSum (whole rs lot) = lot.length * rs.length) (by simp [whole, kprSum]) ?_ lot
  intro lot i ih
  rw [whole_snoc, mrg_sum (whole_nodup rs lot), ih, tally_sum, List.length_append, col, List.length_map]
  simp only [List.length_cons, List.length_nil]
  have : ((lot.length + (0 + 1) : Nat) : Int) = (lot.length : Int) + 1 := by omega
  rw [this, Int.add_mul, Int.one_mul]
theorem whole_has (rs : List (List Int)) (x : Int) (lot : List Nat) : kprHas (whole rs lot) x = true ↔ ∃ i ∈ lot, x ∈ col rs i := by
  refine snoc_ind (P := fun lot => kprHas (whole rs lot) x = true ↔ ∃ i ∈ lot, x ∈ col rs i) (by simp [whole, kpr_has_nil]) ?_ lot
  intro lot i ih
  rw [whole_snoc, mrg_has, ih, tally_has]
  constructor
  · rintro (⟨j, hj, h⟩ | h)
    · exact ⟨j, List.mem_append_left _ hj, h⟩
    · exact ⟨i, List.mem_append_right _ (.head _), h⟩
  · rintro ⟨j, hj, h⟩
    rcases List.mem_append.mp hj with hj | hj
    · exact .inl ⟨j, hj, h⟩
    · rw [List.mem_singleton.mp hj] at h; exact .inr h
theorem whole_len (rs : List (List Int)) (lot : List Nat) : (whole rs lot).length ≤ lot.length * rs.length := by
  refine snoc_ind (P := fun lot => (whole rs lot).length ≤ lot.length * rs.length) (by simp [whole]) ?_ lot
  intro lot i ih
  rw [whole_snoc, List.length_append]
  have h1 := mrg_len (tally (col rs i)) (whole rs lot)
  have h2 := tally_len (col rs i)
  have h3 : (col rs i).length = rs.length := by simp [col]
  simp only [List.length_cons, List.length_nil, Nat.add_mul, Nat.one_mul, Nat.zero_add]
  omega
/-- Hall, where there is a row: a lot of the one side meets no fewer of the other -/
theorem whole_hall {r : List Int} {rs : List (List Int)} (h : r.Perm I4) {lot : List Nat} (hn : lot.Nodup) (h4 : ∀ i ∈ lot, i < 4) : lot.length ≤ (whole (r :: rs) lot).length := by
  have nd : (lot.map fun i => r.getD i 0).Nodup := by
    have rn : r.Nodup := h.symm.nodup nodup_I4
    have rl : r.length = 4 := h.length_eq
    have gen : ∀ l : List Nat, l.Nodup → (∀ i ∈ l, i < 4) → (l.map fun i => r.getD i 0).Nodup := by
      intro l
      induction l with
      | nil => intro _ _; exact List.nodup_nil
      | cons i l ih =>
        intro hl h4
        obtain ⟨n1, n2⟩ := List.nodup_cons.mp hl
        rw [List.map_cons, List.nodup_cons]
        refine ⟨fun q => ?_, ih n2 fun j hj => h4 j (.tail _ hj)⟩
        obtain ⟨j, hj, e⟩ := List.mem_map.mp q
        have hi4 := h4 i (.head _)
        have hj4 := h4 j (.tail _ hj)
        have e' : r[j]? = r[i]? := by
          simp only [List.getD_eq_getElem?_getD] at e
          rw [List.getElem?_eq_getElem (by omega), List.getElem?_eq_getElem (by omega)] at e ⊢
          simpa using e
        have := (List.getElem?_inj (by omega) rn).mp e'
        exact n1 (this ▸ hj)
    exact gen lot hn h4
  have := nodup_len (lot.map fun i => r.getD i 0) ((whole (r :: rs) lot).map (·.1)) nd fun x hx => by
    obtain ⟨i, hi, rfl⟩ := List.mem_map.mp hx
    exact kpr_has_iff.mp ((whole_has _ _ _).mpr ⟨i, hi, by simp [col]⟩)
  simpa using this
/-! What the pairs tell, told again one by one. -/
def told (c : Cn) : List (Int × Int) := c.flatMap fun p => List.replicate p.2.toNat p.1
theorem told_count {c : Cn} (hn : (c.map (·.1)).Nodup) (q : Int × Int) : (told c).count q = (kprLook c q 0).toNat := by
  induction c with
  | nil => rfl
  | cons p c ih =>
    rw [List.map_cons, List.nodup_cons] at hn
    rw [told, List.flatMap_cons, List.count_append, List.count_replicate, kpr_look_cons]
    have ih := ih hn.2
    rw [told] at ih
    by_cases e : p.1 = q
    · subst e
      have h0 : kprLook c p.1 0 = 0 := kpr_look_none (kpr_has_false.mpr hn.1) 0
      rw [h0] at ih
      rw [if_pos rfl, ih]; simp
    · have e' : ¬ (p.1 == q) = true := by simpa using e
      rw [if_neg e, if_neg e', ih]; omega
theorem told_perm {c : Cn} {fl : List (Int × Int)} (hn : (c.map (·.1)).Nodup) (h : ∀ q, (fl.count q : Int) = kprLook c q 0) : fl.Perm (told c) := by
  rw [List.perm_iff_count]
  intro q
  rw [told_count hn]
  have := h q
  omega
end Mine
end

section
open PySem PySem.W PySem.Calls PyProof.Rows
set_option maxRecDepth 100000
set_option maxHeartbeats 4000000
namespace Mine
abbrev lawEnv (L f : Addr) (cd : Value) : Env := envOfC (sName (defAt 9)) (sScope (defAt 9)) L f cd
def lawStmt (i : Nat) : PySem.Stmt := (sBody (defAt 9)).getD i (.Pass default)
def cells (L : Addr) (s r k p mk : Option Value) : List (Addr × AO) := [(L + 1, .cell s), (L + 2, .cell r), (L + 3, .cell k), (L + 4, .cell p), (L + 5, .cell mk)]
def V₀ (L : Addr) : List Addr := [L, L + 1, L + 2, L + 3, L + 4, L + 5]
def rfs {β : Type} (q : List (Addr × β)) : List Value := q.map fun p => .ref p.1
def fL (p : Addr × List Value) : Addr × AO := (p.1, .lst p.2)
def f3 (p : Addr × List (Int × Int)) : Addr × AO := (p.1, .d3 p.2)
def fP (p : Addr × List (Int × Int)) : Addr × AO := (p.1, .pl p.2)
/-- rows, out of V -/
def RowAt (V : List Addr) (h : Heap) (v : Value) (r : List Int) : Prop := ∃ b us, v = .ref b ∧ b ∉ V ∧ h.PlainList b (List.toArray us) ∧ IntsAre us r
inductive RowsAt (V : List Addr) (h : Heap) : List Value → List (List Int) → Prop
  | nil : RowsAt V h [] []
  | cons {v : Value} {r : List Int} {vs : List Value} {rs : List (List Int)} : RowAt V h v r → RowsAt V h vs rs → RowsAt V h (v :: vs) (r :: rs)
section
variable {prog : Program} {w : World} {h₀ hb : Heap} {W : List Addr} {a d L f : Addr} {cd : Value} {m : Str → Option Value} {O : List (Addr × AO)} {A : Around} {s : Shared}
theorem RowsAt.kp {V : List Addr} {h h' : Heap} {vs : List Value} {rs : List (List Int)} (x : RowsAt V h vs rs) (k : Kp h₀ V h h') : RowsAt V h' vs rs := by
  induction x with
  | nil => exact .nil
  | cons p _ ih =>
    obtain ⟨b, us, e, hb, p1, p2⟩ := p
    exact .cons ⟨b, us, e, hb, Heap.PlainList.at p1 fun o z => k.keep b o hb z, p2⟩ ih
theorem RowsAt.len {V : List Addr} {h : Heap} {vs : List Value} {rs : List (List Int)} (x : RowsAt V h vs rs) : vs.length = rs.length := by
  induction x with
  | nil => rfl
  | cons _ _ ih => simp [ih]
theorem RowsAt.get {V : List Addr} {h : Heap} {vs : List Value} {rs : List (List Int)} (x : RowsAt V h vs rs) : ∀ {i : Nat} {r : List Int}, rs[i]? = some r → ∃ v, vs[i]? = some v ∧ RowAt V h v r := by
  induction x with
  | nil => intro i p e; simp at e
  | cons p y ih => intro i q e; cases i with
    | zero => simp at e; subst e; exact ⟨_, rfl, p⟩
    | succ i => exact ih (by simpa using e)
theorem rowsAt_of {V : List Addr} {h : Heap} : ∀ {q : List (Addr × List Value)}, (∀ p ∈ q, h.PlainList p.1 p.2.toArray ∧ p.1 ∉ V) → (∀ p ∈ q, ∃ r : List Int, IntsAre p.2 r ∧ r.Perm I4) → ∃ rs, RowsAt V h (rfs q) rs ∧ ∀ r ∈ rs, r.Perm I4
  | [], _, _ => ⟨[], .nil, fun _ z => (List.not_mem_nil z).elim⟩
  | p :: q, h1, h2 => by
    obtain ⟨r, r1, r2⟩ := h2 p (.head _)
    obtain ⟨rs, s1, s2⟩ := rowsAt_of (fun p hp => h1 p (.tail _ hp)) fun p hp => h2 p (.tail _ hp)
    refine ⟨r :: rs, .cons ⟨p.1, p.2, rfl, (h1 p (.head _)).2, (h1 p (.head _)).1, r1⟩ s1, fun z hz => ?_⟩
    rcases List.mem_cons.mp hz with rfl | hz
    · exact r2
    · exact s2 z hz
/-- objects laid aside: none of them will change -/
theorem St.freeze {P B : List (Addr × AO)} {h : Heap} (x : St prog w h₀ hb W L m (P ++ B) h) : St prog w h₀ h (L :: B.map (·.1)) L m B h ∧ ∀ p ∈ P, Rep prog w h p.1 p.2 ∧ p.1 ∉ L :: B.map (·.1) := by
  refine ⟨(x.sub (List.sublist_append_right P B)).rebase, fun p hp => ⟨(x.objs p (List.mem_append_left _ hp)).1, fun q => ?_⟩⟩
  have nd := x.nodup
  rw [List.map_append] at nd
  obtain ⟨n1, n2⟩ := List.nodup_cons.mp nd
  have hm : p.1 ∈ P.map (·.1) := List.mem_map.mpr ⟨p, hp, rfl⟩
  rcases List.mem_cons.mp q with q | q
  · exact n1 (q ▸ List.mem_append_left _ hm)
  · exact (List.nodup_append.mp n2).2.2 _ hm _ q rfl
/-- from the base to a turn's start -/
theorem St.kpTo {h h' : Heap} (x : St prog w h₀ hb W L m O h) (k : Kp h₀ (L :: O.map (·.1)) h h') : Kp h₀ W hb h' := x.chg.toKp.step k x.may

theorem back1 {x : Addr × AO} {P B : List (Addr × AO)} {j : Nat} : (x :: (P ++ B))[P.length + 1 + j]? = B[j]? := by
  rw [show P.length + 1 + j = (P.length + j) + 1 by omega, List.getElem?_cons_succ, List.getElem?_append_right (by omega)]
  congr 1; omega
theorem back0 {P B : List (Addr × AO)} {j : Nat} : (P ++ B)[P.length + j]? = B[j]? := by
  rw [List.getElem?_append_right (by omega)]
  congr 1; omega
/-- a call gave a new object -/
theorem St.got {h h' : Heap} {r : Addr} {o : AO} (x : St prog w h₀ hb W L m O h) (c : Chg h₀ [] h h') (hr : h.get? r = none) (rep : Rep prog w h' r o) (lo : h₀.objs.size ≤ r) : St prog w h₀ hb W L m ((r, o) :: O) h' :=
  (x.call0 c).add rep lo (fun q => by obtain ⟨o', ho⟩ := x.all r q; rw [hr] at ho; cases ho) (.inr (x.chg.none hr))

theorem law_rows {vs : List Value} {ns : List Int} {Q : Flow → Shared → Prop} (T : Tp h₀) (R : Rm A 5 60) (ha : h₀.IsList a vs.toArray) (hi : IntsAre vs ns) (hl : ns.length ≤ 63)
    (X : St prog w h₀ hb W L m (cells L (some (.ref a)) none none none none) s.heap)
    (h : ∀ h₁ h' tk D us rs, St prog w h₀ h₁ (V₀ L) L m (cells L (some (.ref a)) (some (.ref D)) none none none) h' → h₁.PlainList D (List.toArray us) → D ∉ V₀ L → RowsAt (V₀ L) h₁ us rs → (rs.length = 2 ∨ rs.length = 3) → (∀ r ∈ rs, r.Perm I4) → Q .next { s with heap := h', toks := tk }) :
    wpAny (model prog w) A (exec (lawStmt 0) (lawEnv L f cd)) Q (fun _ _ => False) s := by
  have hlen : vs.length = ns.length := intsAre_len hi
  have hL : ∀ h', Fr h₀ L h' m → h'.IsList a vs.toArray := fun h' F => ha.at fun o e => F.keep a o e
  refine wpAny_Assign_Name ?_
  refine list_comp (cl := [("script", L + 1)]) rfl ?_
  refine wpAny_Call_NameR ?_
  refine eG T X.fr (gmem (i := 6) rfl) ?_
  refine PyProof.Rows.callWith_type1 (args_cons (wpAny_BinOp (wpAny_Constant_int (wpAny_BinOp ?_))))
  refine wpAny_Call_NameR ?_
  refine eG T X.fr (gmem (i := 11) rfl) ?_
  refine PyProof.Rows.callWith_builtin1 (args_cons (eC (i := 0) X rfl rfl (args_nil ?_)))
  refine sum_list R.hh (hL _ X.fr) hi fun h₁ tk₁ t₁ k₁ => ?_
  have X₁ := X.other (V := []) (h' := h₁) ⟨fun b o _ e => k₁ b o e, fun b o _ e => k₁ b o e, fun b o e _ => k₁ b o e⟩ (fun _ q => nomatch q) (fun _ q => nomatch q)
  refine wpAny_Constant_int (mod_int (by decide) (add_int (args_nil ?_)))
  dsimp only
  have hn : ∃ n : Nat, (2 + ns.sum.fmod 2 : Int) = (n : Int) ∧ (n = 2 ∨ n = 3) := by
    have h0 : 0 ≤ ns.sum.fmod 2 := Int.fmod_nonneg_of_pos _ (by decide)
    have h1 : ns.sum.fmod 2 < 2 := Int.fmod_lt_of_pos _ (by decide)
    exact ⟨(2 + ns.sum.fmod 2).toNat, by omega, by omega⟩
  obtain ⟨n, en, hn⟩ := hn
  rw [en]
  refine call_range_1 ?_
  dsimp only
  refine it_range (n := n) R.hh (X₁.push _) (Heap.get?_push_size _ rfl) (by omega) fun h₂ X₂ k₂ I₂ => ?_
  refine comp_in (g := ⟨_, _, _, 0⟩) rfl rfl (fun D C => rule_a) (fun D C K K' s => EmitA.mono) X₂ (I₂ _ fun _ _ => rfl) (Emit := fun D e => EmitA prog w A _ e (.ref D))
    (fun D i m₁ O₁ => ∃ q, O₁ = (D, .lst (rfs q)) :: (q.map fL ++ cells L (some (.ref a)) none none none none) ∧ q.length = i ∧ ∀ p ∈ q, ∃ r : List Int, IntsAre p.2 r ∧ r.Perm I4)
    (fun D _ => ⟨[], rfl, rfl, fun _ z => (List.not_mem_nil z).elim⟩) ?_ ?_
  · rintro D C _ i v m₁ O₁ h₃ tk₃ hi3 ⟨tv, rfl⟩ ⟨q, rfl, hq, hq2⟩ X₃ k₃
    have hn3 : n ≤ 3 := by omega
    refine wpAny_assign_Name (sN X₃ fun h₄ X₄ => ?_)
    unfold EmitA
    refine wpAny_Call_NameR ?_
    refine eG T X₄.fr (gmem (i := 4) rfl) ?_
    refine callG T.ord (args_cons (sub_slice (eC (i := (q.map fL).length + 1 + 0) X₄ (by rw [back1]; rfl) rfl ?_)))
    have hm : ∀ x : Int, IntMulOk 4 x := fun x => .of_left (by decide)
    refine wpAny_evalPart_some (wpAny_BinOp (wpAny_Constant_int (eN X₄ rfl (PyProof.Rows.mul_int ?_ (hm _)))))
    refine wpAny_evalPart_some (wpAny_BinOp (wpAny_BinOp (wpAny_Constant_int (eN X₄ rfl (PyProof.Rows.mul_int ?_ (hm _))))))
    refine wpAny_Constant_int (add_int ?_)
    dsimp only
    refine ⟨a, vs.toArray, _, _, rfl, ha.at fun o e => X₄.fr.keep a o e, ?_, .int _ _, .int _ _, ?_⟩
    · rw [List.size_toArray, sizeLine_eq]; omega
    refine args_nil ⟨fun b o e => Heap.get?_push_of_some _ (Heap.get?_push_of_some _ (X₄.fr.keep b o e)), ?_⟩
    have hpl := IntsAre.pick hi (some (4 * (i : Int))) (some (4 * (i : Int) + 4)) none
    have hsz := slicePick_size_le vs.toArray (some (4 * (i : Int))) (some (4 * (i : Int) + 4)) none
    have hsz2 : vs.toArray.size = vs.length := List.size_toArray ..
    refine law_order_spec (vs := (slicePick vs.toArray (some (4 * (i : Int))) (some (4 * (i : Int) + 4)) none).toList) T (R.le (by omega) (by omega)) (fun b o e => Heap.get?_push_of_some _ (Heap.get?_push_of_some _ (X₄.fr.keep b o e))) ((X₄.push _).push _).big ?_ hpl (by rw [Array.length_toList]; omega) fun h₆ tk₆ r us ps c₆ hr hlo hp hus hps => ?_
    · rw [Array.toArray_toList]
      exact ⟨0, Heap.get?_push_size _ rfl⟩
    have X₆ := ((X₄.push _).push _).got (o := .lst us) c₆ hr hp hlo
    have hrl : (rfs q).length ≤ 1000 := by rw [rfs, List.length_map]; omega
    refine lst_append (X₆.get (i := 1) rfl) hrl fun h₇ p₇ s₇ => ?_
    have X₇ := X₆.put (i := 1) (o' := .lst _) rfl s₇ p₇
    have X₈ := St.snoc (f := fL) (p' := (r, us)) (P := [(D, .lst (rfs q ++ [.ref r]))]) X₇
    refine ⟨h₇, _, _, _, rfl, X₈, q ++ [(r, us)], ?_, by simp [hq], fun p hp' => ?_⟩
    · simp [rfs]
    · rcases List.mem_append.mp hp' with hp' | hp'
      · exact hq2 p hp'
      · rw [List.mem_singleton.mp hp']; exact ⟨ps, hus, hps⟩
  · rintro D m₁ O₁ h₃ tk₃ ⟨q, rfl, hq, hq2⟩ X₃ k₃ hD
    have X₃' : St prog w h₀ hb W L m (((D, .lst (rfs q)) :: q.map fL) ++ cells L (some (.ref a)) none none none none) h₃ := X₃
    obtain ⟨X₄, fz⟩ := X₃'.freeze
    obtain ⟨rs, hrs, hrs2⟩ := rowsAt_of (V := V₀ L) (h := h₃) (q := q) (fun p hp => fz (fL p) (.tail _ (List.mem_map.mpr ⟨p, hp, rfl⟩))) hq2
    refine sC (i := 1) X₄ rfl rfl fun h₄ X₅ => ?_
    have hl : rs.length = n := by rw [← hrs.len, rfs, List.length_map, hq]
    exact h h₃ h₄ _ D _ rs X₅ (fz _ (.head _)).1 (fz _ (.head _)).2 hrs (by omega) hrs2
end
end Mine
end

section
open PySem PySem.W PySem.Calls PyProof.Rows
set_option maxRecDepth 100000
set_option maxHeartbeats 4000000
namespace Mine
section
variable {prog : Program} {w : World} {h₀ hb : Heap} {W : List Addr} {a d L f : Addr} {cd : Value} {m : Str → Option Value} {O : List (Addr × AO)} {A : Around} {s : Shared} {env : Env}
def Inv (hb : Heap) (W : List Addr) (L : Addr) (O : List (Addr × AO)) : Prop := ∀ a ∈ L :: O.map (·.1), a ∈ W ∨ hb.get? a = none
theorem inv_next {h h' : Heap} {O₁ O' : List (Addr × AO)} {m' : Str → Option Value} (K : Kp h₀ W hb h) (inv : Inv hb W L O₁) (X : St prog w h₀ h (L :: O₁.map (·.1)) L m' O' h') : Inv hb W L O' := fun a q => by
  rcases X.may a q with z | z
  · exact inv a z
  · by_cases hw : a ∈ W
    · exact .inl hw
    · refine .inr ?_
      cases e : hb.get? a with
      | none => rfl
      | some o => rw [K.keep a o hw e] at z; cases z
theorem Inv.up {h : Heap} {O₁ O' : List (Addr × AO)} {L' : Addr} (K : Kp h₀ W hb h) (inv : Inv hb W L O₁) (i : Inv h (L :: O₁.map (·.1)) L' O') : Inv hb W L' O' := fun a q => by
  rcases i a q with z | z
  · exact inv a z
  · by_cases hw : a ∈ W
    · exact .inl hw
    · refine .inr ?_
      cases e : hb.get? a with
      | none => rfl
      | some o => rw [K.keep a o hw e] at z; cases z
theorem Turn.mono {h : Heap} {Wt : List Addr} {J J' : (Str → Option Value) → List (Addr × AO) → Prop} {Q : Flow → Shared → Prop} {fl : Flow} {s' : Shared} (hj : ∀ m' O' h', St prog w h₀ h Wt L m' O' h' → J m' O' → J' m' O') (x : Turn prog w h₀ h L Wt J Q s fl s') : Turn prog w h₀ h L Wt J' Q s fl s' := by
  cases fl with
  | ret v => exact x
  | brk => exact x
  | next => obtain ⟨h', tk, m', O', e, y, j⟩ := x; exact ⟨h', tk, m', O', e, y, hj _ _ _ y j⟩
  | cont => obtain ⟨h', tk, m', O', e, y, j⟩ := x; exact ⟨h', tk, m', O', e, y, hj _ _ _ y j⟩
theorem step_more {target : PySem.Expr} {body : List PySem.Stmt} {n : Nat} {P : Nat → Value → Heap → Prop} {J : Nat → (Str → Option Value) → List (Addr × AO) → Prop} {R : Flow → Shared → Prop} (X : St prog w h₀ hb W env.locals m O s.heap)
    (step : ∀ i v m₁ O₁ h tk, i < n → P i v h → J i m₁ O₁ → St prog w h₀ h (env.locals :: O₁.map (·.1)) env.locals m₁ O₁ h → Kp h₀ W hb h → Inv hb W env.locals O₁ →
      wpAny (model prog w) A (assign target env v) (fun _ s₂ => wpAny (model prog w) A (execs body env) (Turn prog w h₀ h env.locals (env.locals :: O₁.map (·.1)) (J (i + 1)) R { s with heap := h, toks := tk }) (fun _ _ => False) s₂) (fun _ _ => False) { s with heap := h, toks := tk }) :
    Step prog w A h₀ s.heap env target body O n P (fun i m₁ O₁ => J i m₁ O₁ ∧ Inv hb W env.locals O₁) R s := by
  rintro i v m₁ O₁ h tk hi hP ⟨hJ, hI⟩ X₁ k
  have K := X.kpTo k
  exact wpAny_mono (step i v m₁ O₁ h tk hi hP hJ X₁ K hI) (fun _ _ g => wpAny_mono g (fun fl s' t => t.mono fun m' O' h' y j => ⟨j, inv_next K hI y⟩) fun _ _ e => e) fun _ _ e => e
theorem St.inv {h : Heap} (X : St prog w h₀ hb W L m O h) : Inv hb W L O := X.may
theorem TurnEnd.mono {h : Heap} {Wt : List Addr} {J J' : (Str → Option Value) → List (Addr × AO) → Prop} {s' : Shared} (hj : ∀ m' O' h', St prog w h₀ h Wt L m' O' h' → J m' O' → J' m' O') (x : TurnEnd prog w h₀ h L Wt J s s') : TurnEnd prog w h₀ h L Wt J' s s' := by
  obtain ⟨h', tk, m', O', e, y, j⟩ := x; exact ⟨h', tk, m', O', e, y, hj _ _ _ y j⟩
def InvO (hb : Heap) (W : List Addr) (O : List (Addr × AO)) : Prop := ∀ a ∈ O.map (·.1), a ∈ W ∨ hb.get? a = none
theorem St.invO {h : Heap} (X : St prog w h₀ hb W L m O h) : InvO hb W O := fun a q => X.may a (.tail _ q)
theorem InvO.cons {b : Addr} {o : AO} (x : InvO hb W O) (hb' : hb.get? b = none) : InvO hb W ((b, o) :: O) := fun a q => by
  rcases List.mem_cons.mp q with rfl | q
  · exact .inr hb'
  · exact x a q
/-- a step of a comprehension, told from the outer base -/
theorem cstep_more {target : PySem.Expr} {I C : Addr} {n : Nat} {P : Nat → Value → Heap → Prop} {J : Nat → (Str → Option Value) → List (Addr × AO) → Prop} {Emit : (Shared → Prop) → Shared → Prop} (X : St prog w h₀ hb W L m O s.heap) (hI : hb.get? I = none) (hC : s.heap.get? C = none) (emono : ∀ K K' s, (∀ s, K s → K' s) → Emit K s → Emit K' s)
    {cenv : Env}
    (step : ∀ i v m₁ O₁ h tk, i < n → P i v h → J i m₁ O₁ → St prog w h₀ h (C :: O₁.map (·.1)) C m₁ O₁ h → Kp h₀ W hb h → Inv hb W C O₁ →
      wpAny (model prog w) A (assign target cenv v) (fun _ s₂ => Emit (TurnEnd prog w h₀ h C (C :: O₁.map (·.1)) (J (i + 1)) { s with heap := h, toks := tk }) s₂) (fun _ _ => False) { s with heap := h, toks := tk }) :
    ∀ i v m₁ O₁ h tk, i < n → P i v h → (J i m₁ O₁ ∧ InvO hb W O₁) → St prog w h₀ h (C :: O₁.map (·.1)) C m₁ O₁ h → Kp h₀ (I :: O.map (·.1)) s.heap h →
      wpAny (model prog w) A (assign target cenv v) (fun _ s₂ => Emit (TurnEnd prog w h₀ h C (C :: O₁.map (·.1)) (fun m₂ O₂ => J (i + 1) m₂ O₂ ∧ InvO hb W O₂) { s with heap := h, toks := tk }) s₂) (fun _ _ => False) { s with heap := h, toks := tk } := by
  rintro i v m₁ O₁ h tk hi hP ⟨hJ, hJ2⟩ X₁ k
  have K : Kp h₀ W hb h := X.chg.toKp.step k fun b q => by
    rcases List.mem_cons.mp q with rfl | q
    · exact .inr hI
    · exact X.may b (.tail _ q)
  have inv : Inv hb W C O₁ := fun a q => by
    rcases List.mem_cons.mp q with rfl | q
    · exact .inr (X.chg.none hC)
    · exact hJ2 a q
  exact wpAny_mono (step i v m₁ O₁ h tk hi hP hJ X₁ K inv) (fun _ _ g => emono _ _ _ (fun s' t => t.mono fun m' O' h' y j => ⟨j, fun a q => inv_next K inv y a (.tail _ q)⟩) g) fun _ _ e => e
end
end Mine
end

section
open PySem PySem.W PySem.Calls PyProof.Rows
set_option maxRecDepth 100000
set_option maxHeartbeats 4000000
namespace Mine
section
variable {prog : Program} {w : World} {h₀ hb : Heap} {W : List Addr} {a d L f : Addr} {cd : Value} {m : Str → Option Value} {O : List (Addr × AO)} {A : Around} {s : Shared} {env : Env}
theorem sCB {P B : List (Addr × AO)} {j : Nat} {c : Addr} {n : Str} {v₀ : Option Value} {v : Value} {Q : Unit → Shared → Prop} (x : St prog w h₀ hb W L m (P ++ B) s.heap) (hv : B[j]? = some (c, .cell v₀)) (hc : env.cells.lookup n = some c)
    (h : ∀ h', St prog w h₀ hb W L m (P ++ B.set j (c, .cell (some v))) h' → Q () { s with heap := h' }) (hk : env.scope.kind = .function := by rfl) (hl : env.kindOf n = some .cell := by rfl) : wpAny (model prog w) A (storeName env n v) Q (fun _ _ => False) s := by
  refine sC (i := P.length + j) x (by rw [back0]; exact hv) hc (fun h' x' => h h' ?_) hk hl
  have e : (P ++ B).set (P.length + j) (c, AO.cell (some v)) = P ++ B.set j (c, .cell (some v)) := by
    rw [List.set_append_right _ _ (by omega), show P.length + j - P.length = j by omega]
  rw [e] at x'
  exact x'
theorem eCB {P B : List (Addr × AO)} {j : Nat} {c : Addr} {n : Str} {pos : Pos} {v : Value} {Q : Value → Shared → Prop} (x : St prog w h₀ hb W L m (P ++ B) s.heap) (hv : B[j]? = some (c, .cell (some v))) (hc : env.cells.lookup n = some c) (h : Q v s)
    (hk : env.scope.kind = .function := by rfl) (hl : env.kindOf n = some .cell := by rfl) (hd : (n == ("__debug__" : Str)) = false := by decide) : wpAny (model prog w) A (eval (.Name n pos) env) Q (fun _ _ => False) s :=
  eC (i := P.length + j) x (by rw [back0]; exact hv) hc h hk hl hd
theorem lo_of (T : Tp h₀) {n : Nat} (h : h₀.objs.size ≤ n) : (n == sysModules) = false :=
  beq_eq_false_iff_ne.mpr (Nat.ne_of_gt (Nat.lt_of_lt_of_le (by show sysModules < 66; decide) (Nat.le_trans T.big h)))
theorem law_make {sv rv : Value} {Q : Flow → Shared → Prop} (T : Tp h₀) (R : Rm A 5 60) (X : St prog w h₀ hb W L m (cells L (some sv) (some rv) none none none) s.heap)
    (h : ∀ h' tk K Pd q, St prog w h₀ hb W L m ((K, .lst (rfs q)) :: (Pd, .d2 []) :: (q.map f3 ++ cells L (some sv) (some rv) (some (.ref K)) (some (.ref Pd)) none)) h' → q.length = 4 → (∀ p ∈ q, p.2 = []) → Q .next { s with heap := h', toks := tk }) :
    wpAny (model prog w) A (exec (lawStmt 1) (lawEnv L f cd)) Q (fun _ _ => False) s := by
  refine PyProof.Rows.Assign_Tuple ?_
  refine wpAny_Tuple ?_
  refine args_cons ?_
  refine list_comp (cl := []) rfl ?_
  refine wpAny_Call_NameR ?_
  refine eG T X.fr (gmem (i := 6) rfl) ?_
  refine PyProof.Rows.callWith_type1 (args_cons (wpAny_Constant_int (args_nil ?_)))
  refine call_range_1 ?_
  dsimp only
  refine it_range (n := 4) R.hh (X.push _) (Heap.get?_push_size _ rfl) (by omega) fun h₂ X₂ k₂ I₂ => ?_
  refine comp_in (g := ⟨_, _, _, 0⟩) rfl rfl (fun D C => rule_a) (fun D C K K' s => EmitA.mono) X₂ (I₂ _ fun _ _ => rfl) (Emit := fun D e => EmitA prog w A _ e (.ref D))
    (fun D i m₁ O₁ => ∃ q, O₁ = (D, .lst (rfs q)) :: (q.map f3 ++ cells L (some sv) (some rv) none none none) ∧ q.length = i ∧ ∀ p ∈ q, p.2 = [])
    (fun D _ => ⟨[], rfl, rfl, fun _ z => (List.not_mem_nil z).elim⟩) ?_ ?_
  · rintro D C _ i v m₁ O₁ h₃ tk₃ hi3 ⟨tv, rfl⟩ ⟨q, rfl, hq, hq2⟩ X₃ k₃
    refine wpAny_assign_Name (sN X₃ fun h₄ X₄ => ?_)
    unfold EmitA
    refine wpAny_Dict_empty ?_
    have X₅ := X₄.new (o := .d3 []) { cls := .type "dict", data := .dict #[] } ⟨lo_of T X₄.big, [], .new _, .nil⟩
    refine lst_append (X₅.get (i := 1) rfl) (by rw [rfs, List.length_map]; omega) fun h₇ p₇ s₇ => ?_
    have X₇ := X₅.put (i := 1) (o' := .lst _) rfl s₇ p₇
    have X₈ := St.snoc (f := f3) (p' := (h₄.objs.size, [])) (P := [(D, .lst (rfs q ++ [.ref h₄.objs.size]))]) X₇
    refine ⟨h₇, _, _, _, rfl, X₈, q ++ [(h₄.objs.size, [])], by simp [rfs], by simp [hq], fun p hp' => ?_⟩
    rcases List.mem_append.mp hp' with hp' | hp'
    · exact hq2 p hp'
    · rw [List.mem_singleton.mp hp']
  · rintro K m₁ O₁ h₃ tk₃ ⟨q, rfl, hq, hq2⟩ X₃ k₃ hD
    refine args_cons (wpAny_Dict_empty (args_nil ⟨by size_fits, ?_⟩))
    dsimp only
    have X₄ := X₃.new (o := .d2 []) { cls := .type "dict", data := .dict #[] } ⟨lo_of T X₃.big, [], .new _, .nil⟩
    have X₅ := X₄.push { cls := .type "tuple", data := .seq #[.ref K, .ref h₃.objs.size] }
    refine wpAny_assign_Tuple (items := #[.ref K, .ref h₃.objs.size]) R.hh ⟨_, Heap.get?_push_size _ rfl, rfl, _, rfl⟩ rfl rfl fun h₆ e₆ => ?_
    have X₆ := X₅.other (Kp.ofExt e₆ (fun o e => absurd (Heap.lt_size e) (Nat.lt_irrefl _)) X₅.big) (fun a q => by rw [List.mem_singleton.mp q]; exact X₅.fresh) fun a q => by rw [List.mem_singleton.mp q]; exact X₅.chg.fresh
    have X₇ : St prog w h₀ hb W L m (((K, .lst (rfs q)) :: (h₃.objs.size, .d2 []) :: q.map f3) ++ cells L (some sv) (some rv) none none none) h₆ := X₆.perm (.swap ..)
    refine wpAny_assignInOrder_more (wpAny_assign_Name (sCB (j := 2) X₇ rfl rfl fun h₈ X₈ => ?_))
    refine wpAny_assignInOrder_more (wpAny_assign_Name (sCB (j := 3) X₈ rfl rfl fun h₉ X₉ => wpAny_assignInOrder_none ?_))
    exact h h₉ _ K h₃.objs.size q X₉ hq hq2
end
end Mine
end

section
open PySem PySem.W PySem.Calls PyProof.Rows
set_option maxRecDepth 100000
set_option maxHeartbeats 4000000
namespace Mine
section
variable {prog : Program} {w : World} {h₀ hb : Heap} {W : List Addr} {a d L f : Addr} {cd : Value} {m : Str → Option Value} {O : List (Addr × AO)} {A : Around} {s : Shared} {env : Env}
theorem St.il {h : Heap} {vs : List Value} (x : St prog w h₀ hb W L m ((d, .lst vs) :: O) h) : St prog w h₀ hb W L m ((d, .il vs) :: O) h :=
  ⟨x.fr, x.chg, fun p hp => by
    rcases List.mem_cons.mp hp with rfl | hp
    · exact ⟨Heap.PlainList.isList (x.get (i := 0) rfl), x.lo (i := 0) rfl⟩
    · exact x.objs p (.tail _ hp), x.nodup, x.may⟩
abbrev cF (L : Addr) (sv : Value) (D K Pd : Addr) (mk : Option Value) : List (Addr × AO) := cells L (some sv) (some (.ref D)) (some (.ref K)) (some (.ref Pd)) mk
theorem take_next {α : Type} {l : List α} {i : Nat} {x : α} (h : l[i]? = some x) : l.take (i + 1) = l.take i ++ [x] := by
  rw [List.take_add_one, h]; rfl
/-- a new object that is changed, not of ours -/
theorem St.made2 {h h' h'' : Heap} {b : Addr} (x : St prog w h₀ hb W L m O h) (y : St prog w h₀ hb W L m O h') (hb' : h.get? b = none) (hs : Heap.SameBut b h' h'') (hn : NotTup h' b) (lo : h₀.objs.size ≤ b) : St prog w h₀ hb W L m O h'' :=
  y.other (.same hs hn lo) (fun a q => by
    rw [List.mem_singleton.mp q]
    intro z
    obtain ⟨o, ho⟩ := x.all b z
    rw [hb'] at ho; cases ho) fun a q => by rw [List.mem_singleton.mp q]; exact x.chg.none hb'

theorem mid2 {β : Type} {g : β → Addr × AO} {q : List β} {x y : Addr × AO} {B : List (Addr × AO)} {j : Nat} {p : β} (h : q[j]? = some p) : (x :: y :: (q.map g ++ B))[j + 2]? = some (g p) := by
  rw [List.getElem?_cons_succ, List.getElem?_cons_succ, List.getElem?_append_left (by rw [List.length_map]; exact (List.getElem?_eq_some_iff.mp h).1), List.getElem?_map, h]; rfl
theorem notTup_dict {h : Heap} {b : Addr} (e : h.get? b = some { cls := .type "dict", data := .dict #[] }) : NotTup h b := by
  rintro o ho ⟨hc, _⟩
  rw [e] at ho; cases ho; exact absurd hc (by decide)
theorem law_fill {us : List Value} {rs : List (List Int)} {q : List (Addr × List (Int × Int))} {sv : Value} {D K Pd : Addr} {Q : Flow → Shared → Prop} (T : Tp h₀) (R : Rm A 5 60)
    (X : St prog w h₀ hb (V₀ L) L m ((K, .lst (rfs q)) :: (Pd, .d2 []) :: (q.map f3 ++ cF L sv D K Pd none)) s.heap) (hq : q.length = 4) (hq2 : ∀ p ∈ q, p.2 = []) (hD : hb.PlainList D us.toArray) (hDV : D ∉ V₀ L) (hrs : RowsAt (V₀ L) hb us rs) (hr3 : rs.length ≤ 3) (hp : ∀ r ∈ rs, r.Perm I4)
    (h : ∀ h' tk m' q', St prog w h₀ hb (V₀ L) L m' ((K, .il (rfs q')) :: (Pd, .d2 (tally (allPairs rs))) :: (q'.map f3 ++ cF L sv D K Pd none)) h' → q'.length = 4 → (∀ a, a < 4 → ∃ p, q'[a]? = some p ∧ p.2 = tally (col rs a)) → Q .next { s with heap := h', toks := tk }) :
    wpAny (model prog w) A (exec (lawStmt 2) (lawEnv L f cd)) Q (fun _ _ => False) s := by
  have hDk : ∀ h', Kp h₀ (V₀ L) hb h' → h'.PlainList D us.toArray := fun h' k => Heap.PlainList.at hD fun o e => k.keep D o hDV e
  obtain ⟨oD, hoD⟩ : ∃ o, hb.get? D = some o := let ⟨n, e⟩ := hD; ⟨_, e⟩
  have hus : us.length = rs.length := hrs.len
  refine for_stmt (eCB (P := (K, .lst (rfs q)) :: (Pd, .d2 []) :: q.map f3) (j := 1) X rfl rfl ?_)
  have X₀ := X.il
  refine loop_list (prog := prog) (w := w) R.hh X₀ (Heap.PlainList.isList (hDk _ X₀.chg.toKp)) (X₀.notIn hoD hDV)
    (fun i m₁ O₁ => (∃ q, O₁ = (K, .il (rfs q)) :: (Pd, .d2 (tally (allPairs (rs.take i)))) :: (q.map f3 ++ cF L sv D K Pd none) ∧ q.length = 4 ∧ ∀ a, a < 4 → ∃ p, q[a]? = some p ∧ p.2 = tally (col (rs.take i) a)) ∧ Inv hb (V₀ L) L O₁)
    ⟨⟨q, rfl, hq, fun a ha => ⟨q[a]'(by omega), by simp [hq, ha], hq2 _ (List.getElem_mem _)⟩⟩, X₀.inv⟩ (step_more X₀ ?_) ?_
  · rintro i v m₁ O₁ h₁ tk₁ hi ev ⟨q₁, rfl, hq₁, hq₁'⟩ X₁ K₁ inv₁
    have hi' : i < rs.length := by rw [← hus]; simpa using hi
    obtain ⟨v', ev', b, rv, rfl, hbV, hbl, hbi⟩ := hrs.get (List.getElem?_eq_getElem hi')
    have : v = .ref b := by rw [List.getElem?_toArray] at ev; rw [ev] at ev'; exact Option.some.inj ev'
    subst this
    have hperm := hp _ (List.getElem_mem hi')
    have hrl : (rs[i]).length = 4 := hperm.length_eq
    refine wpAny_assign_Name (sN X₁ fun h₂ X₂ => ?_)
    refine wpAny_execs_cons (for_range (n := 4) T R.hh X₂ (by decide)
      (fun j m₂ O₂ => (m₂ "row" = some (.ref b) ∧ ∃ q, O₂ = (K, .il (rfs q)) :: (Pd, .d2 (tally (allPairs (rs.take i) ++ (rowPairs rs[i]).take j))) :: (q.map f3 ++ cF L sv D K Pd none) ∧ q.length = 4 ∧ ∀ a, a < 4 → ∃ p, q[a]? = some p ∧ p.2 = tally (col (rs.take i) a ++ if a < j then [(rs[i]).getD a 0] else [])) ∧ Inv h₁ _ L O₂)
      ⟨⟨rfl, q₁, by simp, hq₁, fun a ha => by simpa using hq₁' a ha⟩, X₂.inv⟩ (step_more X₂ ?_) ?_)
    · rintro j v m₂ O₂ h₃ tk₃ hj ⟨tv, rfl⟩ ⟨mr, q₂, rfl, hq₂, hq₂'⟩ X₃ k₃ inv₃
      have K₃ : Kp h₀ (V₀ L) hb h₃ := K₁.step k₃ inv₁
      have inv₃' : Inv hb (V₀ L) L _ := Inv.up K₁ inv₁ inv₃
      refine wpAny_assign_Name (sN X₃ fun h₄ X₄ => ?_)
      have row : ∀ {h'}, Kp h₀ (L :: List.map (fun x => x.1) ((K, AO.il (rfs q₂)) :: (Pd, AO.d2 (tally (allPairs (List.take i rs) ++ List.take j (rowPairs rs[i])))) :: (List.map f3 q₂ ++ cF L sv D K Pd none))) h₃ h' → h'.PlainList b rv.toArray := fun {h'} k =>
        Heap.PlainList.at hbl fun o e => (K₃.step k inv₃').keep b o hbV e
      obtain ⟨pj, hpj, hpj2⟩ := hq₂' j hj
      have hrj : (rs[i])[j]? = some ((rs[i]).getD j 0) := by
        rw [List.getElem?_eq_getElem (by omega)]; simp [show j < (rs[i]).length by omega]
      obtain ⟨tj, htj⟩ := intsAre_get hbi hrj
      have hin4 : In4 ((rs[i]).getD j 0) := mem_I4.mp (hperm.subset (List.mem_of_getElem? hrj))
      have hkj : (rfs q₂)[j]? = some (.ref pj.1) := by rw [rfs, List.getElem?_map, hpj]; rfl
      -- calls[one] = add_callers(calls[one], {...})
      refine wpAny_execs_cons (wpAny_Assign_Subscript ?_)
      refine wpAny_Call_NameR ?_
      refine eG T X₄.fr (gmem (i := 0) rfl) ?_
      refine callG T.add (args_cons (sub_item "list" _ PySem.F.slot_list_getitem.lookup (eCB (P := (K, .il (rfs q₂)) :: (Pd, .d2 _) :: q₂.map f3) (j := 2) X₄ rfl rfl (eN X₄ rfl ⟨Heap.IsList.typeIs (X₄.get (i := 0) rfl), ?_⟩))))
      refine wpAny_getItem_list (X₄.get (i := 0) rfl) (by omega) (by omega) (by simpa using hkj) ?_
      refine args_cons (dict_one (emb := key3) key3_inj (R.u1 (u := 59)) (lo_of T X₄.big) ?_)
      have X₅ := X₄.push { cls := .type "dict", data := .dict #[] }
      have row₅ := Heap.PlainList.isList (row (X₅.chg.toKp))
      refine wpAny_Tuple (args_cons (wpAny_Constant_str (args_cons (sub_item "list" _ PySem.F.slot_list_getitem.lookup (eN X₅ mr (eN X₅ rfl ⟨Heap.IsList.typeIs row₅, ?_⟩))))))
      refine wpAny_getItem_list row₅ (by omega) (by omega) (by simpa using htj) ?_
      refine args_cons (wpAny_Constant_str (args_nil ⟨by size_fits, ?_⟩))
      dsimp only
      refine wpAny_Constant_int ⟨_, (rs[i]).getD j 0, 1, _, rfl, rfl, key3_of (Heap.get?_push_size _ rfl) rfl rfl, Heap.get?_push_of_some _ (Heap.get?_push_size _ rfl), fun h₆ tk₆ D₆ s₆ => ?_⟩
      have X₆ := St.made2 X₄ (X₅.push _) none_size s₆ (notTup_dict (Heap.get?_push_of_some _ (Heap.get?_push_size _ rfl))) X₄.big
      refine args_nil ⟨X₆.fr.keep, ?_⟩
      have hpl : pj.2.length ≤ 10 := by
        rw [hpj2]
        refine Nat.le_trans (tally_len _) ?_
        rw [List.length_append, col, List.length_map, List.length_take]
        split <;> simp <;> omega
      refine add_callers_spec (c := pj.2) (f := [((rs[i]).getD j 0, 1)]) T (R.le (by omega) (by omega)) X₆.fr.keep X₆.big (X₆.get (mid2 hpj)) D₆ (by simp; omega) fun h₇ tk₇ r c₇ hr hlo D₇ => ?_
      have X₇ := X₆.got (o := .d3 _) c₇ hr D₇ hlo
      dsimp only
      refine eCB (P := (r, .d3 _) :: (K, .il (rfs q₂)) :: (Pd, .d2 _) :: q₂.map f3) (j := 2) X₇ rfl rfl (eN X₇ rfl ?_)
      refine wpAny_setItem_list (X₇.get (i := 1) rfl) (by omega) (by omega) (by rw [List.size_toArray, rfs, List.length_map]; omega) fun h₈ l₈ s₈ => ?_
      have e₈ : (rfs q₂).toArray.setIfInBounds ((j : Int)).toNat (.ref r) = (rfs (q₂.set j (r, mrg pj.2 [((rs[i]).getD j 0, 1)]))).toArray := by
        simp [rfs, List.map_set]
      rw [e₈] at l₈
      have X₈ := X₇.put (i := 1) (o' := .il _) rfl s₈ l₈
      have X₉ := St.exch (f := f3) (p' := (r, mrg pj.2 [((rs[i]).getD j 0, 1)])) (P := [(K, .il (rfs (q₂.set j (r, mrg pj.2 [((rs[i]).getD j 0, 1)])))), (Pd, .d2 (tally (allPairs (List.take i rs) ++ List.take j (rowPairs rs[i]))))]) X₈ (show j < q₂.length by omega)
      dsimp only
      have k₉ := X₉.chg.toKp
      -- pairs[one, row[one]] = pairs.get((one, row[one]), 0) + 1
      have row₉ := Heap.PlainList.isList (row k₉)
      refine wpAny_execs_cons (wpAny_Assign_Subscript (wpAny_BinOp (MethodCall_ (eCB (P := (K, .il _) :: (Pd, .d2 _) :: (q₂.set j _).map f3) (j := 3) X₉ rfl rfl (isD_meth PySem.F.slot_dict_get PySem.F.type_dict_get (X₉.get (i := 1) rfl) ?_)))))
      refine callWith_method1 (args_cons (wpAny_Tuple (args_cons (eN X₉ rfl (args_cons (sub_item "list" _ PySem.F.slot_list_getitem.lookup (eN X₉ mr (eN X₉ rfl ⟨Heap.IsList.typeIs row₉, ?_⟩))))))))
      refine wpAny_getItem_list row₉ (by omega) (by omega) (by simpa using htj) ?_
      refine args_nil ⟨by size_fits, ?_⟩
      dsimp only
      refine args_cons (wpAny_Constant_int (args_nil ?_))
      dsimp only
      refine isD_get key2_inj (R.u1 (u := 59)) ((X₉.push _).get (i := 1) rfl) (key2_of (i := (j : Int)) (j := (rs[i]).getD j 0) (Heap.get?_push_size _ rfl) rfl rfl) fun tg tkg => ?_
      refine wpAny_Constant_int (add_int ?_)
      dsimp only
      have X₁₀ := X₉.push { cls := .type "tuple", data := .seq [Value.int (j : Int) tv, .int ((rs[i]).getD j 0) tj].toArray }
      have row₁₀ := Heap.PlainList.isList (row X₁₀.chg.toKp)
      refine eCB (P := (K, .il _) :: (Pd, .d2 _) :: (q₂.set j _).map f3) (j := 3) X₁₀ rfl rfl ?_
      refine wpAny_Tuple (args_cons (eN X₁₀ rfl (args_cons (sub_item "list" _ PySem.F.slot_list_getitem.lookup (eN X₁₀ mr (eN X₁₀ rfl ⟨Heap.IsList.typeIs row₁₀, ?_⟩))))))
      refine wpAny_getItem_list row₁₀ (by omega) (by omega) (by simpa using htj) ?_
      refine args_nil ⟨by size_fits, ?_⟩
      dsimp only
      have hcl : (tally (allPairs (List.take i rs) ++ List.take j (rowPairs rs[i]))).length ≤ 900 := by
        refine Nat.le_trans (tally_len _) ?_
        have h1 : ∀ l : List (List Int), (allPairs l).length = 4 * l.length := fun l => by
          induction l with
          | nil => rfl
          | cons a l ih => rw [allPairs, List.flatMap_cons, List.length_append]; rw [allPairs] at ih; rw [ih]; simp [rowPairs]; omega
        rw [List.length_append, h1, List.length_take, List.length_take]
        omega
      refine isD_set key2_inj (R.u1 (u := 59)) ((X₁₀.push _).get (i := 1) rfl) (key2_of (i := (j : Int)) (j := (rs[i]).getD j 0) (Heap.get?_push_size _ rfl) rfl rfl) (by omega) fun h₁₁ tk₁₁ D₁₁ s₁₁ => ?_
      have X₁₁ := (X₁₀.push _).put (i := 1) (o' := .d2 _) rfl s₁₁ D₁₁
      refine wpAny_execs_nil (Turn.next X₁₁ ⟨mr, q₂.set j (r, mrg pj.2 [((rs[i]).getD j 0, 1)]), ?_, by simpa using hq₂, fun a' ha => ?_⟩)
      · have e1 : (rowPairs rs[i])[j]? = some ((j : Int), (rs[i]).getD j 0) := by simp [rowPairs, hj]
        rw [take_next e1, ← List.append_assoc (allPairs (rs.take i)), tally_snoc]
        rfl
      · by_cases z : a' = j
        · subst z
          refine ⟨_, by rw [List.getElem?_set_self (by omega)], ?_⟩
          rw [if_pos (by omega), tally_snoc, ← show pj.2 = tally (col (rs.take i) a') by rw [hpj2, if_neg (by omega), List.append_nil]]
          rfl
        · obtain ⟨p, p1, p2⟩ := hq₂' a' ha
          refine ⟨p, by rw [List.getElem?_set_ne (by omega)]; exact p1, ?_⟩
          rw [p2]
          congr 2
          by_cases y : a' < j
          · rw [if_pos y, if_pos (by omega)]
          · rw [if_neg y, if_neg (by omega)]
    · rintro m₂ O₂ h₃ tk₃ ⟨⟨mr, q₂, rfl, hq₂, hq₂'⟩, inv₃⟩ X₃ k₃
      refine wpAny_execs_nil (Turn.next X₃ ⟨q₂, ?_, hq₂, fun a ha => ?_⟩)
      · have e1 : rs.take (i + 1) = rs.take i ++ [rs[i]] := List.take_succ_eq_append_getElem hi'
        have e2 : (rowPairs rs[i]).take 4 = rowPairs rs[i] := by rw [List.take_of_length_le (by simp [rowPairs])]
        rw [e1, allPairs, allPairs, List.flatMap_append, e2]
        simp
      · obtain ⟨p, p1, p2⟩ := hq₂' a ha
        refine ⟨p, p1, ?_⟩
        rw [p2, if_pos ha, List.take_succ_eq_append_getElem hi']
        simp only [col, List.map_append, List.map_cons, List.map_nil]
  · rintro m₁ O₁ h₁ tk₁ ⟨⟨q₁, rfl, hq₁, hq₁'⟩, inv₁⟩ X₁ k₁
    have e : us.toArray.size = rs.length := by rw [List.size_toArray, hus]
    rw [e, List.take_length] at X₁ hq₁'
    exact h h₁ _ _ q₁ X₁ hq₁ hq₁'
end
end Mine
end

section
open PySem PySem.W PySem.Calls PyProof.Rows
set_option maxRecDepth 100000
set_option maxHeartbeats 4000000
namespace Mine
/-- what stands once the calls are told: rows, calls, pairs -/
structure Fz (prog : Program) (w : World) (V : List Addr) (hb : Heap) (D K Pd : Addr) (us : List Value) (rs : List (List Int)) (q : List (Addr × List (Int × Int))) : Prop where
  lD : hb.IsList D us.toArray
  hD : D ∉ V
  us : us.length = rs.length
  lK : hb.IsList K (rfs q).toArray
  hK : K ∉ V
  dP : IsD prog w key2 hb Pd (tally (allPairs rs))
  hPd : Pd ∉ V
  q4 : q.length = 4
  qs : ∀ a, a < 4 → ∃ p, q[a]? = some p ∧ IsD prog w key3 hb p.1 (tally (col rs a)) ∧ p.1 ∉ V
  r3 : rs.length = 2 ∨ rs.length = 3
  perm : ∀ r ∈ rs, r.Perm I4
section
variable {prog : Program} {w : World} {h₀ hb : Heap} {W : List Addr} {a d L f : Addr} {cd : Value} {m : Str → Option Value} {O : List (Addr × AO)} {A : Around} {s : Shared} {env : Env} {D K Pd : Addr} {us : List Value} {rs : List (List Int)} {q : List (Addr × List (Int × Int))} {sv : Value} {mk : Option Value}
theorem Fz.kp {V : List Addr} {h : Heap} (x : Fz prog w V hb D K Pd us rs q) (k : Kp h₀ V hb h) : Fz prog w V h D K Pd us rs q :=
  ⟨isList_chg x.lD k x.hD, x.hD, x.us, isList_chg x.lK k x.hK, x.hK, x.dP.chg k x.hPd, x.hPd, x.q4, fun a ha => let ⟨p, e, y, z⟩ := x.qs a ha; ⟨p, e, y.chg k z, z⟩, x.r3, x.perm⟩
theorem isList_here {h : Heap} {vs : Array Value} (x : h.IsList d vs) : ∃ o, h.get? d = some o := let ⟨o, e, _⟩ := x; ⟨o, e⟩
theorem Fz.kget {V : List Addr} (x : Fz prog w V hb D K Pd us rs q) {i : Nat} (hi : i < 4) : ∃ p, (rfs q)[i]? = some (.ref p) ∧ IsD prog w key3 hb p (tally (col rs i)) ∧ p ∉ V := by
  obtain ⟨p, e, y, z⟩ := x.qs i hi
  exact ⟨p.1, by rw [rfs, List.getElem?_map, e]; rfl, y, z⟩
/-- the calls tell each one of the one side as often as there are rows -/
theorem law_c3 {Q : Flow → Shared → Prop} (T : Tp h₀) (R : Rm A 5 60) (X : St prog w h₀ hb (V₀ L) L m (cF L sv D K Pd mk) s.heap) (Z : Fz prog w (V₀ L) hb D K Pd us rs q)
    (h : ∀ h' tk, St prog w h₀ hb (V₀ L) L m (cF L sv D K Pd mk) h' → Q .next { s with heap := h', toks := tk }) :
    wpAny (model prog w) A (exec (lawStmt 3) (lawEnv L f cd)) Q (fun _ _ => False) s := by
  refine wpAny_If (wpAny_isTrue_Compare1 ?_)
  refine list_comp (cl := [("rows", L + 2)]) rfl ?_
  refine eC (i := 2) X rfl rfl ?_
  have Z₁ := Z.kp X.chg.toKp
  obtain ⟨oK, hoK⟩ := isList_here Z.lK
  refine it_list R.hh X Z₁.lK (X.notIn hoK Z.hK) fun h₂ X₂ k₂ I₂ => ?_
  refine comp_in (g := ⟨_, _, _, 0⟩) rfl rfl (fun D C => rule_t) (fun D C K K' s => EmitT.mono) X₂ (I₂ _ fun _ _ => rfl) (Emit := fun D e => EmitT prog w A _ _ e (.ref D))
    (fun D' i m₁ O₁ => O₁ = (D', .lst []) :: cF L sv D K Pd mk ∧ InvO hb (V₀ L) O₁) (fun D' hD' => ⟨rfl, X₂.invO.cons (X₂.chg.none hD')⟩) (fun D' C hC => ?_) ?_
  · refine cstep_more (J := fun _ _ O₁ => O₁ = (D', .lst []) :: cF L sv D K Pd mk) (Emit := EmitT prog w A _ _ _ (.ref D')) X₂ (I₂ (.Name "row" ⟨0, 0, 0, 0⟩) fun _ _ => rfl).new hC (fun K K' s => EmitT.mono) ?_
    rintro i v m₁ O₁ h₃ tk₃ hi ev rfl X₃ K₃ inv₃
    have hi4 : i < 4 := by have := Z.q4; rw [List.size_toArray, rfs, List.length_map] at hi; omega
    obtain ⟨p, ep, dp, hp⟩ := (Z.kp K₃).kget hi4
    have : v = .ref p := by rw [List.getElem?_toArray] at ev; rw [ev] at ep; exact Option.some.inj ep
    subst this
    refine wpAny_assign_Name (sN X₃ fun h₄ X₄ => ?_)
    have K₄ := K₃.step X₄.chg.toKp inv₃
    unfold EmitT
    refine wpAny_isTrue_Compare1 ?_
    refine wpAny_Call_NameR ?_
    refine eG T X₄.fr (gmem (i := 1) rfl) ?_
    refine callG T.cnt (args_cons (eN X₄ rfl (args_nil ⟨X₄.fr.keep, ?_⟩)))
    obtain ⟨p', ep', dp', hp'⟩ := (Z.kp K₄).kget hi4
    have : p' = p := by rw [ep'] at ep; cases ep; rfl
    subst this
    refine count_calls_spec T (R.le (by omega) (by omega)) X₄.fr.keep X₄.big dp' fun h₅ tk₅ t₅ c₅ => ?_
    have X₅ := X₄.call0 c₅
    have K₅ := K₃.step X₅.chg.toKp inv₃
    refine wpAny_Call_NameR ?_
    refine eG T X₅.fr (gmem (i := 10) rfl) ?_
    refine PyProof.Rows.callWith_builtin1 (args_cons (eC (i := 2) X₅ rfl rfl (args_nil ?_)))
    refine call_len_list (Z.kp K₅).lD (by rw [List.size_toArray, Z.us]; have := Z.r3; omega) ?_
    refine ne_int (wpAny_truthy_bool ?_)
    have e : (kprSum (tally (col rs i)) != ((us.toArray.size : Nat) : Int)) = false := by
      rw [tally_sum, List.size_toArray, Z.us, col, List.length_map]; simp
    rw [e, if_neg Bool.false_ne_true]
    exact ⟨h₅, _, _, _, rfl, X₅, rfl⟩
  · rintro D' m₁ O₁ h₃ tk₃ ⟨rfl, _⟩ X₃ k₃ hD'
    refine wpAny_List (args_nil ⟨by size_fits, ?_⟩)
    dsimp only
    refine ints_ne (vs := []) (us := []) (ns := []) (by have := R.un; omega) (Heap.PlainList.isList ((X₃.push _).get (i := 0) rfl)) ⟨_, Heap.get?_push_size _ rfl, rfl, _, rfl⟩ .nil .nil (wpAny_truthy_bool ?_)
    rw [if_neg Bool.false_ne_true]
    exact wpAny_execs_nil (h _ _ ((X₃.push _).sub (List.sublist_cons_self _ _)))
end
end Mine
end

section
open PySem PySem.W PySem.Calls PyProof.Rows
set_option maxRecDepth 100000
set_option maxHeartbeats 4000000
namespace Mine
section
variable {prog : Program} {w : World} {h₀ hb : Heap} {W : List Addr} {a d L f : Addr} {cd : Value} {m : Str → Option Value} {O : List (Addr × AO)} {A : Around} {s : Shared} {env : Env} {D K Pd : Addr} {us : List Value} {rs : List (List Int)} {q : List (Addr × List (Int × Int))} {sv : Value} {mk : Option Value}
theorem sum_four (f : Nat → Int) : ((List.range 4).map f).sum = f 0 + f 1 + f 2 + f 3 := by
  simp [List.range, List.range.loop]; omega
/-- and each one of the other side -/
theorem law_c4 {Q : Flow → Shared → Prop} (T : Tp h₀) (R : Rm A 5 60) (X : St prog w h₀ hb (V₀ L) L m (cF L sv D K Pd mk) s.heap) (Z : Fz prog w (V₀ L) hb D K Pd us rs q)
    (h : ∀ h' tk, St prog w h₀ hb (V₀ L) L m (cF L sv D K Pd mk) h' → Q .next { s with heap := h', toks := tk }) :
    wpAny (model prog w) A (exec (lawStmt 4) (lawEnv L f cd)) Q (fun _ _ => False) s := by
  refine wpAny_If (wpAny_isTrue_Compare1 ?_)
  refine list_comp (cl := [("rows", L + 2), ("calls", L + 3)]) rfl ?_
  refine wpAny_Call_NameR ?_
  refine eG T X.fr (gmem (i := 6) rfl) ?_
  refine PyProof.Rows.callWith_type1 (args_cons (wpAny_Constant_int (args_nil ?_)))
  refine call_range_1 ?_
  dsimp only
  obtain ⟨oK, hoK⟩ := isList_here Z.lK
  refine it_range (n := 4) R.hh (X.push _) (Heap.get?_push_size _ rfl) (by omega) fun h₂ X₂ k₂ I₂ => ?_
  refine comp_in1 (x := "other") (g := ⟨_, _, _, 0⟩) rfl rfl (fun D C => rule_t) (fun D C K K' s => EmitT.mono) X₂ (I₂ _ fun _ _ => rfl) (Emit := fun D e => EmitT prog w A _ _ e (.ref D))
    (fun D' C i m₁ O₁ => (∃ ov, O₁ = (C + 1, .cell ov) :: (D', .lst []) :: cF L sv D K Pd mk) ∧ InvO hb (V₀ L) O₁) (fun D' C hD' hC' => ⟨⟨none, rfl⟩, (X₂.invO.cons (X₂.chg.none hD')).cons (X₂.chg.none hC')⟩) (fun D' C hC => ?_) ?_
  · refine cstep_more (J := fun _ _ O₁ => ∃ ov, O₁ = (C + 1, .cell ov) :: (D', .lst []) :: cF L sv D K Pd mk) (Emit := EmitT prog w A _ _ _ (.ref D')) X₂ (I₂ (.Name "other" ⟨0, 0, 0, 0⟩) fun _ _ => rfl).new hC (fun K K' s => EmitT.mono) ?_
    rintro i v m₁ O₁ h₃ tk₃ hi ⟨tv, rfl⟩ ⟨ov, rfl⟩ X₃ K₃ inv₃
    refine wpAny_assign_Name (sC (i := 0) X₃ rfl rfl fun h₄ X₄ => ?_)
    unfold EmitT
    refine wpAny_isTrue_Compare1 ?_
    refine wpAny_Call_NameR ?_
    refine eG T X₄.fr (gmem (i := 11) rfl) ?_
    refine PyProof.Rows.callWith_builtin1 (args_cons ?_)
    refine list_comp (cl := [("other", C + 1)]) rfl ?_
    refine eC (i := 4) X₄ rfl rfl ?_
    have K₄ := K₃.step X₄.chg.toKp inv₃
    have hK₃ : K ∉ C :: List.map (fun x => x.1) ((C + 1, AO.cell ov) :: (D', AO.lst []) :: cF L sv D K Pd mk) := fun z => by
      rcases inv₃ K z with y | y
      · exact Z.hK y
      · rw [hoK] at y; cases y
    refine it_list R.hh X₄ (Z.kp K₄).lK hK₃ fun h₅ X₅ k₅ I₅ => ?_
    refine comp_in (g := ⟨_, _, _, 0⟩) rfl rfl (fun D C => rule_a) (fun D C K K' s => EmitA.mono) X₅ (I₅ _ fun _ _ => rfl) (Emit := fun D e => EmitA prog w A _ e (.ref D))
      (fun D₂ j m₂ O₂ => (∃ vals, O₂ = (D₂, .lst vals) :: (C + 1, .cell (some (.int (i : Int) tv))) :: (D', .lst []) :: cF L sv D K Pd mk ∧ IntsAre vals ((List.range j).map fun a => ((col rs a).count (i : Int) : Int))) ∧ InvO h₃ (C :: List.map (fun x => x.1) ((C + 1, AO.cell ov) :: (D', AO.lst []) :: cF L sv D K Pd mk)) O₂)
      (fun D₂ hD₂ => ⟨⟨[], rfl, .nil⟩, X₅.invO.cons (X₅.chg.none hD₂)⟩) (fun D₂ C₂ hC₂ => ?_) ?_
    · refine cstep_more (J := fun j _ O₂ => ∃ vals, O₂ = (D₂, .lst vals) :: (C + 1, .cell (some (.int (i : Int) tv))) :: (D', .lst []) :: cF L sv D K Pd mk ∧ IntsAre vals ((List.range j).map fun a => ((col rs a).count (i : Int) : Int))) (Emit := EmitA prog w A _ _ (.ref D₂)) X₅ (I₅ (.Name "row" ⟨0, 0, 0, 0⟩) fun _ _ => rfl).new hC₂ (fun K K' s => EmitA.mono) ?_
      rintro j v m₂ O₂ h₆ tk₆ hj ev ⟨vals, rfl, hvals⟩ X₆ K₆ inv₆
      have K₆' : Kp h₀ (V₀ L) hb h₆ := K₃.step K₆ inv₃
      have inv₆' : Inv hb (V₀ L) C₂ _ := Inv.up K₃ inv₃ inv₆
      have hj4 : j < 4 := by have := Z.q4; rw [List.size_toArray, rfs, List.length_map] at hj; omega
      obtain ⟨p, ep, dp, hp⟩ := (Z.kp K₆').kget hj4
      have : v = .ref p := by rw [List.getElem?_toArray] at ev; rw [ev] at ep; exact Option.some.inj ep
      subst this
      refine wpAny_assign_Name (sN X₆ fun h₇ X₇ => ?_)
      have K₇ : Kp h₀ (V₀ L) hb h₇ := K₆'.step X₇.chg.toKp inv₆'
      have dp₇ : IsD prog w key3 h₇ p (tally (col rs j)) := by
        obtain ⟨p', ep', dp', hp'⟩ := (Z.kp K₇).kget hj4
        rw [ep'] at ep; cases ep; exact dp'
      unfold EmitA
      refine MethodCall_ (eN X₇ rfl (isD_meth PySem.F.slot_dict_get PySem.F.type_dict_get dp₇ ?_))
      refine callWith_method1 (args_cons (wpAny_Tuple (args_cons (wpAny_Constant_str (args_cons (eC (i := 1) X₇ rfl rfl (args_cons (wpAny_Constant_str (args_nil ⟨by size_fits, ?_⟩)))))))))
      dsimp only
      refine args_cons (wpAny_Constant_int (args_nil ?_))
      dsimp only
      refine isD_get key3_inj (R.u1 (u := 59)) (IsD.chg (h₀ := h₀) (W := []) dp₇ (.push _) fun z => nomatch z) (key3_of (j := (i : Int)) (Heap.get?_push_size _ rfl) rfl rfl) fun t₈ tk₈ => ?_
      rw [tally_look]
      have hvl := intsAre_len hvals
      rw [List.length_map, List.length_range] at hvl
      refine lst_append ((X₇.push _).get (i := 0) rfl) (by omega) fun h₉ p₉ s₉ => ?_
      have X₉ := (X₇.push _).put (i := 0) (o' := .lst _) rfl s₉ p₉
      refine ⟨h₉, _, _, _, rfl, X₉, _, rfl, ?_⟩
      rw [List.range_succ, List.map_append]
      exact intsAre_append hvals (.cons _ _ .nil)
    · rintro D₂ m₂ O₂ h₆ tk₆ ⟨⟨vals, rfl, hvals⟩, _⟩ X₆ k₆ _
      refine args_nil ?_
      dsimp only
      refine sum_list R.hh (Heap.PlainList.isList (X₆.get (i := 0) rfl)) hvals fun h₇ tk₇ t₇ k₇ => ?_
      have X₇ := X₆.other (V := []) (h' := h₇) ⟨fun b o _ e => k₇ b o e, fun b o _ e => k₇ b o e, fun b o e _ => k₇ b o e⟩ (fun _ z => nomatch z) (fun _ z => nomatch z)
      have K₇ : Kp h₀ (V₀ L) hb h₇ := K₃.step X₇.chg.toKp inv₃
      refine wpAny_Call_NameR ?_
      refine eG T X₇.fr (gmem (i := 10) rfl) ?_
      refine PyProof.Rows.callWith_builtin1 (args_cons (eC (i := 4) X₇ rfl rfl (args_nil ?_)))
      refine call_len_list (Z.kp K₇).lD (by rw [List.size_toArray, Z.us]; have := Z.r3; omega) ?_
      refine ne_int (wpAny_truthy_bool ?_)
      have hz := Z.q4
      have hz2 : (rfs q).toArray.size = 4 := by rw [List.size_toArray, rfs, List.length_map, hz]
      rw [hz2]
      have e : (((List.range 4).map fun a => ((col rs a).count (i : Int) : Int)).sum != ((us.toArray.size : Nat) : Int)) = false := by
        have := cols_count Z.perm (o := (i : Int)) (by unfold In4; omega)
        rw [sum_four, List.size_toArray, Z.us, this]; simp
      rw [e, if_neg Bool.false_ne_true]
      exact ⟨h₇, _, _, _, rfl, X₇.sub (List.sublist_cons_self _ _), _, rfl⟩
  · rintro D' C m₁ O₁ h₃ tk₃ ⟨⟨ov, rfl⟩, _⟩ X₃ k₃
    have X₄ := X₃.sub (List.sublist_cons_self _ _)
    refine wpAny_List (args_nil ⟨by size_fits, ?_⟩)
    dsimp only
    refine ints_ne (vs := []) (us := []) (ns := []) (by have := R.un; omega) (Heap.PlainList.isList ((X₄.push _).get (i := 0) rfl)) ⟨_, Heap.get?_push_size _ rfl, rfl, _, rfl⟩ .nil .nil (wpAny_truthy_bool ?_)
    rw [if_neg Bool.false_ne_true]
    exact wpAny_execs_nil (h _ _ ((X₄.push _).sub (List.sublist_cons_self _ _)))
end
end Mine
end

section
open PySem PySem.W PySem.Calls PyProof.Rows
set_option maxRecDepth 100000
set_option maxHeartbeats 4000000
namespace Mine
section
variable {prog : Program} {w : World} {h₀ hb : Heap} {W : List Addr} {a d L f : Addr} {cd : Value} {m : Str → Option Value} {O : List (Addr × AO)} {A : Around} {s : Shared} {env : Env} {D K Pd : Addr} {us : List Value} {rs : List (List Int)} {q : List (Addr × List (Int × Int))} {sv : Value} {mk : Option Value}
def bit (mask i : Nat) : Bool := (((mask : Int).fdiv ((2 : Int) ^ i)).fmod 2 == 1)
def lotOf (mask n : Nat) : List Nat := (List.range n).filter (bit mask)
theorem small_mul {n : Nat} {b : Int} (h : n ≤ 4) : IntMulOk (n : Int) b := by
  refine IntMulOk.of_left ?_
  match n, h with
  | 0, _ => decide
  | 1, _ => decide
  | 2, _ => decide
  | 3, _ => decide
  | 4, _ => decide
theorem pow_small {j : Nat} (hj : j < 4) : 1 ≤ ((2 : Int) ^ ((j : Int)).toNat) ∧ ((2 : Int) ^ ((j : Int)).toNat) ≤ 8 := by
  rw [Int.toNat_natCast]
  match j, hj with
  | 0, _ => decide
  | 1, _ => decide
  | 2, _ => decide
  | 3, _ => decide
theorem law_masks {Q : Flow → Shared → Prop} (T : Tp h₀) (R : Rm A 5 60) (X : St prog w h₀ hb (V₀ L) L m (cF L sv D K Pd mk) s.heap) (Z : Fz prog w (V₀ L) hb D K Pd us rs q)
    (h : ∀ h' tk m' mk', St prog w h₀ hb (V₀ L) L m' (cF L sv D K Pd mk') h' → Q .next { s with heap := h', toks := tk }) :
    wpAny (model prog w) A (exec (lawStmt 5) (lawEnv L f cd)) Q (fun _ _ => False) s := by
  obtain ⟨oK, hoK⟩ := isList_here Z.lK
  refine for_range (n := 16) T R.hh X (by decide) (fun i m₁ O₁ => (∃ mv, O₁ = cF L sv D K Pd mv) ∧ Inv hb (V₀ L) L O₁) ⟨⟨mk, rfl⟩, X.inv⟩ (step_more X ?_) ?_
  · rintro i v m₁ O₁ h₁ tk₁ hi ⟨tv, rfl⟩ ⟨mv, rfl⟩ X₁ K₁ inv₁
    refine wpAny_assign_Name (sC (i := 4) X₁ rfl rfl fun h₂ X₂ => ?_)
    refine wpAny_execs_cons (assign_comp (cl := [("mask", L + 5)]) rfl ?_)
    refine wpAny_Call_NameR ?_
    refine eG T X₂.fr (gmem (i := 6) rfl) ?_
    refine PyProof.Rows.callWith_type1 (args_cons (wpAny_Constant_int (args_nil ?_)))
    refine call_range_1 ?_
    dsimp only
    have inv₂ := X₂.inv
    refine it_range (n := 4) R.hh (X₂.push _) (Heap.get?_push_size _ rfl) (by omega) fun h₃ X₃ k₃ I₃ => ?_
    refine comp_in_u (g := ⟨_, _, _, 0⟩) rfl rfl (fun D C => rule_t) (fun D C K K' s => EmitT.mono) X₃ (I₃ _ fun _ _ => rfl) (Emit := fun D e => EmitT prog w A _ _ e (.ref D))
      (fun D' j m₁ O₁ => ∃ vals, O₁ = (D', .lst vals) :: cF L sv D K Pd (some (.int (i : Int) tv)) ∧ IntsAre vals ((lotOf i j).map fun (a : Nat) => (a : Int))) (fun D' _ => ⟨[], rfl, .nil⟩) (fun D' C hC => ?_) ?_
    · rintro j v m₃ O₃ h₄ tk₄ hj ⟨tj, rfl⟩ ⟨vals, rfl, hvals⟩ X₄ k₄
      refine wpAny_assign_Name (sN X₄ fun h₅ X₅ => ?_)
      unfold EmitT
      refine wpAny_isTrue_Compare1 (wpAny_BinOp (wpAny_BinOp (eC (i := 5) X₅ rfl rfl (wpAny_BinOp (wpAny_Constant_int (eN X₅ rfl (pow_int (by omega) ?_ ?_)))))))
      · have : Builtin.Int.intBits 2 ≤ 2 := by decide
        have h2 : ((Builtin.Int.intBits 2 : Nat) : Int) ≤ 2 := by omega
        have hj' : (j : Int) < 4 := by omega
        have h3 : ((Builtin.Int.intBits 2 : Nat) : Int) * (j : Int) ≤ 2 * (j : Int) := Int.mul_le_mul_of_nonneg_right h2 (by omega)
        omega
      have hpw := pow_small hj
      refine floordiv_int (hp := .inl (PyProof.noPylong_small (by omega))) (by omega) (wpAny_Constant_int (mod_int (by decide) (wpAny_Constant_int (PySem.P.eq_int (wpAny_truthy_bool ?_)))))
      have hvl := intsAre_len hvals
      have hll : (lotOf i j).length ≤ 4 := by
        refine Nat.le_trans (List.length_filter_le _ _) ?_
        rw [List.length_range]; omega
      rw [List.length_map] at hvl
      have eb : (((i : Int).fdiv ((2 : Int) ^ ((j : Int)).toNat)).fmod 2 == 1) = bit i j := by rw [bit, Int.toNat_natCast]
      have el : lotOf i (j + 1) = lotOf i j ++ if bit i j = true then [j] else [] := by
        rw [lotOf, List.range_succ, List.filter_append, lotOf, List.filter_cons, List.filter_nil]
      dsimp only
      rw [eb]
      cases hbit : bit i j with
      | false =>
        rw [if_neg Bool.false_ne_true]
        refine ⟨h₅, _, _, _, rfl, X₅, vals, rfl, ?_⟩
        rw [el, hbit, if_neg Bool.false_ne_true, List.append_nil]; exact hvals
      | true =>
        rw [if_pos rfl]
        unfold EmitA
        refine eN X₅ rfl ?_
        refine lst_append (X₅.get (i := 0) rfl) (by omega) fun h₆ p₆ s₆ => ?_
        have X₆ := X₅.put (i := 0) (o' := .lst _) rfl s₆ p₆
        refine ⟨h₆, _, _, _, rfl, X₆, _, rfl, ?_⟩
        rw [el, hbit, if_pos rfl, List.map_append]
        exact intsAre_append hvals (.cons _ _ .nil)
    · rintro D' m₃ O₃ h₄ tk₄ ⟨vals, rfl, hvals⟩ X₄
      have hvl := intsAre_len hvals
      rw [List.length_map] at hvl
      have hlnd : (lotOf i 4).Nodup := List.nodup_range.sublist (List.filter_sublist ..)
      have hl4 : ∀ a ∈ lotOf i 4, a < 4 := fun a ha => List.mem_range.mp (List.mem_filter.mp ha).1
      have hll : (lotOf i 4).length ≤ 4 := by
        refine Nat.le_trans (List.length_filter_le _ _) ?_
        rw [List.length_range]; omega
      -- whole = {}
      refine wpAny_execs_cons (wpAny_Assign_Name (wpAny_Dict_empty ?_))
      have X₅ := X₄.new (o := .d3 []) { cls := .type "dict", data := .dict #[] } ⟨lo_of T X₄.big, [], .new _, .nil⟩
      refine sN X₅ fun h₆ X₆ => ?_
      dsimp only
      -- for one in lot
      have Xs := X₆.sub (O' := (h₄.objs.size, .d3 []) :: cF L sv D K Pd (some (.int (i : Int) tv))) (.cons_cons _ (.cons _ (.refl _)))
      have hDl : h₆.IsList D' vals.toArray := Heap.PlainList.isList (X₆.get (i := 1) rfl)
      have hDn : D' ∉ L :: List.map (·.1) ((h₄.objs.size, AO.d3 []) :: cF L sv D K Pd (some (.int (i : Int) tv))) := by
        have nd := X₆.nodup
        intro z
        rw [List.map_cons, List.map_cons] at nd
        obtain ⟨n1, n2⟩ := List.nodup_cons.mp nd
        obtain ⟨n3, n4⟩ := List.nodup_cons.mp n2
        obtain ⟨n5, n6⟩ := List.nodup_cons.mp n4
        rcases List.mem_cons.mp z with z | z
        · exact n1 (z ▸ .tail _ (.head _))
        · rcases List.mem_cons.mp z with z | z
          · exact n3 (z ▸ .head _)
          · exact n5 z
      have K₆ : Kp h₀ (V₀ L) hb h₆ := K₁.step Xs.chg.toKp inv₁
      have inv₆ : Inv hb (V₀ L) L _ := Inv.up K₁ inv₁ Xs.inv
      have Xr := Xs.rebase
      refine wpAny_execs_cons (for_stmt (eN X₆ rfl ?_))
      refine loop_list (prog := prog) (w := w) (items := vals.toArray) R.hh Xr hDl hDn
        (fun j m₇ O₇ => (∃ w1, m₇ "whole" = some (.ref w1) ∧ m₇ "lot" = some (.ref D') ∧ O₇ = (w1, .d3 (whole rs ((lotOf i 4).take j))) :: cF L sv D K Pd (some (.int (i : Int) tv))) ∧ Inv h₆ _ L O₇)
        ⟨⟨_, rfl, rfl, rfl⟩, Xr.inv⟩ (step_more Xr ?_) ?_
      · rintro j v m₇ O₇ h₇ tk₇ hj ev ⟨w1, mw, ml, rfl⟩ X₇ k₇ inv₇
        have K₇ : Kp h₀ (V₀ L) hb h₇ := K₆.step k₇ inv₆
        have inv₇' : Inv hb (V₀ L) L _ := Inv.up K₆ inv₆ inv₇
        have hjl : j < (lotOf i 4).length := by rw [← hvl]; simpa using hj
        obtain ⟨ta, eta⟩ := intsAre_get hvals (i := j) (n := (((lotOf i 4)[j] : Nat) : Int)) (by rw [List.getElem?_map, List.getElem?_eq_getElem hjl]; rfl)
        have : v = .int (((lotOf i 4)[j] : Nat) : Int) ta := by rw [List.getElem?_toArray] at ev; rw [ev] at eta; exact Option.some.inj eta
        subst this
        obtain ⟨a, ha⟩ : ∃ a, (lotOf i 4)[j] = a := ⟨_, rfl⟩
        have ha4 : a < 4 := ha ▸ hl4 _ (List.getElem_mem hjl)
        rw [ha]
        refine wpAny_assign_Name (sN X₇ fun h₈ X₈ => ?_)
        have K₈ : Kp h₀ (V₀ L) hb h₈ := K₇.step X₈.chg.toKp inv₇'
        refine wpAny_execs_cons (wpAny_Assign_Name ?_)
        refine wpAny_Call_NameR ?_
        refine eG T X₈.fr (gmem (i := 0) rfl) ?_
        refine callG T.add (args_cons (eN X₈ mw (args_cons ?_)))
        obtain ⟨p, ep, dp, hp⟩ := (Z.kp K₈).kget ha4
        refine sub_item "list" _ PySem.F.slot_list_getitem.lookup (eC (i := 3) X₈ rfl rfl (eN X₈ rfl ⟨Heap.IsList.typeIs (Z.kp K₈).lK, ?_⟩))
        refine wpAny_getItem_list (Z.kp K₈).lK (by omega) (by omega) (by simpa using ep) ?_
        refine args_nil ⟨X₈.fr.keep, ?_⟩
        have hr3 := Z.r3
        have hwl : (whole rs ((lotOf i 4).take j)).length ≤ 12 := by
          refine Nat.le_trans (whole_len _ _) ?_
          have : ((lotOf i 4).take j).length ≤ 4 := by rw [List.length_take]; omega
          have h12 : ((lotOf i 4).take j).length * rs.length ≤ 4 * 3 := Nat.mul_le_mul this (by omega)
          omega
        have htl : (tally (col rs a)).length ≤ 3 := by
          refine Nat.le_trans (tally_len _) ?_
          rw [col, List.length_map]; omega
        refine add_callers_spec T (R.le (by omega) (by omega)) X₈.fr.keep X₈.big (X₈.get (i := 0) rfl) dp (by omega) fun h₉ tk₉ r c₉ hr hlo D₉ => ?_
        have X₉ := X₈.got (o := .d3 _) c₉ hr D₉ hlo
        have X₁₀ := X₉.sub (O' := (r, .d3 _) :: cF L sv D K Pd (some (.int (i : Int) tv))) (.cons_cons _ (.cons _ (.refl _)))
        refine sN X₁₀ fun h₁₁ X₁₁ => ?_
        refine wpAny_execs_nil (Turn.next X₁₁ ⟨r, rfl, ml, ?_⟩)
        rw [List.take_succ_eq_append_getElem hjl, whole_snoc, ha]
      · rintro m₇ O₇ h₇ tk₇ ⟨⟨w1, mw, ml, rfl⟩, _⟩ X₇ k₇
        have e1 : (lotOf i 4).take vals.toArray.size = lotOf i 4 := List.take_of_length_le (by rw [List.size_toArray]; omega)
        rw [e1] at X₇
        have hDl₇ : h₇.IsList D' vals.toArray := isList_chg hDl X₇.chg.toKp hDn
        have K₇ : Kp h₀ (V₀ L) hb h₇ := K₆.step X₇.chg.toKp inv₆
        have Xj := Xs.join X₇ .refl
        have hr3 := Z.r3
        have hwl : (whole rs (lotOf i 4)).length ≤ 12 := by
          refine Nat.le_trans (whole_len _ _) ?_
          have h12 : (lotOf i 4).length * rs.length ≤ 4 * 3 := Nat.mul_le_mul hll (by omega)
          omega
        refine wpAny_execs_cons (wpAny_If (isTrue_or (wpAny_isTrue_Compare1 ?_)))
        refine wpAny_Call_NameR ?_
        refine eG T X₇.fr (gmem (i := 10) rfl) ?_
        refine PyProof.Rows.callWith_builtin1 (args_cons (eN X₇ mw (args_nil ?_)))
        refine isD_len (X₇.get (i := 0) rfl) (by omega) fun tl tkl => ?_
        refine wpAny_Call_NameR ?_
        refine eG T X₇.fr (gmem (i := 10) rfl) ?_
        refine PyProof.Rows.callWith_builtin1 (args_cons (eN X₇ ml (args_nil ?_)))
        refine call_len_list hDl₇ (by rw [List.size_toArray]; omega) ?_
        refine PyProof.Rows.lt_int (wpAny_truthy_bool ?_)
        have hall : (lotOf i 4).length ≤ (whole rs (lotOf i 4)).length := by
          obtain ⟨r, rs', e⟩ : ∃ r rs', rs = r :: rs' := by
            cases rs with
            | nil => simp at hr3
            | cons r rs' => exact ⟨r, rs', rfl⟩
          rw [e]
          exact whole_hall (Z.perm r (by rw [e]; exact .head _)) hlnd hl4
        rw [decide_eq_false (by rw [List.size_toArray]; omega), if_neg Bool.false_ne_true]
        refine isTrue_or (wpAny_isTrue_Compare1 ?_)
        refine wpAny_Call_NameR ?_
        refine eG T X₇.fr (gmem (i := 1) rfl) ?_
        refine callG T.cnt (args_cons (eN X₇ mw (args_nil ⟨X₇.fr.keep, ?_⟩)))
        refine count_calls_spec T (R.le (by omega) (by omega)) X₇.fr.keep X₇.big (X₇.get (i := 0) rfl) fun h₈ tk₈ t₈ c₈ => ?_
        have X₈ := X₇.call0 c₈
        have K₈ : Kp h₀ (V₀ L) hb h₈ := K₆.step X₈.chg.toKp inv₆
        refine wpAny_BinOp ?_
        refine wpAny_Call_NameR ?_
        refine eG T X₈.fr (gmem (i := 10) rfl) ?_
        refine PyProof.Rows.callWith_builtin1 (args_cons (eN X₈ ml (args_nil ?_)))
        refine call_len_list (isList_chg hDl X₈.chg.toKp hDn) (by rw [List.size_toArray]; omega) ?_
        refine wpAny_Call_NameR ?_
        refine eG T X₈.fr (gmem (i := 10) rfl) ?_
        refine PyProof.Rows.callWith_builtin1 (args_cons (eC (i := 2) X₈ rfl rfl (args_nil ?_)))
        refine call_len_list (Z.kp K₈).lD (by rw [List.size_toArray, Z.us]; omega) ?_
        refine PyProof.Rows.mul_int (ne_int (wpAny_truthy_bool ?_)) ?_
        · have e2 : (kprSum (whole rs (lotOf i 4)) != ((vals.toArray.size : Nat) : Int) * ((us.toArray.size : Nat) : Int)) = false := by
            rw [whole_sum, List.size_toArray, List.size_toArray, Z.us, hvl]; simp
          rw [e2, if_neg Bool.false_ne_true]
          refine isTrue_or_nil ?_
          rw [if_neg Bool.false_ne_true]
          have X₉ := Xs.join X₈ .refl
          exact wpAny_execs_nil (wpAny_execs_nil (Turn.next (X₉.sub (List.sublist_cons_self _ _)) ⟨_, rfl⟩))
        · have hb2 : vals.toArray.size ≤ 4 := by rw [List.size_toArray]; omega
          exact small_mul hb2
  · rintro m₁ O₁ h₁ tk₁ ⟨⟨mv, rfl⟩, _⟩ X₁ k₁
    exact h _ _ _ _ X₁
end
end Mine
end

section
open PySem PySem.W PySem.Calls PyProof.Rows
set_option maxRecDepth 100000
set_option maxHeartbeats 4000000
namespace Mine
section
variable {prog : Program} {w : World} {h₀ hb : Heap} {W : List Addr} {a d L f : Addr} {cd : Value} {m : Str → Option Value} {O : List (Addr × AO)} {A : Around} {s : Shared} {env : Env} {D K Pd : Addr} {us : List Value} {rs : List (List Int)} {q : List (Addr × List (Int × Int))} {sv : Value} {mk : Option Value}
theorem pairs_len (l : List (List Int)) : (allPairs l).length = 4 * l.length := by
  induction l with
  | nil => rfl
  | cons a l ih => rw [allPairs, List.flatMap_cons, List.length_append]; rw [allPairs] at ih; rw [ih]; simp [rowPairs]; omega
theorem Fz.keys {V : List Addr} (Z : Fz prog w V hb D K Pd us rs q) : ∀ p ∈ tally (allPairs rs), In4 p.1.1 ∧ In4 p.1.2 := fun p hp =>
  all_4 Z.perm p.1 ((tally_has p.1 _).mp (kpr_has_iff.mpr (List.mem_map.mpr ⟨p, hp, rfl⟩)))
theorem Fz.clen {V : List Addr} (Z : Fz prog w V hb D K Pd us rs q) : (tally (allPairs rs)).length ≤ 12 := by
  have := tally_len (allPairs rs)
  rw [pairs_len] at this
  have := Z.r3
  omega
theorem Fz.cne {V : List Addr} (Z : Fz prog w V hb D K Pd us rs q) : tally (allPairs rs) ≠ [] := fun e => by
  have hr3 := Z.r3
  cases rs with
  | nil => simp at hr3
  | cons r rs' =>
    have : kprHas (tally (allPairs (r :: rs'))) (0, r.getD 0 0) = true := (tally_has _ _).mpr (List.mem_flatMap.mpr ⟨r, .head _, by simp [rowPairs, List.range, List.range.loop]⟩)
    rw [e, kpr_has_nil] at this; cases this
/-- left, lots -/
theorem law_left {Q : Flow → Shared → Prop} (T : Tp h₀) (R : Rm A 5 60) (X : St prog w h₀ hb (V₀ L) L m (cF L sv D K Pd mk) s.heap) (Z : Fz prog w (V₀ L) hb D K Pd us rs q)
    (h : ∀ h' tk m' lf lo, St prog w h₀ hb (V₀ L) L m' ((lf, .d2 (tally (allPairs rs))) :: (lo, .lst []) :: cF L sv D K Pd mk) h' → m' "left" = some (.ref lf) → m' "lots" = some (.ref lo) → Q .next { s with heap := h', toks := tk }) :
    wpAny (model prog w) A (exec (lawStmt 6) (lawEnv L f cd)) Q (fun _ _ => False) s := by
  refine Assign_Tuple_swapped (names := ["left", "lots"]) ?_
  refine wpAny_Tuple ?_
  refine args_cons ?_
  refine wpAny_Call_NameR ?_
  refine eG T X.fr (gmem (i := 8) rfl) ?_
  refine PyProof.Rows.callWith_type1 (args_cons (eC (i := 3) X rfl rfl (args_nil ?_)))
  have hcl := Z.clen
  refine isD_copy (Z.kp X.chg.toKp).dP Z.cne Z.keys (by omega) (lo_of T X.big) fun h₁ D₁ s₁ => ?_
  have X₁ := (St.made2 X (X.push _) none_size s₁ (notTup_dict (Heap.get?_push_size _ rfl)) X.big).add (o := .d2 _) D₁ X.big X.fresh (.inr X.chg.fresh)
  refine args_cons (wpAny_List (args_nil ⟨by size_fits, ?_⟩))
  dsimp only
  have X₂ := X₁.new (o := .lst []) { cls := .type "list", data := .seq #[] } ⟨0, Heap.get?_push_size _ rfl⟩
  refine args_nil ⟨by size_fits, ?_⟩
  dsimp only
  have X₃ := X₂.push { cls := .type "tuple", data := .seq #[.ref s.heap.objs.size, .ref h₁.objs.size] }
  refine wpAny_unpackItems_tuple (items := #[.ref s.heap.objs.size, .ref h₁.objs.size]) R.hh ⟨_, Heap.get?_push_size _ rfl, rfl, _, rfl⟩ fun h₆ e₆ => ?_
  have X₆ := X₃.other (Kp.ofExt e₆ (fun o e => absurd (Heap.lt_size e) (Nat.lt_irrefl _)) X₃.big) (fun a q => by rw [List.mem_singleton.mp q]; exact X₃.fresh) fun a q => by rw [List.mem_singleton.mp q]; exact X₃.chg.fresh
  refine wpAny_assignInOrder_more (wpAny_bindName (sN X₆ fun h₇ X₇ => ?_))
  refine wpAny_assignInOrder_more (wpAny_bindName (sN X₇ fun h₈ X₈ => wpAny_assignInOrder_none ?_))
  exact h h₈ _ _ _ _ (X₈.perm (.swap ..)) rfl rfl
def forBody : PySem.Stmt → List PySem.Stmt | .For _ _ b _ _ => b | _ => []
def turnStmt (i : Nat) : PySem.Stmt := (forBody (lawStmt 7)).getD i (.Pass default)
/-- taken: one after another -/
theorem law_match {Q : Flow → Shared → Prop} {c : Cn} {n : Int} {tk lf : Addr} {P : List (Addr × AO)} (T : Tp h₀) (R : Rm A 10 100) (Rg : Reg c n) (hn : 1 ≤ n) (X : St prog w h₀ hb W L m ((tk, .di []) :: (lf, .d2 c) :: P) s.heap) (m1 : m "left" = some (.ref lf)) (m2 : m "taken" = some (.ref tk))
    (J : (Str → Option Value) → Prop) (hJ : ∀ m' n v, J m' → n = "one" → J (fun y => if y = n then some v else m' y)) (j0 : J m)
    (h : ∀ h' tok m' t, J m' → St prog w h₀ hb W L m' ((tk, .di t) :: (lf, .d2 c) :: P) h' → m' "left" = some (.ref lf) → m' "taken" = some (.ref tk) → (t.map (·.2)).Perm I4 → (∀ p ∈ t, Edge c p.2 p.1 ∧ In4 p.1) → Q .next { s with heap := h', toks := tok }) :
    wpAny (model prog w) A (exec (turnStmt 1) (lawEnv L f cd)) Q (fun _ _ => False) s := by
  refine for_range (n := 4) T R.hh X (by decide) (fun i m₁ O₁ => J m₁ ∧ m₁ "left" = some (.ref lf) ∧ m₁ "taken" = some (.ref tk) ∧ ∃ t, O₁ = (tk, .di t) :: (lf, .d2 c) :: P ∧ (t.map (·.2)).Perm ((List.range i).map fun (a : Nat) => (a : Int)) ∧ ∀ p ∈ t, Edge c p.2 p.1 ∧ In4 p.1)
    ⟨j0, m1, m2, [], rfl, .refl _, fun _ z => (List.not_mem_nil z).elim⟩ ?_ ?_
  · rintro i v m₁ O₁ h₁ tk₁ hi ⟨tv, rfl⟩ ⟨hj, m1, m2, t, rfl, hv, hok⟩ X₁ k₁
    refine wpAny_assign_Name (sN X₁ fun h₂ X₂ => ?_)
    refine wpAny_execs_cons (wpAny_If (wpAny_isTrue_Not (isTrue_plain ?_)))
    refine wpAny_Call_NameR ?_
    refine eG T X₂.fr (gmem (i := 5) rfl) ?_
    refine callG T.fre (args_cons (eN X₂ m1 (args_cons (eN X₂ rfl (args_cons (eN X₂ m2 (args_cons (wpAny_List (args_nil ⟨by size_fits, ?_⟩)))))))))
    dsimp only
    have X₃ := X₂.new (o := .lst []) { cls := .type "list", data := .seq #[] } ⟨0, Heap.get?_push_size _ rfl⟩
    refine args_nil ⟨X₃.fr.keep, ?_⟩
    have nd := X₃.nodup
    simp only [List.map_cons] at nd
    obtain ⟨n1, n2⟩ := List.nodup_cons.mp nd
    obtain ⟨n3, n4⟩ := List.nodup_cons.mp n2
    obtain ⟨n5, n6⟩ := List.nodup_cons.mp n4
    have hlt : t.length = i := by have := hv.length_eq; simpa using this
    refine law_free_spec T 5 (c := c) (t := t) (us := []) (sn := []) (R.le (by omega) (by omega)) ?_ ?_ ?_ ?_ ?_ .nil (X₃.lo (i := 1) rfl) (X₃.lo (i := 0) rfl) ?_ ?_ ?_ (by omega) hok ⟨List.nodup_nil, fun _ z => (List.not_mem_nil z).elim⟩ (by simp) ?_
    · exact X₃.fr.keep
    · exact X₃.big
    · exact X₃.get (i := 2) rfl
    · exact X₃.get (i := 1) rfl
    · exact X₃.get (i := 0) rfl
    · exact fun e => n3 (by rw [← e]; exact .head _)
    · exact fun e => n5 (by rw [← e]; exact .head _)
    · exact fun e => n3 (by rw [← e]; exact .tail _ (.head _))
    · intro h₄ tk₄ b t' us' sn' c₄ D₄ S₄ I₄ post
      refine wpAny_truthy_bool ?_
      cases b with
      | false =>
        exfalso
        rw [if_neg Bool.false_ne_true] at post
        obtain ⟨rfl, F⟩ := post
        refine free_never Rg hn (one := (i : Int)) ⟨by omega, by omega⟩ (hv.symm.nodup ?_) ?_ ?_ F
        · exact List.pairwise_map.mpr (List.nodup_range.imp fun h e => h (by omega))
        · intro p hp
          obtain ⟨a, ha, e⟩ := List.mem_map.mp (hv.subset (List.mem_map.mpr ⟨p, hp, rfl⟩))
          rw [← e]; have := List.mem_range.mp ha; exact ⟨by omega, by omega⟩
        · intro z
          obtain ⟨a, ha, e⟩ := List.mem_map.mp (hv.subset z)
          have := List.mem_range.mp ha; omega
      | true =>
        rw [if_pos rfl] at post
        simp only [Bool.not_true]
        rw [if_neg Bool.false_ne_true]
        have X₄ := X₃.call (O' := (_, .lst us') :: (tk, .di t') :: (lf, .d2 c) :: P) c₄ (fun a z => by
            rcases List.mem_cons.mp z with rfl | z
            · exact .tail _ (.head _)
            · rw [List.mem_singleton.mp z]; exact .head _) rfl (fun p z => by
            rcases List.mem_cons.mp z with rfl | z
            · exact .inr S₄
            · rcases List.mem_cons.mp z with rfl | z
              · exact .inr D₄
              · refine .inl ⟨.tail _ (.tail _ z), fun y => ?_⟩
                have hm : p.1 ∈ List.map (·.1) ((lf, AO.d2 c) :: P) := List.mem_map.mpr ⟨p, z, rfl⟩
                rcases List.mem_cons.mp y with y | y
                · exact n5 (y ▸ hm)
                · exact n3 (.tail _ ((List.mem_singleton.mp y) ▸ hm)))
        refine wpAny_execs_nil (wpAny_execs_nil (Turn.next (X₄.sub (List.sublist_cons_self _ _)) ⟨hJ _ _ _ hj rfl, m1, m2, t', rfl, ?_, post.ok⟩))
        refine post.perm.trans ?_
        rw [List.range_succ, List.map_append]
        exact (List.Perm.cons _ hv).trans (List.perm_append_comm (l₁ := [(i : Int)]))
  · rintro m₁ O₁ h₁ tk₁ ⟨hj, m1, m2, t, rfl, hv, hok⟩ X₁ k₁
    exact h _ _ _ t hj X₁ m1 m2 hv hok
end
end Mine
end

section
open PySem PySem.W PySem.Calls PyProof.Rows
set_option maxRecDepth 100000
set_option maxHeartbeats 4000000
namespace Mine
section
variable {prog : Program} {w : World} {h₀ hb : Heap} {W : List Addr} {a d L f : Addr} {cd : Value} {m : Str → Option Value} {O : List (Addr × AO)} {A : Around} {s : Shared} {env : Env}
def lotP (t : List (Int × Int)) : List (Int × Int) := t.map fun p => (p.2, p.1)
theorem edge_has {c : Cn} {x o : Int} (h : Edge c x o) : kprHas c (x, o) = true := by
  cases e : kprHas c (x, o) with
  | true => rfl
  | false => unfold Edge at h; rw [kpr_look_none e 0] at h; omega
theorem law_lay {Q : Flow → Shared → Prop} {c : Cn} {tk lf od : Addr} {t : List (Int × Int)} {P : List (Addr × AO)} (T : Tp h₀) (R : Rm A 10 100) (X : St prog w h₀ hb W L m ((od, .pl []) :: (tk, .di t) :: (lf, .d2 c) :: P) s.heap)
    (m1 : m "left" = some (.ref lf)) (m2 : m "taken" = some (.ref tk)) (m3 : m "order" = some (.ref od)) (hv : (t.map (·.2)).Perm I4) (hok : ∀ p ∈ t, Edge c p.2 p.1 ∧ In4 p.1) (hcl : c.length ≤ 12)
    (J : (Str → Option Value) → Prop) (hJ : ∀ m' n v, J m' → n = "other" → J (fun y => if y = n then some v else m' y)) (j0 : J m)
    (h : ∀ h' tok m' ps, J m' → St prog w h₀ hb W L m' ((od, .pl ps) :: (lf, .d2 (decs c (lotP t))) :: P) h' → m' "left" = some (.ref lf) → m' "order" = some (.ref od) → ps.Perm (lotP t) → ps.Pairwise (fun a b => plt a b = true) → (t.map (·.1)).Nodup → Q .next { s with heap := h', toks := tok }) :
    wpAny (model prog w) A (exec (turnStmt 3) (lawEnv L f cd)) Q (fun _ _ => False) s := by
  have hdi : IsDI prog w s.heap tk t := X.get (i := 1) rfl
  have hkn := hdi.nodup
  have htl : t.length = 4 := by have := hv.length_eq; simpa [I4] using this
  obtain ⟨lo, es, ep, rd, ent⟩ := hdi.ent
  have Xs := X.sub (O' := (od, .pl []) :: (lf, .d2 c) :: P) (.cons_cons _ (.cons _ (.refl _)))
  have htn : tk ∉ L :: List.map (·.1) ((od, AO.pl []) :: (lf, AO.d2 c) :: P) := by
    have nd := X.nodup
    intro z
    rw [List.map_cons, List.map_cons] at nd
    obtain ⟨n1, n2⟩ := List.nodup_cons.mp nd
    obtain ⟨n3, n4⟩ := List.nodup_cons.mp n2
    obtain ⟨n5, n6⟩ := List.nodup_cons.mp n4
    rcases List.mem_cons.mp z with z | z
    · exact n1 (z ▸ .tail _ (.head _))
    · rcases List.mem_cons.mp z with z | z
      · exact n3 (z ▸ .head _)
      · exact n5 z
  have dtk : ∀ h', Kp h₀ (L :: List.map (·.1) ((od, AO.pl []) :: (lf, AO.d2 c) :: P)) s.heap h' → IsDI prog w h' tk t := fun h' k => Rep.chg (o := .di t) hdi k htn
  have lnd : (lotP t).Nodup := by
    refine nodup_of_map (f := (·.1)) ?_
    have : (lotP t).map (·.1) = t.map (·.2) := by simp [lotP]
    rw [this]; exact hv.symm.nodup nodup_I4
  have hhas : ∀ p ∈ lotP t, kprHas c p = true := fun p hp => by
    obtain ⟨r, hr, rfl⟩ := List.mem_map.mp hp
    exact edge_has (hok r hr).1
  have Xr := Xs.rebase
  refine for_stmt (eN X m2 ?_)
  refine loop_keys (prog := prog) (w := w) R.hh Xr lo rd htn
    (fun i m₁ O₁ => (J m₁ ∧ m₁ "left" = some (.ref lf) ∧ m₁ "taken" = some (.ref tk) ∧ m₁ "order" = some (.ref od) ∧ ∃ ps, O₁ = (od, .pl ps) :: (lf, .d2 (decs c ((lotP t).take i))) :: P ∧ ps.Perm ((lotP t).take i) ∧ ps.Pairwise (fun a b => plt a b = true)) ∧ Inv s.heap _ L O₁)
    ⟨⟨j0, m1, m2, m3, [], rfl, .refl _, .nil⟩, Xr.inv⟩ (step_more Xr ?_) ?_
  · rintro i v m₁ O₁ h₁ tk₁ hi ⟨e, he, rfl⟩ ⟨hj, m1, m2, m3, ps, rfl, hps, hso⟩ X₁ K₁ inv₁
    have hi' : i < t.length := ent.size ▸ hi
    obtain ⟨ku, vt, e', he', hk, _⟩ := ent.at' i t[i].1 t[i].2 (by simp [hi'])
    rw [he] at he'; cases he'
    obtain ⟨⟨o, x⟩, hp⟩ : ∃ p, t[i] = p := ⟨_, rfl⟩
    rw [hp] at hk
    have hmem : (o, x) ∈ t := hp ▸ List.getElem_mem hi'
    have hlook : kprLook t o 0 = x := look_of_mem hkn hmem 0
    have hth : kprHas t o = true := kpr_has_iff.mpr (List.mem_map.mpr ⟨_, hmem, rfl⟩)
    have hli : (lotP t)[i]? = some (x, o) := by simp [lotP, hi', hp]
    have hlil : i < (lotP t).length := (List.getElem?_eq_some_iff.mp hli).1
    have htake : (lotP t).take (i + 1) = (lotP t).take i ++ [(x, o)] := take_next hli
    have hnot : (x, o) ∉ ps := fun z => by
      have hz := hps.subset z
      have : ((lotP t).take (i + 1)).Nodup := lnd.sublist (List.take_sublist _ _)
      rw [htake] at this
      exact (List.nodup_append.mp this).2.2 _ hz _ (.head _) rfl
    have hpsl : ps.length ≤ 4 := by
      have := hps.length_eq
      rw [List.length_take] at this
      have h2 : (lotP t).length = 4 := by simp [lotP, htl]
      omega
    rw [hk]
    refine wpAny_assign_Name (sN X₁ fun h₂ X₂ => ?_)
    have K₂ := K₁.step X₂.chg.toKp inv₁
    -- insort_left(order, (taken[other], other))
    refine wpAny_execs_cons (wpAny_Expr ?_)
    refine wpAny_Call_NameR ?_
    refine eG T X₂.fr (gmem (i := 2) rfl) ?_
    refine callG T.ins (args_cons (eN X₂ m3 (args_cons (wpAny_Tuple (args_cons (sub_item "dict" _ slot_dict_getitem.lookup (eN X₂ m2 (eN X₂ rfl ⟨isDI_type (dtk _ K₂), ?_⟩))))))))
    refine isDI_item (dtk _ K₂) hth fun t₃ tk₃ => ?_
    rw [hlook]
    refine args_cons (eN X₂ rfl (args_nil ⟨by size_fits, ?_⟩))
    dsimp only
    refine args_nil ⟨fun b o z => Heap.get?_push_of_some _ (X₂.fr.keep b o z), ?_⟩
    have X₃ := X₂.push { cls := .type "tuple", data := .seq [Value.int x t₃, .int o ku].toArray }
    obtain ⟨us, hpl, hprs⟩ := X₃.get (i := 0) rfl
    refine insort_spec (q := (x, o)) T (R.le (by omega) (by omega)) X₃.fr.keep X₃.big hpl (X₃.lo (i := 0) rfl) hprs ⟨_, _, _, rfl, _, Heap.get?_push_size _ rfl, rfl, _, rfl⟩ hso hnot (by omega) fun h₄ tk₄ us' ps' c₄ pl₄ prs₄ perm₄ so₄ => ?_
    have X₄ := X₃.call (O' := (od, .pl ps') :: (lf, .d2 (decs c ((lotP t).take i))) :: P) c₄ (fun a z => by rw [List.mem_singleton.mp z]; exact .head _) rfl (fun p z => by
      rcases List.mem_cons.mp z with rfl | z
      · exact .inr ⟨us', pl₄, prs₄⟩
      · refine .inl ⟨.tail _ z, fun y => ?_⟩
        have hm : p.1 ∈ List.map (·.1) ((lf, AO.d2 (decs c ((lotP t).take i))) :: P) := List.mem_map.mpr ⟨p, z, rfl⟩
        have nd := X₃.nodup
        rw [List.map_cons] at nd
        exact (List.nodup_cons.mp (List.nodup_cons.mp nd).2).1 ((List.mem_singleton.mp y) ▸ hm))
    have K₄ := K₁.step X₄.chg.toKp inv₁
    -- left[taken[other], other] = left[taken[other], other] - 1
    dsimp only
    have hdk : (decs c ((lotP t).take i)).map (·.1) = c.map (·.1) := decs_keys _ _ fun p hp => hhas p (List.mem_of_mem_take hp)
    have hdl : (decs c ((lotP t).take i)).length = c.length := by have := congrArg List.length hdk; simpa using this
    have hdh : kprHas (decs c ((lotP t).take i)) (x, o) = true := by
      rw [kpr_has_iff, hdk]; exact kpr_has_iff.mp (hhas _ (List.mem_of_getElem? hli))
    refine wpAny_execs_cons (wpAny_Assign_Subscript (wpAny_BinOp (sub_item "dict" _ slot_dict_getitem.lookup (eN X₄ m1 (wpAny_Tuple (args_cons (sub_item "dict" _ slot_dict_getitem.lookup (eN X₄ m2 (eN X₄ rfl ⟨isDI_type (dtk _ K₄), ?_⟩)))))))))
    refine isDI_item (dtk _ K₄) hth fun t₅ tk₅ => ?_
    rw [hlook]
    refine args_cons (eN X₄ rfl (args_nil ⟨by size_fits, ?_⟩))
    dsimp only
    have X₅ := X₄.push { cls := .type "tuple", data := .seq [Value.int x t₅, .int o ku].toArray }
    refine ⟨isD_type (X₅.get (i := 1) rfl), ?_⟩
    refine isD_item key2_inj (R.u1 (u := 99)) (X₅.get (i := 1) rfl) (key2_of (i := x) (j := o) (Heap.get?_push_size _ rfl) rfl rfl) hdh fun t₆ tk₆ => ?_
    refine wpAny_Constant_int (sub_int ?_)
    dsimp only
    have K₅ := K₁.step X₅.chg.toKp inv₁
    refine eN X₅ m1 (wpAny_Tuple (args_cons (sub_item "dict" _ slot_dict_getitem.lookup (eN X₅ m2 (eN X₅ rfl ⟨isDI_type (dtk _ K₅), ?_⟩)))))
    refine isDI_item (dtk _ K₅) hth fun t₇ tk₇ => ?_
    rw [hlook]
    refine args_cons (eN X₅ rfl (args_nil ⟨by size_fits, ?_⟩))
    dsimp only
    refine isD_set key2_inj (R.u1 (u := 99)) ((X₅.push _).get (i := 1) rfl) (key2_of (i := x) (j := o) (Heap.get?_push_size _ rfl) rfl rfl) (by omega) fun h₈ tk₈ D₈ s₈ => ?_
    have X₈ := (X₅.push _).put (i := 1) (o' := .d2 _) rfl s₈ D₈
    refine wpAny_execs_nil (Turn.next X₈ ⟨hJ _ _ _ hj rfl, m1, m2, m3, ps', ?_, ?_, so₄⟩)
    · rw [htake, decs_snoc]; rfl
    · rw [htake]
      exact perm₄.trans ((List.Perm.cons _ hps).trans (List.perm_append_comm (l₁ := [(x, o)])))
  · rintro m₁ O₁ h₁ tk₁ ⟨⟨hj, m1, m2, m3, ps, rfl, hps, hso⟩, _⟩ X₁ k₁
    have e : (lotP t).take es.size = lotP t := List.take_of_length_le (by rw [ent.size]; simp [lotP])
    rw [e] at X₁ hps
    exact h _ _ _ ps hj (Xs.join X₁ .refl) m1 m3 hps hso hkn
end
end Mine
end

section
open PySem PySem.W PySem.Calls PyProof.Rows
set_option maxRecDepth 100000
set_option maxHeartbeats 4000000
namespace Mine
section
variable {prog : Program} {w : World} {h₀ hb : Heap} {W : List Addr} {a d L f : Addr} {cd : Value} {m : Str → Option Value} {O : List (Addr × AO)} {A : Around} {s : Shared} {env : Env}
theorem St.head_out {b : Addr} {o : AO} {P : List (Addr × AO)} {h : Heap} (x : St prog w h₀ hb W L m ((b, o) :: P) h) : b ∉ L :: P.map (·.1) := by
  have nd := x.nodup
  rw [List.map_cons] at nd
  obtain ⟨n1, n2⟩ := List.nodup_cons.mp nd
  intro z
  rcases List.mem_cons.mp z with z | z
  · exact n1 (z ▸ .head _)
  · exact (List.nodup_cons.mp n2).1 z
theorem prs_ref {h : Heap} {us : List Value} {ps : List (Int × Int)} (x : Prs h us ps) (i : Nat) (v : Value) (e : us.toArray[i]? = some v) : ∃ T, v = .ref T := by
  rw [List.getElem?_toArray] at e
  have hi : i < ps.length := by rw [← x.len]; exact (List.getElem?_eq_some_iff.mp e).1
  obtain ⟨v', e', a, t, u, rfl, _⟩ := x.get (List.getElem?_eq_getElem hi)
  rw [e] at e'; cases e'; exact ⟨a, rfl⟩
theorem law_check {Q : Flow → Shared → Prop} {od : Addr} {ps : List (Int × Int)} {P : List (Addr × AO)} (T : Tp h₀) (R : Rm A 10 100) (X : St prog w h₀ hb W L m ((od, .pl ps) :: P) s.heap) (m1 : m "order" = some (.ref od))
    (h1 : (ps.map (·.1)).Perm I4) (h2 : (ps.map (·.2)).Perm I4) (hso : ps.Pairwise (fun a b => plt a b = true))
    (h : ∀ h' tok, St prog w h₀ hb W L m ((od, .pl ps) :: P) h' → Q .next { s with heap := h', toks := tok }) :
    wpAny (model prog w) A (exec (turnStmt 4) (lawEnv L f cd)) Q (fun _ _ => False) s := by
  have hod := X.head_out
  have hlo := X.lo (i := 0) rfl
  have hmay := X.may od (.tail _ (.head _))
  obtain ⟨us, hpl, hprs⟩ := X.get (i := 0) rfl
  have hpl4 : ps.length = 4 := by have := h1.length_eq; simpa [I4] using this
  have hul := hprs.len
  have hf1 := order_firsts h1 hso
  have Xs := X.sub (List.sublist_cons_self _ _)
  have wI4 : ∀ t1 t2 t3 t4 : Tok, IntsAre [Value.int 0 t1, .int 1 t2, .int 2 t3, .int 3 t4] I4 := fun t1 t2 t3 t4 => .cons 0 t1 (.cons 1 t2 (.cons 2 t3 (.cons 3 t4 .nil)))
  refine wpAny_If (isTrue_or (wpAny_isTrue_Compare1 ?_))
  refine list_comp (cl := []) rfl (eN X m1 ?_)
  refine it_listT R.hh Xs (Heap.PlainList.isList hpl) hod (prs_ref hprs) fun h₂ X₂ k₂ I₂ => ?_
  refine comp_in (g := ⟨_, _, _, 0⟩) rfl rfl (fun D C => rule_a) (fun D C K K' s => EmitA.mono) X₂ (I₂ _ _ _) (Emit := fun D e => EmitA prog w A _ e (.ref D))
    (fun D' i m₁ O₁ => ∃ vals, O₁ = (D', .lst vals) :: P ∧ IntsAre vals ((ps.take i).map (·.1))) (fun D' _ => ⟨[], rfl, .nil⟩) (fun D' C hC => ?_) ?_
  · rintro i v m₃ O₃ h₃ tk₃ hi ev ⟨vals, rfl, hvals⟩ X₃ k₃
    have hi' : i < ps.length := by rw [← hul]; simpa using hi
    obtain ⟨v', ev', a, t, u, rfl, hT⟩ := ((hprs.kp k₂).kp k₃).get (List.getElem?_eq_getElem hi')
    have : v = .ref a := by rw [List.getElem?_toArray] at ev; rw [ev] at ev'; exact Option.some.inj ev'
    subst this
    refine assign_pair R.hh X₃ hT fun h₄ tk₄ X₄ => ?_
    unfold EmitA
    refine eN X₄ rfl ?_
    have hvl := intsAre_len hvals
    rw [List.length_map, List.length_take] at hvl
    refine lst_append (X₄.get (i := 0) rfl) (by omega) fun h₅ p₅ s₅ => ?_
    have X₅ := X₄.put (i := 0) (o' := .lst _) rfl s₅ p₅
    refine ⟨h₅, _, _, _, rfl, X₅, _, rfl, ?_⟩
    rw [take_next (List.getElem?_eq_getElem hi'), List.map_append]
    exact intsAre_append hvals (.cons _ _ .nil)
  · rintro D' m₃ O₃ h₃ tk₃ ⟨vals, rfl, hvals⟩ X₃ k₃ hD'
    have e1 : ps.take us.toArray.size = ps := List.take_of_length_le (by rw [List.size_toArray]; omega)
    rw [e1, hf1] at hvals
    refine wpAny_List (args_cons (wpAny_Constant_int (args_cons (wpAny_Constant_int (args_cons (wpAny_Constant_int (args_cons (wpAny_Constant_int (args_nil ⟨by size_fits, ?_⟩)))))))))
    dsimp only
    refine ints_ne (by have := R.un; omega) (Heap.PlainList.isList ((X₃.push _).get (i := 0) rfl)) ⟨_, Heap.get?_push_size _ rfl, rfl, _, rfl⟩ hvals (wI4 _ _ _ _) (wpAny_truthy_bool ?_)
    rw [if_neg Bool.false_ne_true]
    have Y := (X₃.push { cls := .type "list", data := .seq [Value.int 0 tk₃, .int 1 (tk₃ + 1), .int 2 (tk₃ + 1 + 1), .int 3 (tk₃ + 1 + 1 + 1)].toArray }).sub (List.sublist_cons_self _ _)
    have kY : Kp h₀ (L :: P.map (·.1)) s.heap (h₃.push { cls := .type "list", data := .seq [Value.int 0 tk₃, .int 1 (tk₃ + 1), .int 2 (tk₃ + 1 + 1), .int 3 (tk₃ + 1 + 1 + 1)].toArray }) := by
      refine (((k₂.mono fun _ z => nomatch z).step k₃ fun b z => ?_).trans (Kp.push _))
      rcases List.mem_cons.mp z with rfl | z
      · exact .inr none_size
      · exact .inl (.tail _ z)
    generalize h₃.push { cls := .type "list", data := .seq [Value.int 0 tk₃, .int 1 (tk₃ + 1), .int 2 (tk₃ + 1 + 1), .int 3 (tk₃ + 1 + 1 + 1)].toArray } = h₄ at Y kY ⊢
    clear X₃ k₃ k₂ I₂ X₂
    have hpl₄ : h₄.PlainList od us.toArray := Heap.PlainList.at hpl fun o e => kY.keep od o hod e
    have hprs₄ := hprs.kp kY
    -- sorted([other ...]) != [0, 1, 2, 3]
    refine isTrue_or (wpAny_isTrue_Compare1 ?_)
    refine wpAny_Call_NameR ?_
    refine eG T Y.fr (gmem (i := 12) rfl) ?_
    refine PyProof.Rows.callWith_builtin1 (args_cons ?_)
    refine list_comp (cl := []) rfl (eN Y m1 ?_)
    refine it_listT R.hh Y (Heap.PlainList.isList hpl₄) hod (prs_ref hprs₄) fun h₅ X₅ k₅ I₅ => ?_
    refine comp_in (g := ⟨_, _, _, 0⟩) rfl rfl (fun D C => rule_a) (fun D C K K' s => EmitA.mono) X₅ (I₅ _ _ _) (Emit := fun D e => EmitA prog w A _ e (.ref D))
      (fun D' i m₁ O₁ => ∃ vals, O₁ = (D', .lst vals) :: P ∧ IntsAre vals ((ps.take i).map (·.2))) (fun D' _ => ⟨[], rfl, .nil⟩) (fun D' C hC => ?_) ?_
    · rintro i v m₃ O₃ h₆ tk₆ hi ev ⟨vals, rfl, hvals⟩ X₆ k₆
      have hi' : i < ps.length := by rw [← hul]; simpa using hi
      obtain ⟨v', ev', a, t, u, rfl, hT⟩ := ((hprs₄.kp k₅).kp k₆).get (List.getElem?_eq_getElem hi')
      have : v = .ref a := by rw [List.getElem?_toArray] at ev; rw [ev] at ev'; exact Option.some.inj ev'
      subst this
      refine assign_pair R.hh X₆ hT fun h₇ tk₇ X₇ => ?_
      unfold EmitA
      refine eN X₇ rfl ?_
      have hvl := intsAre_len hvals
      rw [List.length_map, List.length_take] at hvl
      refine lst_append (X₇.get (i := 0) rfl) (by omega) fun h₈ p₈ s₈ => ?_
      have X₈ := X₇.put (i := 0) (o' := .lst _) rfl s₈ p₈
      refine ⟨h₈, _, _, _, rfl, X₈, _, rfl, ?_⟩
      rw [take_next (List.getElem?_eq_getElem hi'), List.map_append]
      exact intsAre_append hvals (.cons _ _ .nil)
    · rintro D₂ m₃ O₃ h₆ tk₆ ⟨vals₂, rfl, hvals₂⟩ X₆ k₆ hD₂
      rw [e1] at hvals₂
      have hv2 := intsAre_len hvals₂
      rw [List.length_map] at hv2
      refine args_nil ?_
      dsimp only
      refine sorted_ints (Heap.PlainList.isList (X₆.get (i := 0) rfl)) hvals₂ (by omega) fun out ns' ho hp' hs' => ?_
      have eI : ns' = I4 := sorted_I4 (hp'.trans h2) hs'
      subst eI
      dsimp only
      have X₇ := X₆.other (V := []) (h' := sortedAll h₆ vals₂ out) ⟨fun b o _ e => sortedAll_old e, fun b o _ e => sortedAll_old e, fun b o e _ => sortedAll_old e⟩ (fun _ z => nomatch z) (fun _ z => nomatch z)
      refine wpAny_List (args_cons (wpAny_Constant_int (args_cons (wpAny_Constant_int (args_cons (wpAny_Constant_int (args_cons (wpAny_Constant_int (args_nil ⟨by size_fits, ?_⟩)))))))))
      dsimp only
      obtain ⟨en, hen⟩ := sortedAll_at h₆ vals₂ out
      refine ints_ne (vs := out.toList) (by have := R.un; omega) ⟨_, Heap.get?_push_of_some _ hen, rfl, _, by simp [seqObj]; rfl⟩ ⟨_, Heap.get?_push_size _ rfl, rfl, _, rfl⟩ ho (wI4 _ _ _ _) (wpAny_truthy_bool ?_)
      rw [if_neg Bool.false_ne_true]
      refine isTrue_or_nil ?_
      rw [if_neg Bool.false_ne_true]
      refine wpAny_execs_nil ?_
      have kZ : Kp h₀ (L :: P.map (·.1)) h₄ (sortedAll h₆ vals₂ out) := by
        have k7 : Kp h₀ [] h₆ (sortedAll h₆ vals₂ out) := ⟨fun b o _ e => sortedAll_old e, fun b o _ e => sortedAll_old e, fun b o e _ => sortedAll_old e⟩
        refine (((k₅.mono fun _ z => nomatch z).step k₆ fun b z => ?_).trans (k7.mono fun _ z => nomatch z))
        rcases List.mem_cons.mp z with rfl | z
        · exact .inr none_size
        · exact .inl (.tail _ z)
      have Z₁ := X₇.sub (List.sublist_cons_self _ _)
      refine h _ _ (((Z₁.push _).add (o := .pl ps) ⟨us, Heap.PlainList.at hpl₄ fun o e => Heap.get?_push_of_some _ (kZ.keep od o hod e), ?_⟩ hlo hod hmay))
      exact (hprs₄.kp kZ).kp (h₀ := h₀) (W := []) (.push _)
end
end Mine
end

section
open PySem PySem.W PySem.Calls PyProof.Rows
set_option maxRecDepth 100000
set_option maxHeartbeats 4000000
namespace Mine
section
variable {prog : Program} {w : World} {h₀ hb : Heap} {W : List Addr} {a d L f : Addr} {cd : Value} {m : Str → Option Value} {O : List (Addr × AO)} {A : Around} {s : Shared} {env : Env} {D K Pd : Addr} {us : List Value} {rs : List (List Int)} {qc : List (Addr × List (Int × Int))} {sv : Value} {mk : Option Value}
theorem perm_I4 {l : List Int} (hn : l.Nodup) (h4 : ∀ x ∈ l, In4 x) (hl : l.length = 4) : l.Perm I4 := by
  obtain ⟨z, hz⟩ := sub_perm (m := I4) hn fun x hx => mem_I4.mpr (h4 x hx)
  have := hz.length_eq
  rw [List.length_append, hl] at this
  have h4' : I4.length = 4 := rfl
  have hz0 : z = [] := List.eq_nil_of_length_eq_zero (by omega)
  rw [hz0, List.append_nil] at hz
  exact hz.symm
/-- what holds after some turns -/
structure Tn (cp : Cn) (n : Int) (c : Cn) (q : List (Addr × List (Int × Int))) : Prop where
  reg : Reg c n
  keys : c.map (·.1) = cp.map (·.1)
  cnt : ∀ p, kprLook c p 0 + ((q.flatMap (·.2)).count p : Int) = kprLook cp p 0
  four : ∀ p ∈ q, p.2.length = 4
theorem law_turns {Q : Flow → Shared → Prop} {lf lo : Addr} (T : Tp h₀) (R : Rm A 10 100) (X : St prog w h₀ hb (V₀ L) L m ((lf, .d2 (tally (allPairs rs))) :: (lo, .lst []) :: cF L sv D K Pd mk) s.heap) (Z : Fz prog w (V₀ L) hb D K Pd us rs qc)
    (m1 : m "left" = some (.ref lf)) (m2 : m "lots" = some (.ref lo))
    (h : ∀ h' tok m' c q, St prog w h₀ hb (V₀ L) L m' ((lf, .d2 c) :: (lo, .lst (rfs q)) :: (q.map fP ++ cF L sv D K Pd mk)) h' → m' "left" = some (.ref lf) → m' "lots" = some (.ref lo) → q.length = rs.length → Tn (tally (allPairs rs)) 0 c q → Q .next { s with heap := h', toks := tok }) :
    wpAny (model prog w) A (exec (lawStmt 7) (lawEnv L f cd)) Q (fun _ _ => False) s := by
  have hr3 := Z.r3
  refine for_stmt ?_
  refine wpAny_Call_NameR ?_
  refine eG T X.fr (gmem (i := 6) rfl) ?_
  refine PyProof.Rows.callWith_type1 (args_cons ?_)
  refine wpAny_Call_NameR ?_
  refine eG T X.fr (gmem (i := 10) rfl) ?_
  refine PyProof.Rows.callWith_builtin1 (args_cons (eC (i := 3) X rfl rfl (args_nil ?_)))
  have hus : us.toArray.size = rs.length := by rw [List.size_toArray, Z.us]
  refine call_len_list (Z.kp X.chg.toKp).lD (by rw [hus]; omega) ?_
  refine args_nil ?_
  refine loop_range_n (n := us.toArray.size) R.hh X (by omega)
    (fun i m₁ O₁ => m₁ "left" = some (.ref lf) ∧ m₁ "lots" = some (.ref lo) ∧ ∃ c q, O₁ = (lf, .d2 c) :: (lo, .lst (rfs q)) :: (q.map fP ++ cF L sv D K Pd mk) ∧ q.length = i ∧ Tn (tally (allPairs rs)) ((rs.length : Int) - i) c q)
    ⟨m1, m2, tally (allPairs rs), [], rfl, rfl, ⟨by simpa using reg_all Z.perm, rfl, fun p => by simp, fun _ z => (List.not_mem_nil z).elim⟩⟩ ?_ ?_
  · rintro i v m₁ O₁ h₁ tk₁ hi ⟨tv, rfl⟩ ⟨m1, m2, c, q, rfl, hq, tn⟩ X₁ k₁
    rw [hus] at hi
    have hcl : c.length ≤ 12 := by
      have := congrArg List.length tn.keys
      rw [List.length_map, List.length_map] at this
      rw [this]; exact Z.clen
    refine wpAny_assign_Name (sN X₁ fun h₂ X₂ => ?_)
    -- taken = {}
    refine wpAny_execs_cons (wpAny_Assign_Name (wpAny_Dict_empty ?_))
    have X₃ := X₂.new (o := .di []) { cls := .type "dict", data := .dict #[] } (isDI_new (lo_of T X₂.big))
    refine sN X₃ fun h₄ X₄ => ?_
    dsimp only
    refine wpAny_execs_cons (law_match T R tn.reg (by omega) X₄ m1 rfl (fun m' => m' "lots" = some (.ref lo)) (fun m' n v hj hn => by rw [hn]; exact hj) m2 ?_)
    intro h₅ tk₅ m₅ t m2₅ X₅ m1₅ m3₅ hv hok
    -- order = []
    refine wpAny_execs_cons (wpAny_Assign_Name (wpAny_List (args_nil ⟨by size_fits, ?_⟩)))
    dsimp only
    have X₆ := X₅.new (o := .pl []) { cls := .type "list", data := .seq #[] } ⟨[], ⟨0, Heap.get?_push_size _ rfl⟩, .nil⟩
    refine sN X₆ fun h₇ X₇ => ?_
    dsimp only
    refine wpAny_execs_cons (law_lay T R X₇ m1₅ m3₅ rfl hv hok hcl (fun m' => m' "lots" = some (.ref lo)) (fun m' n v hj hn => by rw [hn]; exact hj) m2₅ ?_)
    intro h₈ tk₈ m₈ ps m2₈ X₈ m1₈ m3₈ hps hso hkn
    have htl : t.length = 4 := by have := hv.length_eq; simpa [I4] using this
    have e1 : (lotP t).map (·.1) = t.map (·.2) := by simp [lotP]
    have e2 : (lotP t).map (·.2) = t.map (·.1) := by simp [lotP]
    have p1 : ((lotP t).map (·.1)).Perm I4 := by rw [e1]; exact hv
    have p2 : ((lotP t).map (·.2)).Perm I4 := by
      rw [e2]
      exact perm_I4 hkn (fun x hx => by obtain ⟨p, hp, rfl⟩ := List.mem_map.mp hx; exact (hok p hp).2) (by rw [List.length_map, htl])
    have hedge : ∀ p ∈ lotP t, Edge c p.1 p.2 := fun p hp => by obtain ⟨r, hr, rfl⟩ := List.mem_map.mp hp; exact (hok r hr).1
    refine wpAny_execs_cons (law_check T R X₈ m3₈ ((hps.map _).trans p1) ((hps.map _).trans p2) hso ?_)
    intro h₉ tk₉ X₉
    -- lots.append(order)
    have hrl : (rfs q).length ≤ 1000 := by rw [rfs, List.length_map]; omega
    refine wpAny_execs_cons (append_stmt X₉ m2₈ (X₉.get (i := 2) rfl) (eN X₉ m3₈ ⟨_, X₉.get (i := 2) rfl, hrl, fun h₁₀ p₁₀ s₁₀ => ?_⟩))
    have X₁₀ := X₉.put (i := 2) (o' := .lst _) rfl s₁₀ p₁₀
    have X₁₁ := St.snoc (f := fP) (p' := (h₅.objs.size, ps)) (P := [(lf, .d2 (decs c (lotP t))), (lo, .lst (rfs q ++ [.ref h₅.objs.size]))]) X₁₀
    refine wpAny_execs_nil (Turn.next X₁₁ ⟨m1₈, m2₈, decs c (lotP t), q ++ [(h₅.objs.size, ps)], by simp [rfs], by simp [hq], ?_⟩)
    refine ⟨?_, ?_, ?_, ?_⟩
    · have := reg_dec tn.reg p1 p2 hedge
      have e : (rs.length : Int) - (i : Int) - 1 = (rs.length : Int) - ((i + 1 : Nat) : Int) := by omega
      rw [← e]; exact this
    · rw [decs_keys _ _ fun p hp => edge_has (hedge p hp)]; exact tn.keys
    · intro p
      rw [decs_look, List.flatMap_append, List.count_append, List.flatMap_cons, List.flatMap_nil, List.append_nil, hps.count_eq]
      have := tn.cnt p
      omega
    · intro p hp
      rcases List.mem_append.mp hp with hp | hp
      · exact tn.four p hp
      · rw [List.mem_singleton.mp hp]
        have := hps.length_eq
        rw [this]; simp [lotP, htl]
  · rintro m₁ O₁ h₁ tk₁ ⟨m1, m2, c, q, rfl, hq, tn⟩ X₁ k₁
    rw [hus] at hq tn
    have e : (rs.length : Int) - (rs.length : Int) = 0 := by omega
    rw [e] at tn
    exact h _ _ _ c q X₁ m1 m2 hq tn
end
end Mine
end

section
open PySem PySem.W PySem.Calls PyProof.Rows
set_option maxRecDepth 100000
set_option maxHeartbeats 4000000
namespace Mine
section
variable {prog : Program} {w : World} {h₀ hb : Heap} {W : List Addr} {a d L f : Addr} {cd : Value} {m : Str → Option Value} {O : List (Addr × AO)} {A : Around} {s : Shared} {env : Env} {D K Pd : Addr} {us : List Value} {rs : List (List Int)} {qc q : List (Addr × List (Int × Int))} {sv : Value} {mk : Option Value} {c : Cn} {lf lo : Addr}
theorem tn_zero {cp : Cn} (tn : Tn cp 0 c q) (h4 : ∀ p ∈ cp, In4 p.1.1 ∧ In4 p.1.2) (k : Int × Int) : kprLook c k 0 = 0 := by
  cases e : kprHas c k with
  | false => exact kpr_look_none e 0
  | true =>
    have hm := kpr_has_iff.mp e
    rw [tn.keys] at hm
    obtain ⟨p, hp, rfl⟩ := List.mem_map.mp hm
    exact reg_zero tn.reg (h4 p hp).1 (h4 p hp).2
/-- none are left -/
theorem law_zero {Q : Flow → Shared → Prop} (T : Tp h₀) (R : Rm A 10 100) (X : St prog w h₀ hb (V₀ L) L m (cF L sv D K Pd mk) s.heap) (dl : IsD prog w key2 hb lf c) (hl : lf ∉ V₀ L) (m1 : m "left" = some (.ref lf)) (h0 : ∀ k, kprLook c k 0 = 0)
    (h : ∀ h' tok, St prog w h₀ hb (V₀ L) L m (cF L sv D K Pd mk) h' → Q .next { s with heap := h', toks := tok }) :
    wpAny (model prog w) A (exec (lawStmt 8) (lawEnv L f cd)) Q (fun _ _ => False) s := by
  have dls : IsD prog w key2 s.heap lf c := dl.chg X.chg.toKp hl
  obtain ⟨lo, es, ep, rd, ent⟩ := dls.ent
  have hnd := dl.nodup key2_inj
  obtain ⟨ol, hol⟩ := dl.here
  refine wpAny_If (wpAny_isTrue_Compare1 ?_)
  refine list_comp (cl := []) rfl ?_
  refine MethodCall_ (eN X m1 (isD_meth PySem.F.slot_dict_values PySem.F.type_dict_values dls ?_))
  refine callWith_method0 (rd_values lo rd ?_)
  have X₁ := X.push { cls := .type "dict_values", data := .fields #[.ref lf] }
  refine it_vals (d := lf) R.hh X₁ ⟨_, Heap.get?_push_size _ rfl, rfl, rfl⟩ (rd.at fun o e => Heap.get?_push_of_some _ e) (X₁.notIn hol hl) fun h₂ X₂ k₂ I₂ => ?_
  refine comp_in (g := ⟨_, _, _, 0⟩) rfl rfl (fun D C => rule_t) (fun D C K K' s => EmitT.mono) X₂ (I₂ _ fun _ _ => rfl) (Emit := fun D e => EmitT prog w A _ _ e (.ref D))
    (fun D' i m₁ O₁ => O₁ = (D', .lst []) :: cF L sv D K Pd mk) (fun D' hD' => rfl) (fun D' C hC => ?_) ?_
  · rintro i v m₃ O₃ h₃ tk₃ hi ⟨e, he, rfl⟩ rfl X₃ k₃
    have hi' : i < c.length := ent.size ▸ hi
    obtain ⟨a, t, e', he', hk, hv, _⟩ := ent.at' i c[i].1 c[i].2 (by simp [hi'])
    rw [he] at he'; cases he'
    have hz : c[i].2 = 0 := by
      have := look_of_mem hnd (show (c[i].1, c[i].2) ∈ c from List.getElem_mem hi') 0
      rw [h0] at this; exact this.symm
    rw [hv, hz]
    refine wpAny_assign_Name (sN X₃ fun h₄ X₄ => ?_)
    unfold EmitT
    refine wpAny_isTrue_Compare1 (eN X₄ rfl (wpAny_Constant_int (ne_int (wpAny_truthy_bool ?_))))
    rw [show ((0 : Int) != 0) = false from rfl, if_neg Bool.false_ne_true]
    exact ⟨h₄, _, _, _, rfl, X₄, rfl⟩
  · rintro D' m₁ O₁ h₃ tk₃ rfl X₃ k₃ hD'
    refine wpAny_List (args_nil ⟨by size_fits, ?_⟩)
    dsimp only
    refine ints_ne (vs := []) (us := []) (ns := []) (by have := R.un; omega) (Heap.PlainList.isList ((X₃.push _).get (i := 0) rfl)) ⟨_, Heap.get?_push_size _ rfl, rfl, _, rfl⟩ .nil .nil (wpAny_truthy_bool ?_)
    rw [if_neg Bool.false_ne_true]
    exact wpAny_execs_nil (h _ _ ((X₃.push _).sub (List.sublist_cons_self _ _)))
/-- the lots, one after another -/
theorem law_flat {Q : Flow → Shared → Prop} (T : Tp h₀) (R : Rm A 10 100) (X : St prog w h₀ hb (V₀ L) L m (cF L sv D K Pd mk) s.heap) (ll : hb.PlainList lo (List.toArray (rfs q))) (hlo : lo ∉ V₀ L) (m2 : m "lots" = some (.ref lo)) (hord : ∀ p ∈ q, Rep prog w hb p.1 (.pl p.2) ∧ p.1 ∉ V₀ L) (hq : q.length ≤ 3) (h4 : ∀ p ∈ q, p.2.length = 4)
    (h : ∀ h' tok m' fl vals, St prog w h₀ hb (V₀ L) L m' ((fl, .lst vals) :: cF L sv D K Pd mk) h' → m' "flat" = some (.ref fl) → Prs hb vals (q.flatMap (·.2)) → Q .next { s with heap := h', toks := tok }) :
    wpAny (model prog w) A (exec (lawStmt 9) (lawEnv L f cd)) Q (fun _ _ => False) s := by
  obtain ⟨ol, hol⟩ : ∃ o, hb.get? lo = some o := let ⟨n, e⟩ := ll; ⟨_, e⟩
  have hql : ∀ i, ((q.take i).flatMap (·.2)).length ≤ 12 := fun i => by
    have gen : ∀ l : List (Addr × List (Int × Int)), (∀ p ∈ l, p.2.length = 4) → (l.flatMap (·.2)).length = 4 * l.length := by
      intro l
      induction l with
      | nil => intro _; rfl
      | cons p l ih =>
        intro hl
        rw [List.flatMap_cons, List.length_append, hl p (.head _), ih fun p hp => hl p (.tail _ hp), List.length_cons]; omega
    rw [gen _ fun p hp => h4 p (List.mem_of_mem_take hp), List.length_take]; omega
  refine assign_comp (cl := []) rfl (eN X m2 ?_)
  refine it_list R.hh X (isList_chg (Heap.PlainList.isList ll) X.chg.toKp hlo) (X.notIn hol hlo) fun h₂ X₂ k₂ I₂ => ?_
  refine comp_in_u (g := ⟨_, _, _, 0⟩) rfl rfl (fun D C => rule_n) (fun D C K K' s => EmitN.mono) X₂ (I₂ _ fun _ _ => rfl) (Emit := fun D e => EmitN prog w A _ _ e (.ref D))
    (fun D' i m₁ O₁ => (∃ vals, O₁ = (D', .lst vals) :: cF L sv D K Pd mk ∧ Prs hb vals ((q.take i).flatMap (·.2))) ∧ InvO hb (V₀ L) O₁) (fun D' hD' => ⟨⟨[], rfl, .nil⟩, X₂.invO.cons (X₂.chg.none hD')⟩) (fun D' C hC => ?_) ?_
  · refine cstep_more (J := fun i _ O₁ => ∃ vals, O₁ = (D', .lst vals) :: cF L sv D K Pd mk ∧ Prs hb vals ((q.take i).flatMap (·.2))) (Emit := EmitN prog w A _ _ _ (.ref D')) X₂ (I₂ (.Name "order" ⟨0, 0, 0, 0⟩) fun _ _ => rfl).new hC (fun K K' s => EmitN.mono) ?_
    rintro i v m₃ O₃ h₃ tk₃ hi ev ⟨vals, rfl, hvals⟩ X₃ K₃ inv₃
    have hi' : i < q.length := by simpa [rfs] using hi
    have hv : v = .ref q[i].1 := by
      rw [List.getElem?_toArray, rfs, List.getElem?_map, List.getElem?_eq_getElem hi'] at ev
      exact (Option.some.inj ev).symm
    subst hv
    obtain ⟨⟨ou, hpl, hprs⟩, hnV⟩ := hord _ (List.getElem_mem hi')
    obtain ⟨oo, hoo⟩ : ∃ o, hb.get? q[i].1 = some o := let ⟨n, e⟩ := hpl; ⟨_, e⟩
    have hou := hprs.len
    have h4i := h4 _ (List.getElem_mem hi')
    have hvl := hvals.len
    have hqi := hql i
    refine wpAny_assign_Name (sN X₃ fun h₄ X₄ => ?_)
    have K₄ := K₃.step X₄.chg.toKp inv₃
    unfold EmitN
    refine eN X₄ rfl ?_
    refine it_list R.hh X₄ (isList_chg (Heap.PlainList.isList hpl) K₄ hnV) (fun z => by
      rcases inv₃ _ z with y | y
      · exact hnV y
      · rw [hoo] at y; cases y) fun h₅ X₅ k₅ I₅ => ?_
    refine comp_within (g := ⟨_, _, _, 0⟩) rfl rfl rule_i (fun K K' s => EmitA.mono) (Emit := EmitA prog w A _ _ (.ref D')) (I₅ _ fun _ _ => rfl) X₅
      (fun j m₁ O₁ => O₁ = (D', .lst (vals ++ ou.take j)) :: cF L sv D K Pd mk) (by simp) ?_ ?_
    · rintro j v m₆ O₆ h₆ tk₆ hj ev rfl X₆ k₆
      have hj' : j < ou.length := by simpa using hj
      refine wpAny_assign_Name (sN X₆ fun h₇ X₇ => ?_)
      unfold EmitA
      refine eN X₇ rfl ?_
      refine lst_append (X₇.get (i := 0) rfl) (by rw [List.length_append, List.length_take]; omega) fun h₈ p₈ s₈ => ?_
      have X₈ := X₇.put (i := 0) (o' := .lst _) rfl s₈ p₈
      refine ⟨h₈, _, _, _, rfl, X₈, ?_⟩
      rw [List.getElem?_toArray] at ev
      rw [take_next ev, ← List.append_assoc]
      rfl
    · rintro m₆ O₆ h₆ tk₆ rfl X₆ k₆ _
      refine ⟨h₆, _, _, _, rfl, X₆, _, rfl, ?_⟩
      rw [take_next (List.getElem?_eq_getElem hi'), List.flatMap_append, List.flatMap_cons, List.flatMap_nil, List.append_nil, List.take_of_length_le (by rw [List.size_toArray]; exact Nat.le_refl _)]
      exact hvals.append hprs
  · rintro D' m₃ O₃ h₃ tk₃ ⟨⟨vals, rfl, hvals⟩, _⟩ X₃
    have e : (rfs q).toArray.size = q.length := by simp [rfs]
    rw [e, List.take_length] at hvals
    exact h _ _ _ D' vals X₃ rfl hvals
end
end Mine
end

section
open PySem PySem.W PySem.Calls PyProof.Rows
set_option maxRecDepth 100000
set_option maxHeartbeats 4000000
namespace Mine
section
variable {prog : Program} {w : World} {h₀ hb : Heap} {W : List Addr} {a d L f : Addr} {cd : Value} {m : Str → Option Value} {O : List (Addr × AO)} {A : Around} {s : Shared} {env : Env} {D K Pd : Addr} {us : List Value} {rs : List (List Int)} {qc q : List (Addr × List (Int × Int))} {sv : Value} {mk : Option Value} {lf lo fl : Addr}
theorem key_pr {h : Heap} {k : Int × Int} (x : IsTupleKey (mix prog w) h (key2 k) a) : IsPr h (.ref a) k := by
  obtain ⟨o, items, n, ho, hc, hd, hi⟩ := x
  obtain ⟨il, rfl⟩ : ∃ il : List Value, items = il.toArray := ⟨items.toList, by simp⟩
  have hi' : ItemsAre (mix prog w) (key2 k) il := by simpa using hi
  cases hi' with
  | cons h1 h2 =>
    cases h2 with
    | cons h3 h4 =>
      cases h4
      rcases isMix_shape (show isMix (.inr k.1) _ = true from h1) with ⟨x, t, e, _⟩ | ⟨x, t, e, rfl⟩
      · cases e
      · rcases isMix_shape (show isMix (.inr k.2) _ = true from h3) with ⟨y, u, e', _⟩ | ⟨y, u, e', rfl⟩
        · cases e'
        · cases e; cases e'
          exact ⟨a, t, u, rfl, o, ho, hc, n, hd⟩
theorem prs_rep {h : Heap} {v : Value} {k : Int × Int} (x : IsPr h v k) : ∀ n, Prs h (List.replicate n v) (List.replicate n k)
  | 0 => .nil
  | n + 1 => .cons x (prs_rep x n)
theorem law_last {Q : Flow → Shared → Prop} {vals : List Value} {fls : List (Int × Int)} (T : Tp h₀) (R : Rm A 10 100) (X : St prog w h₀ hb (V₀ L) L m ((fl, .lst vals) :: cF L sv D K Pd mk) s.heap) (Z : Fz prog w (V₀ L) hb D K Pd us rs qc) (hvals : Prs hb vals fls) (mf : m "flat" = some (.ref fl))
    (hcnt : ∀ k, (fls.count k : Int) = kprLook (tally (allPairs rs)) k 0) (h2 : 2 ≤ fls.length) (h12 : fls.length ≤ 12)
    (h : ∀ h' tok, Fr h₀ L h' m → Q (.ret (.bool true)) { s with heap := h', toks := tok }) :
    wpAny (model prog w) A (exec (lawStmt 10) (lawEnv L f cd)) Q (fun _ _ => False) s := by
  have hvl := hvals.len
  have hcl := Z.clen
  have hfp : fls.Perm (told (tally (allPairs rs))) := told_perm (tally_nodup _) hcnt
  refine wpAny_Return_some (wpAny_Compare1 ?_)
  refine wpAny_Call_NameR ?_
  refine eG T X.fr (gmem (i := 12) rfl) ?_
  refine PyProof.Rows.callWith_builtin1 (args_cons (eN X mf (args_nil ?_)))
  refine sort_pairs X (Heap.PlainList.isList (X.get (i := 0) rfl)) (hvals.kp X.chg.toKp) (by omega) (by omega) fun D₁ h₁ us₁ qs₁ k₁ F₁ l₁ f₁ prs₁ perm₁ so₁ => ?_
  have X₁ := (X.frameK k₁ F₁).sub (List.sublist_cons_self _ _)
  have hD₁ : D₁ ∉ L :: (cF L sv D K Pd mk).map (·.1) := fun z => by
    have : D₁ ∈ L :: ((fl, AO.lst vals) :: cF L sv D K Pd mk).map (·.1) := by
      rcases List.mem_cons.mp z with rfl | z
      · exact .head _
      · exact .tail _ (.tail _ z)
    obtain ⟨o, ho⟩ := X.all D₁ this
    rw [f₁] at ho; cases ho
  obtain ⟨oD₁, hoD₁⟩ := isList_here l₁
  obtain ⟨lo, es, ep, rd0, ent⟩ := Z.dP.ent
  have rd : RD h₁ Pd es ep := rd0.at fun o e => X₁.chg.keep Pd o Z.hPd e
  obtain ⟨oP, hoP⟩ := Z.dP.here
  have htold : ∀ i, (told ((tally (allPairs rs)).take i)).length ≤ 12 := fun i => by
    have e : told (tally (allPairs rs)) = told ((tally (allPairs rs)).take i) ++ told ((tally (allPairs rs)).drop i) := by
      rw [told, told, told, ← List.flatMap_append, List.take_append_drop]
    have := hfp.length_eq
    rw [e, List.length_append] at this
    omega
  refine wpAny_Call_NameR ?_
  refine eG T X₁.fr (gmem (i := 12) rfl) ?_
  refine PyProof.Rows.callWith_builtin1 (args_cons ?_)
  refine list_comp (cl := [("pairs", L + 4)]) rfl (eC (i := 3) X₁ rfl rfl ?_)
  refine it_keys R.hh X₁ lo rd (X₁.notIn hoP Z.hPd) fun h₂ X₂ k₂ I₂ => ?_
  refine comp_in (g := ⟨_, _, _, 0⟩) rfl rfl (fun D C => rule_n) (fun D C K K' s => EmitN.mono) X₂ (I₂ _ fun _ _ => rfl) (Emit := fun D e => EmitN prog w A _ _ e (.ref D))
    (fun D' i m₁ O₁ => (∃ vals, O₁ = (D', .lst vals) :: cF L sv D K Pd mk ∧ Prs hb vals (told ((tally (allPairs rs)).take i))) ∧ InvO hb (V₀ L) O₁) (fun D' hD' => ⟨⟨[], rfl, .nil⟩, X₂.invO.cons (X₂.chg.none hD')⟩) (fun D' C hC => ?_) ?_
  · refine cstep_more (J := fun i _ O₁ => ∃ vals, O₁ = (D', .lst vals) :: cF L sv D K Pd mk ∧ Prs hb vals (told ((tally (allPairs rs)).take i))) (Emit := EmitN prog w A _ _ _ (.ref D')) X₂ (I₂ (.Name "pair" ⟨0, 0, 0, 0⟩) fun _ _ => rfl).new hC (fun K K' s => EmitN.mono) ?_
    rintro i v m₃ O₃ h₃ tk₃ hi ⟨e, he, rfl⟩ ⟨vals₃, rfl, hvals₃⟩ X₃ K₃ inv₃
    have hi' : i < (tally (allPairs rs)).length := ent.size ▸ hi
    obtain ⟨a, tv, e', he', hk, hv, hkey⟩ := ent.at' i (tally (allPairs rs))[i].1 (tally (allPairs rs))[i].2 (by simp [hi'])
    rw [he] at he'; cases he'
    obtain ⟨⟨k, n⟩, hkn⟩ : ∃ p, (tally (allPairs rs))[i] = p := ⟨_, rfl⟩
    rw [hkn] at hkey
    have hmem : (k, n) ∈ tally (allPairs rs) := hkn ▸ List.getElem_mem hi'
    have hlook : kprLook (tally (allPairs rs)) k 0 = n := look_of_mem (tally_nodup _) hmem 0
    have hhas : kprHas (tally (allPairs rs)) k = true := kpr_has_iff.mpr (List.mem_map.mpr ⟨_, hmem, rfl⟩)
    obtain ⟨nn, hnn⟩ : ∃ nn : Nat, n = (nn : Int) := ⟨fls.count k, by rw [← hlook, hcnt]⟩
    have hnn12 : nn ≤ 12 := by
      have h1 := hcnt k
      rw [hlook, hnn] at h1
      have := List.count_le_length (a := k) (l := fls)
      omega
    rw [hk]
    refine wpAny_assign_Name (sN X₃ fun h₄ X₄ => ?_)
    have K₄ := K₃.step X₄.chg.toKp inv₃
    have Z₄ := Z.kp K₄
    have hkey₄ : IsTupleKey (mix prog w) h₄ (key2 k) a := key_chg hkey K₄
    unfold EmitN
    refine wpAny_Call_NameR ?_
    refine eG T X₄.fr (gmem (i := 6) rfl) ?_
    refine PyProof.Rows.callWith_type1 (args_cons (sub_item "dict" _ slot_dict_getitem.lookup (eC (i := 4) X₄ rfl rfl (eN X₄ rfl ⟨isD_type Z₄.dP, ?_⟩))))
    refine isD_item key2_inj (R.u1 (u := 99)) Z₄.dP hkey₄ hhas fun t₅ tk₅ => ?_
    rw [hlook, hnn]
    refine args_nil (call_range_1 ?_)
    dsimp only
    refine it_range (n := nn) R.hh (X₄.push _) (Heap.get?_push_size _ rfl) (by omega) fun h₆ X₆ k₆ I₆ => ?_
    have hv3 := hvals₃.len
    have ht3 := htold i
    refine comp_within (g := ⟨_, _, _, 0⟩) rfl rfl rule_i (fun K K' s => EmitA.mono) (Emit := EmitA prog w A _ _ (.ref D')) (I₆ _ fun _ _ => rfl) X₆
      (fun j m₁ O₁ => m₁ "pair" = some (.ref a) ∧ O₁ = (D', .lst (vals₃ ++ List.replicate j (.ref a))) :: cF L sv D K Pd mk) ⟨rfl, by simp⟩ ?_ ?_
    · rintro j v m₇ O₇ h₇ tk₇ hj ⟨tj, rfl⟩ ⟨mp, rfl⟩ X₇ k₇
      refine wpAny_assign_Name (sN X₇ fun h₈ X₈ => ?_)
      unfold EmitA
      refine eN X₈ mp ?_
      refine lst_append (X₈.get (i := 0) rfl) (by rw [List.length_append, List.length_replicate]; omega) fun h₉ p₉ s₉ => ?_
      have X₉ := X₈.put (i := 0) (o' := .lst _) rfl s₉ p₉
      refine ⟨h₉, _, _, _, rfl, X₉, mp, ?_⟩
      rw [List.replicate_succ', ← List.append_assoc]
      rfl
    · rintro m₇ O₇ h₇ tk₇ ⟨mp, rfl⟩ X₇ k₇ _
      refine ⟨h₇, _, _, _, rfl, X₇, _, rfl, ?_⟩
      have e1 : told ((tally (allPairs rs)).take (i + 1)) = told ((tally (allPairs rs)).take i) ++ List.replicate nn k := by
        rw [told, told, take_next (List.getElem?_eq_getElem hi'), List.flatMap_append, hkn, hnn]
        simp
      rw [e1]
      exact hvals₃.append (prs_rep (key_pr hkey) nn)
  · rintro D' m₃ O₃ h₃ tk₃ ⟨⟨vals₃, rfl, hvals₃⟩, _⟩ X₃ k₃ hD'
    rw [ent.size, List.take_length] at hvals₃
    have hlen₃ := hfp.length_eq
    have hv3 := hvals₃.len
    have kk : Kp h₀ (L :: (cF L sv D K Pd mk).map (·.1)) h₁ h₃ := (k₂.mono fun _ z => nomatch z).step k₃ fun b z => by
      rcases List.mem_cons.mp z with rfl | z
      · exact .inr none_size
      · exact .inl (.tail _ z)
    refine args_nil ?_
    dsimp only
    refine sort_pairs X₃ (Heap.PlainList.isList (X₃.get (i := 0) rfl)) (hvals₃.kp X₃.chg.toKp) (by omega) (by omega) fun D₂ h₄ us₂ qs₂ k₄ F₄ l₄ f₄ prs₄ perm₄ so₄ => ?_
    have kk₄ : Kp h₀ (L :: (cF L sv D K Pd mk).map (·.1)) h₁ h₄ := kk.step k₄ fun b z => by rw [List.mem_singleton.mp z]; exact .inl (.head _)
    have eq : qs₁ = qs₂ := eq_of_sorted (r := ple) (fun _ _ => ple_antisymm) ((perm₁.trans hfp).trans perm₄.symm) so₁ so₄
    subst eq
    refine pairs_eq (by have := R.un; omega) (isList_chg l₁ kk₄ hD₁) l₄ (prs₁.kp kk₄) prs₄ ?_
    exact h _ _ F₄
end
end Mine
end

section
open PySem PySem.W PySem.Calls PyProof.Rows
set_option maxRecDepth 100000
set_option maxHeartbeats 4000000
namespace Mine
section
variable {prog : Program} {w : World} {h₀ hb : Heap} {W : List Addr} {a L f : Addr} {cd : Value} {m : Str → Option Value} {A : Around} {s : Shared}
theorem law_body {vs : List Value} {ns : List Int} {Q : Flow → Shared → Prop} (T : Tp h₀) (R : Rm A 10 100) (ha : h₀.IsList a vs.toArray) (hi : IntsAre vs ns) (hl : ns.length ≤ 63)
    (X : St prog w h₀ hb W L m (cells L (some (.ref a)) none none none none) s.heap) (h : ∀ h' tok m', Fr h₀ L h' m' → Q (.ret (.bool true)) { s with heap := h', toks := tok }) :
    wpAny (model prog w) A (execs (sBody (defAt 9)) (lawEnv L f cd)) Q (fun _ _ => False) s := by
  have R5 : Rm A 5 60 := R.le (by omega) (by omega)
  refine wpAny_execs_cons (law_rows T R5 ha hi hl X ?_)
  intro h₁ h₁' tk₁ D us rs X₁ hD hDV hrs hr hp
  refine wpAny_execs_cons (law_make T R5 X₁ ?_)
  intro h₂ tk₂ K Pd q X₂ hq hq2
  refine wpAny_execs_cons (law_fill T R5 X₂ hq hq2 hD hDV hrs (by omega) hp ?_)
  intro h₃ tk₃ m₃ q₃ X₃ hq₃ hqs
  have X₃' : St prog w h₀ h₁ (V₀ L) L m₃ (((K, .il (rfs q₃)) :: (Pd, .d2 (tally (allPairs rs))) :: q₃.map f3) ++ cF L (.ref a) D K Pd none) h₃ := X₃
  obtain ⟨X₄, fz⟩ := X₃'.freeze
  have Z : Fz prog w (V₀ L) h₃ D K Pd us rs q₃ := by
    refine ⟨isList_chg (Heap.PlainList.isList hD) X₃.chg.toKp hDV, hDV, hrs.len, (fz _ (.head _)).1, (fz _ (.head _)).2, (fz _ (.tail _ (.head _))).1, (fz _ (.tail _ (.head _))).2, hq₃, fun b hb => ?_, hr, hp⟩
    obtain ⟨p, e1, e2⟩ := hqs b hb
    have := fz (f3 p) (.tail _ (.tail _ (List.mem_map.mpr ⟨p, List.mem_of_getElem? e1, rfl⟩)))
    exact ⟨p, e1, e2 ▸ this.1, this.2⟩
  refine wpAny_execs_cons (law_c3 T R5 X₄ Z ?_)
  intro h₅ tk₅ X₅
  refine wpAny_execs_cons (law_c4 T R5 X₅ Z ?_)
  intro h₆ tk₆ X₆
  refine wpAny_execs_cons (law_masks T R5 X₆ Z ?_)
  intro h₇ tk₇ m₇ mk₇ X₇
  refine wpAny_execs_cons (law_left T R5 X₇ Z ?_)
  intro h₈ tk₈ m₈ lf lo X₈ m1 m2
  refine wpAny_execs_cons (law_turns T R X₈ Z m1 m2 ?_)
  intro h₉ tk₉ m₉ c q₉ X₉ m1₉ m2₉ hq₉ tn
  have X₉' : St prog w h₀ h₃ (V₀ L) L m₉ (((lf, .d2 c) :: (lo, .lst (rfs q₉)) :: q₉.map fP) ++ cF L (.ref a) D K Pd mk₇) h₉ := X₉
  obtain ⟨X₁₀, fz₉⟩ := X₉'.freeze
  have Z₉ : Fz prog w (V₀ L) h₉ D K Pd us rs q₃ := Z.kp X₉.chg.toKp
  refine wpAny_execs_cons (law_zero T R X₁₀ (fz₉ _ (.head _)).1 (fz₉ _ (.head _)).2 m1₉ (tn_zero tn Z.keys) ?_)
  intro h₁₁ tk₁₁ X₁₁
  refine wpAny_execs_cons (law_flat T R X₁₁ (fz₉ _ (.tail _ (.head _))).1 (fz₉ _ (.tail _ (.head _))).2 m2₉ (q := q₉) (fun p hp' => fz₉ (fP p) (.tail _ (.tail _ (List.mem_map.mpr ⟨p, hp', rfl⟩)))) (by omega) tn.four ?_)
  intro h₁₂ tk₁₂ m₁₂ fl vals X₁₂ mf hvals
  have hlen : (q₉.flatMap (·.2)).length = 4 * q₉.length := by
    have gen : ∀ l : List (Addr × List (Int × Int)), (∀ p ∈ l, p.2.length = 4) → (l.flatMap (·.2)).length = 4 * l.length := by
      intro l
      induction l with
      | nil => intro _; rfl
      | cons p l ih =>
        intro hl
        rw [List.flatMap_cons, List.length_append, hl p (.head _), ih fun p hp => hl p (.tail _ hp), List.length_cons]; omega
    exact gen q₉ tn.four
  refine wpAny_execs_cons (law_last T R X₁₂ Z₉ hvals mf (fun k => ?_) (by omega) (by omega) ?_)
  · have h1 := tn.cnt k
    rw [tn_zero tn Z.keys k] at h1
    omega
  · intro h₁₃ tk₁₃ F
    exact h h₁₃ tk₁₃ _ F
end
end Mine
end

section
open PySem PySem.W PyProof.Rows
set_option maxRecDepth 100000
set_option maxHeartbeats 8000000
namespace Mine
open_top hd for PySem.Challenge.rw_ga0001_01
end Mine
end

section
open PySem PySem.W PySem.Calls PyProof.Rows
set_option maxRecDepth 100000
set_option maxHeartbeats 8000000
namespace Mine
theorem fn_of {K : Frag} {h : Heap} {f i : Nat} {dV kV pm cd oc : Value} {od : Option Addr} {sl : Array (Option Value)} (X : K.In h) (e : K.lookup f = some ⟨oc, od, .func (fdOf i dV kV pm cd), sl⟩) (c : codeIn K cd (sName (defAt i)) = true) : FnAt h f i dV kV :=
  ⟨_, pm, cd, X _ _ e, rfl, codeRec_of X c⟩
theorem dfl_in {P : Params} {h : Heap} (KX : (Mine.hd.heap_39 P).In h) : (dfl P).In h := by
  intro a o e
  unfold dfl at e
  rw [List.lookup_cons] at e
  split at e
  · rename_i q; rw [beq_iff_eq] at q; subst q; rw [← Option.some.inj e]; exact KX 29 _ rfl
  · rw [List.lookup_cons] at e
    split at e
    · rename_i q; rw [beq_iff_eq] at q; subst q; rw [← Option.some.inj e]; exact KX 30 _ rfl
    · rw [List.lookup_cons] at e
      split at e
      · rename_i q; rw [beq_iff_eq] at q; subst q; rw [← Option.some.inj e]; exact KX 38 _ rfl
      · rw [List.lookup_cons] at e
        split at e
        · rename_i q; rw [beq_iff_eq] at q; subst q; rw [← Option.some.inj e]; exact KX 39 _ rfl
        · cases e
theorem tp_of {p : Program} {loose : List Str} {mean : ExcName → Option Value} {P : Params} {h : Heap} {mg mb : Str → Option Value} (KX : (Mine.hd.heap_39 P).In h) (T : Top p loose mean mg mb h) : Tp h := by
  refine ⟨T.nolimit, ⟨mg, mb, T.g, T.b, ?_⟩, fn_of KX rfl rfl, fn_of KX rfl rfl, fn_of KX rfl rfl, fn_of KX rfl rfl, fn_of KX rfl rfl, fn_of KX rfl rfl, ⟨P, dfl_in KX⟩, ?_⟩
  · have go : ∀ (n : Str) (v : Value), nsIn (Mine.hd.heap_39 P) mainGlobals n = some none → n ≠ "__name__" → bootBuiltins n = some v → mg n = some v ∨ (mg n = none ∧ mb n = some v) := fun n v e1 e2 e3 =>
      .inr ⟨mg_none_of KX T.g e1, (T.builtins n e2).trans e3⟩
    have gm : ∀ (n : Str) (v : Value), nsIn (Mine.hd.heap_39 P) mainGlobals n = some (some v) → mg n = some v ∨ (mg n = none ∧ mb n = some v) := fun n v e1 => .inl (mg_of KX T.g e1)
    intro x hx
    unfold gtab at hx
    simp only [List.mem_cons, List.not_mem_nil, or_false] at hx
    rcases hx with rfl | rfl | rfl | rfl | rfl | rfl | rfl | rfl | rfl | rfl | rfl | rfl | rfl | rfl
    · exact gm _ _ rfl
    · exact gm _ _ rfl
    · exact gm _ _ rfl
    · exact gm _ _ rfl
    · exact gm _ _ rfl
    · exact gm _ _ rfl
    · exact go _ _ rfl (by decide) (by decide +kernel)
    · exact go _ _ rfl (by decide) (by decide +kernel)
    · exact go _ _ rfl (by decide) (by decide +kernel)
    · exact go _ _ rfl (by decide) (by decide +kernel)
    · exact go _ _ rfl (by decide) (by decide +kernel)
    · exact go _ _ rfl (by decide) (by decide +kernel)
    · exact go _ _ rfl (by decide) (by decide +kernel)
    · exact go _ _ rfl (by decide) (by decide +kernel)
  · have := Heap.lt_size (KX 65 _ rfl)
    exact this
end Mine
end

section
open PySem PySem.W PySem.Calls PyProof.Rows
set_option maxRecDepth 100000
set_option maxHeartbeats 8000000
namespace Mine
theorem law_start {prog : Program} {w : World} {h₀ h : Heap} {L a : Addr} {m : Str → Option Value} {o1 o2 o3 o4 o5 : Obj} (F : Fr h₀ L h m) (N : News h₀ L h [(L + 1 + 1 + 1 + 1 + 1, o5), (L + 1 + 1 + 1 + 1, o4), (L + 1 + 1 + 1, o3), (L + 1 + 1, o2), (L + 1, o1)])
    (e1 : o1.data = .cell (some (.ref a))) (e2 : o2.data = .cell none) (e3 : o3.data = .cell none) (e4 : o4.data = .cell none) (e5 : o5.data = .cell none) :
    St prog w h₀ h (V₀ L) L m (cells L (some (.ref a)) none none none none) h := by
  have ge : ∀ k, h₀.objs.size ≤ L + k := fun k => Nat.le_trans F.above (Nat.le_add_right _ _)
  refine ⟨F, .refl, ?_, ?_, fun b q => .inl q⟩
  · intro p hp
    simp only [cells, List.mem_cons, List.not_mem_nil, or_false] at hp
    rcases hp with rfl | rfl | rfl | rfl | rfl
    · exact ⟨⟨o1, (N _ (.tail _ (.tail _ (.tail _ (.tail _ (.head _)))))).1, e1⟩, ge 1⟩
    · exact ⟨⟨o2, (N _ (.tail _ (.tail _ (.tail _ (.head _))))).1, e2⟩, ge 2⟩
    · exact ⟨⟨o3, (N _ (.tail _ (.tail _ (.head _)))).1, e3⟩, ge 3⟩
    · exact ⟨⟨o4, (N _ (.tail _ (.head _))).1, e4⟩, ge 4⟩
    · exact ⟨⟨o5, (N _ (.head _)).1, e5⟩, ge 5⟩
  · have : ∀ n : Nat, [n, n + 1, n + 2, n + 3, n + 4, n + 5].Nodup := fun n => by simp
    exact this L
end Mine
end

open PySem PySem.W PySem.Calls PyProof.Rows
set_option maxRecDepth 100000 in
set_option maxHeartbeats 8000000 in
theorem PySem.Challenge.cw_ga0001_01_holds : PySem.Challenge.rw_ga0001_01.Holds := by
  exact Mine.hd (by
    k_go0
    (all_goals try k_fold)
    rename_i w s0 s1 mg mb G Y fa o pm doc ho hg KX X V GL T B TE TW w14 w13 M w12 w11 hcd ns hs hlay hL1 hr1 hl2 w9 w8 a vs w5 hL ra wl r0 hI hr hc1 hc0 K0 hD h1 tk1 F o5 o4 o3 o2 o1 l5 l4 l3 l2 l1 N0 X0
    have TP := Mine.tp_of KX T
    have hX : Mine.St PySem.Challenge.rw_ga0001_01.row.prog w s1.heap h1 (Mine.V₀ s1.heap.objs.size) s1.heap.objs.size _ (Mine.cells s1.heap.objs.size (some (.ref a)) none none none none) h1 := Mine.law_start F N0 l1 l2 l3 l4 l5
    have hR : Mine.Rm (callerA.deeper (Mine.lawEnv s1.heap.objs.size fa (.ref w12))) 10 100 := ⟨rfl, (show callerA.depth + 1 + 10 < recursionLimit by decide), (show callerA.units + 3 + 100 < cLine by decide)⟩
    refine wpAny_mono (Mine.law_body TP hR hL hI (by omega) hX fun h' tok m' F' => ?_) (fun _ _ g => g) (fun _ _ e => e.elim)
    show GoodW _ _ _ _ _ (.ok (.ret (.bool true))) _
    refine goodW_bool F' hg (raisesW_false ?_) ?_
    · wrow_none_raised
    · wrow_post)
