import PyProof.Rows.All
import Wide.All
import OpenK.AllK
import Wide.FinOn
import PySem.Challenge.RW_gf0005_01
open PySem PySem.W PySem.Calls PyProof.Rows
set_option Elab.async false
set_option maxRecDepth 100000
set_option maxHeartbeats 40000000
namespace Mine
open_top hd for PySem.Challenge.rw_gf0005_01
end Mine

namespace Mine

/-- an exact dict with just these entries -/
def DEs (h : Heap) (d : Addr) (es : Array DictEntry) (ep : Nat) : Prop := ∃ o, h.get? d = some o ∧ o.ExactDict ∧ o.data = .dict es ep

theorem DEs.typeIs {s : Shared} {d : Addr} {es ep} (x : DEs s.heap d es ep) : s.TypeIs (.ref d) "dict" := let ⟨o, ho, hc, _⟩ := x; ⟨o, ho, hc.1⟩
theorem DEs.at {h h' : Heap} {d : Addr} {es ep} (x : DEs h d es ep) (e : ∀ o, h.get? d = some o → h'.get? d = some o) : DEs h' d es ep := let ⟨o, ho, r⟩ := x; ⟨o, e _ ho, r⟩
theorem DEs.lt {h : Heap} {d : Addr} {es ep} (x : DEs h d es ep) : d < h.objs.size := let ⟨_, ho, _⟩ := x; Heap.lt_size ho
theorem DEs.noDict {h : Heap} {d : Addr} {es ep} (x : DEs h d es ep) : ∀ b, Value.ref d = .ref b → ∃ ob, h.get? b = some ob ∧ ob.dict = none :=
  fun b e => by injection e with e; subst e; exact let ⟨o, ho, hc, _⟩ := x; ⟨o, ho, hc.2.1⟩

section
variable {prog : Program} {w : World} {A : Around} {E : Value → Shared → Prop} {s : Shared}

theorem meets_values (d : Addr) (hd : (d == sysModules) = false) :
    MeetsIn prog w (Builtin.«dict.values» ⟨[.ref d], []⟩) (fun _ R s => (∃ es ep, DEs s.heap d es ep) ∧
      R (.ok (.ret (.ref s.heap.objs.size))) { s with heap := s.heap.push { cls := .type "dict_values", data := .fields #[.ref d] } }) :=
  .of_wp fun A R s ⟨⟨es, ep, hm⟩, h⟩ => by
    refine wpAny_bind ?_
    unfold Builtin.Dict.noArgs
    refine wpAny_bind (wpAny_notOrdered_dict hm.typeIs ?_)
    show wpAny _ _ (pure d) _ _ s
    refine wpAny_pure ?_
    show wpAny _ _ (Builtin.Dict.showsAll d >>= _) _ _ s
    unfold Builtin.Dict.showsAll
    rw [if_neg (by rw [hd]; exact Bool.false_ne_true)]
    refine wpAny_bind (wpAny_pure ?_)
    exact wpAny_bind (wpAny_newObj_type (wpAny_pure ⟨_, rfl, h⟩))

theorem meets_items (d : Addr) (hd : (d == sysModules) = false) :
    MeetsIn prog w (Builtin.«dict.items» ⟨[.ref d], []⟩) (fun _ R s => (∃ es ep, DEs s.heap d es ep) ∧
      R (.ok (.ret (.ref s.heap.objs.size))) { s with heap := s.heap.push { cls := .type "dict_items", data := .fields #[.ref d] } }) :=
  .of_wp fun A R s ⟨⟨es, ep, hm⟩, h⟩ => by
    unfold Builtin.«dict.items»
    refine wpAny_bind ?_
    unfold Builtin.Dict.noArgs
    refine wpAny_bind (wpAny_notOrdered_dict hm.typeIs ?_)
    show wpAny _ _ (pure d) _ _ s
    refine wpAny_pure ?_
    show wpAny _ _ (Builtin.Dict.showsAll d >>= _) _ _ s
    unfold Builtin.Dict.showsAll
    rw [if_neg (by rw [hd]; exact Bool.false_ne_true)]
    refine wpAny_bind (wpAny_pure ?_)
    exact wpAny_bind (wpAny_newObj_type (wpAny_pure ⟨_, rfl, h⟩))

theorem call_values {env : Env} {o : PySem.Expr} {apos pos : Pos} {d : Addr} {es ep} {Q : Value → Shared → Prop} (hdS : (d == sysModules) = false) (hm : DEs s.heap d es ep)
    (hbase : attributeBase o "values" env (eval o env) = eval o env) (hline : (apos.endLine == pos.line) = true)
    (ho : ∀ Q', Q' (.ref d) s → wpAny (model prog w) A (eval o env) Q' E s)
    (hQ : Q (.ref s.heap.objs.size) { s with heap := s.heap.push { cls := .type "dict_values", data := .fields #[.ref d] } }) :
    wpAny (model prog w) A (eval (.Call (.Attribute o "values" apos) [] [] pos) env) Q E s := by
  refine wpAny_Call_method (T := "dict") (id := "dict.values") hbase rfl hline PySem.F.plainAttrs_dict PySem.F.slot_dict_values PySem.F.type_dict_values (ho _ ⟨hm.typeIs, hm.noDict, ?_⟩)
  show wpAny _ _ (callWith pos (.builtin "dict.values") [.ref d] [] []) Q E s
  exact method_meetsIn PySem.F.slot_dict_values PySem.F.entry_dict_values rfl (PySem.evalArgs_none ⟨rfl, hm.typeIs, PySem.F.args_dict_values_1 _, _, meets_values d hdS, ⟨es, ep, hm⟩, hQ⟩)

theorem call_items {env : Env} {o : PySem.Expr} {apos pos : Pos} {d : Addr} {es ep} {Q : Value → Shared → Prop} (hdS : (d == sysModules) = false) (hm : DEs s.heap d es ep)
    (hbase : attributeBase o "items" env (eval o env) = eval o env) (hline : (apos.endLine == pos.line) = true)
    (ho : ∀ Q', Q' (.ref d) s → wpAny (model prog w) A (eval o env) Q' E s)
    (hQ : Q (.ref s.heap.objs.size) { s with heap := s.heap.push { cls := .type "dict_items", data := .fields #[.ref d] } }) :
    wpAny (model prog w) A (eval (.Call (.Attribute o "items" apos) [] [] pos) env) Q E s := by
  refine wpAny_Call_method (T := "dict") (id := "dict.items") hbase rfl hline PySem.F.plainAttrs_dict PySem.F.slot_dict_items PySem.F.type_dict_items (ho _ ⟨hm.typeIs, hm.noDict, ?_⟩)
  show wpAny _ _ (callWith pos (.builtin "dict.items") [.ref d] [] []) Q E s
  exact method_meetsIn PySem.F.slot_dict_items PySem.F.entry_dict_items rfl (PySem.evalArgs_none ⟨rfl, hm.typeIs, PySem.F.args_dict_items_1 _, _, meets_items d hdS, ⟨es, ep, hm⟩, hQ⟩)

theorem iter_values {v d : Addr} {es : Array DictEntry} {ep : Nat} {Q : Value → Shared → Prop} (hv : s.heap.IsValuesView v d) (hm : DEs s.heap d es ep)
    (hQ : Q (.ref s.heap.objs.size) { s with heap := s.heap.push { cls := .type "dict_valueiterator", data := .fields #[.ref d, .int 0 0, .int es.size 0, .int ep 0] } }) :
    wpAny (model prog w) A (pyIter (.ref v)) Q E s := by
  obtain ⟨ov, hov, hcv, hdv⟩ := id hv
  obtain ⟨o, ho, hc, hdat⟩ := id hm
  refine wpAny_pyIter_slot hv.typeIs PySem.F.slot_dict_values_iter (wpAny_call_entry PySem.F.slot_dict_values_iter hv.typeIs PySem.F.entry_dict_values_iter ?_ (PySem.F.args_dict_values_iter_1 _))
  unfold Builtin.«dict_values.__iter__»
  refine wpAny_bind (wpAny_pure ?_)
  refine wpAny_bind ?_
  unfold Builtin.Dict_items.dictOf
  refine wpAny_bind (wpAny_field hov hdv (x := .ref d) rfl (wpAny_pure ?_))
  refine wpAny_bind ?_
  unfold Builtin.Dict_items.newIterator
  refine wpAny_bind (wpAny_dictEntries ho hdat ?_)
  refine wpAny_bind (wpAny_dictEpoch ho hdat ?_)
  have hown : Builtin.Dict_items.ownsTuple "dict_valueiterator" = false := by decide
  simp only [hown, Bool.false_eq_true, if_false]
  refine wpAny_newObj_type (wpAny_pure ⟨_, rfl, "dict_valueiterator", _, ⟨_, Heap.get?_push_size _ rfl, rfl⟩, PySem.F.slot_dict_valueiterator_next.lookup, ?_⟩)
  simpa [rawInt] using hQ

theorem iter_items {v d : Addr} {es : Array DictEntry} {ep : Nat} {Q : Value → Shared → Prop} (hv : s.heap.IsItemsView v d) (hm : DEs s.heap d es ep)
    (hQ : Q (.ref s.heap.objs.size) { s with heap := s.heap.push { cls := .type "dict_itemiterator", data := .fields #[.none, .bool false, .ref d, .int 0 0, .int es.size 0, .int ep 0, .none, .none] } }) :
    wpAny (model prog w) A (pyIter (.ref v)) Q E s := by
  obtain ⟨ov, hov, hcv, hdv⟩ := id hv
  obtain ⟨o, ho, hc, hdat⟩ := id hm
  refine wpAny_pyIter_slot hv.typeIs PySem.F.slot_dict_items_iter (wpAny_call_entry PySem.F.slot_dict_items_iter hv.typeIs PySem.F.entry_dict_items_iter ?_ (PySem.F.args_dict_items_iter_1 _))
  unfold Builtin.«dict_items.__iter__»
  refine wpAny_bind (wpAny_pure ?_)
  refine wpAny_bind ?_
  unfold Builtin.Dict_items.dictOf
  refine wpAny_bind (wpAny_field hov hdv (x := .ref d) rfl (wpAny_pure ?_))
  refine wpAny_bind ?_
  unfold Builtin.Dict_items.newIterator
  refine wpAny_bind (wpAny_dictEntries ho hdat ?_)
  refine wpAny_bind (wpAny_dictEpoch ho hdat ?_)
  have hown : Builtin.Dict_items.ownsTuple "dict_itemiterator" = true := by decide
  simp only [hown, if_true]
  refine wpAny_newObj_type (wpAny_pure ⟨_, rfl, "dict_itemiterator", _, ⟨_, Heap.get?_push_size _ rfl, rfl⟩, PySem.F.slot_dict_itemiterator_next.lookup, ?_⟩)
    (by simp only [sizeOk, Builtin.Dict_items.ownedTupleFields, List.size_toArray, List.length_append, List.length_cons, List.length_nil, sizeLine_eq]; omega)
  simpa [rawInt, Builtin.Dict_items.ownedTupleFields] using hQ

theorem next_values {it d : Addr} {i ep : Nat} {es : Array DictEntry} {e : DictEntry} {Q : Option Value → Shared → Prop} (hit : s.heap.IsValIter it d i es.size ep)
    (hm : DEs s.heap d es ep) (hx : es[i]? = some e)
    (hQ : ∀ h', h'.IsValIter it d (i + 1) es.size ep → Heap.SameBut it s.heap h' → Q (some e.val) { s with heap := h' }) :
    wpAny (model prog w) A (pyNext (.ref it)) Q E s := by
  obtain ⟨o, ho, hc, hd⟩ := id hit
  obtain ⟨od, hod, hcd, hdd⟩ := id hm
  unfold pyNext
  refine wpAny_bind (wpAny_attempt (wpAny_callSpecial?_slot (name := Str.ofString "__next__") hit.typeIs PySem.F.slot_dict_valueiterator_next
    (wpAny_call_entry PySem.F.slot_dict_valueiterator_next hit.typeIs PySem.F.entry_dict_valueiterator_next ?_ (PySem.F.args_dict_valueiterator_next_1 _))))
  refine wpAny_bind (wpAny_pure ?_)
  refine wpAny_bind ?_
  refine wpAny_bind ?_
  first | refine wpAny_bind (wpAny_typeNameOfWhole_valiter hit.typeIs (wpAny_pure ?_)) | refine wpAny_bind (wpAny_typeNameOf_valiter hit.typeIs (wpAny_pure ?_))
  refine wpAny_bind (wpAny_fieldsOf ho hd ?_)
  have hown : Builtin.Dict_items.ownsTuple "dict_valueiterator" = false := by decide
  simp only [hown, Bool.false_eq_true, if_false]
  show wpAny _ _ (if (Value.ref d == Value.none) = true then _ else _) _ _ s
  rw [if_neg (show ¬ ((Value.ref d == Value.none) = true) from Bool.false_ne_true)]
  refine wpAny_bind (wpAny_pure ?_)
  refine wpAny_bind (wpAny_dictEntries hod hdd ?_)
  rw [if_neg (by simp)]
  refine wpAny_bind (wpAny_pure ?_)
  refine wpAny_bind (wpAny_dictEpoch hod hdd ?_)
  rw [if_neg (by simp)]
  refine wpAny_pure ?_
  obtain ⟨hlt, hval⟩ := Array.getElem?_eq_some_iff.mp hx
  simp only [show ¬ ((i : Int) < 0) from by omega, if_false, Int.toNat_natCast, Array.getElem?_eq_getElem hlt]
  refine wpAny_bind ?_
  first | refine wpAny_bind (wpAny_typeNameOfWhole_valiter hit.typeIs (wpAny_pure ?_)) | refine wpAny_bind (wpAny_typeNameOf_valiter hit.typeIs (wpAny_pure ?_))
  refine wpAny_bind (wpAny_isOneOf_valiter hit.typeIs ?_)
  show wpAny _ _ (setField (.ref it) 1 (rawInt ((i : Int) + 1)) >>= _) _ _ s
  refine wpAny_bind (wpAny_setField ho hd (by simp) ?_)
  have hit' : (s.heap.update it (Obj.mapFields (·.setIfInBounds 1 (rawInt ((i : Int) + 1))))).IsValIter it d (i + 1) es.size ep :=
    ⟨_, Heap.get?_update_self _ ho (Obj.isFreed_of_fields (Obj.data_mapFields hd _)), (Obj.cls_mapFields ..).trans hc, by rw [Obj.data_mapFields hd]; simp [rawInt]⟩
  refine wpAny_bind (wpAny_holding ?_)
  refine wpAny_bind (wpAny_isOneOf_valiter (s := { s with heap := s.heap.update it (Obj.mapFields (·.setIfInBounds 1 (rawInt ((i : Int) + 1)))) }) hit'.typeIs ?_)
  refine wpAny_bind (wpAny_isOneOf_valiter (s := { s with heap := s.heap.update it (Obj.mapFields (·.setIfInBounds 1 (rawInt ((i : Int) + 1)))) }) hit'.typeIs ?_)
  show wpAny _ _ (pure es[i].val) _ _ _
  exact wpAny_pure (wpAny_pure ⟨_, rfl, wpAny_pure (hval ▸ hQ _ hit' (Heap.SameBut.update ..))⟩)

theorem end_values {it d : Addr} {ep : Nat} {es : Array DictEntry} {Q : Option Value → Shared → Prop} (hh : A.handled = none) (hit : s.heap.IsValIter it d es.size es.size ep)
    (hm : DEs s.heap d es ep)
    (hQ : ∀ h', Heap.ExtBut it s.heap h' → Q none { s with heap := h' }) : wpAny (model prog w) A (pyNext (.ref it)) Q E s := by
  obtain ⟨o, ho, hc, hd⟩ := id hit
  obtain ⟨od, hod, hcd, hdd⟩ := id hm
  unfold pyNext
  refine wpAny_bind (wpAny_attempt (wpAny_callSpecial?_slot (name := Str.ofString "__next__") hit.typeIs PySem.F.slot_dict_valueiterator_next
    (wpAny_call_entry PySem.F.slot_dict_valueiterator_next hit.typeIs PySem.F.entry_dict_valueiterator_next ?_ (PySem.F.args_dict_valueiterator_next_1 _))))
  refine wpAny_bind (wpAny_pure ?_)
  refine wpAny_bind ?_
  refine wpAny_bind ?_
  first | refine wpAny_bind (wpAny_typeNameOfWhole_valiter hit.typeIs (wpAny_pure ?_)) | refine wpAny_bind (wpAny_typeNameOf_valiter hit.typeIs (wpAny_pure ?_))
  refine wpAny_bind (wpAny_fieldsOf ho hd ?_)
  have hown : Builtin.Dict_items.ownsTuple "dict_valueiterator" = false := by decide
  simp only [hown, Bool.false_eq_true, if_false]
  show wpAny _ _ (if (Value.ref d == Value.none) = true then _ else _) _ _ s
  rw [if_neg (show ¬ ((Value.ref d == Value.none) = true) from Bool.false_ne_true)]
  refine wpAny_bind (wpAny_pure ?_)
  refine wpAny_bind (wpAny_dictEntries hod hdd ?_)
  rw [if_neg (by simp)]
  refine wpAny_bind (wpAny_pure ?_)
  refine wpAny_bind (wpAny_dictEpoch hod hdd ?_)
  rw [if_neg (by simp)]
  refine wpAny_pure ?_
  simp only [show ¬ ((es.size : Int) < 0) from by omega, if_false, Int.toNat_natCast, Array.getElem?_eq_none (Nat.le_refl es.size)]
  refine wpAny_bind ?_
  first | refine wpAny_bind (wpAny_typeNameOfWhole_valiter hit.typeIs (wpAny_pure ?_)) | refine wpAny_bind (wpAny_typeNameOf_valiter hit.typeIs (wpAny_pure ?_))
  show wpAny _ _ (setField (.ref it) 0 .none >>= _) _ _ s
  refine wpAny_bind (wpAny_setField ho hd (by simp) ?_)
  show wpAny _ _ (newExc (.type "StopIteration") [] >>= _) _ _ _
  refine wpAny_bind ?_
  simp only [newExc, newTuple]
  refine wpAny_bind (wpAny_newObj_type ?_ (by size_fits))
  refine wpAny_bind (m := firstArgMember _ _) (wpAny_of_eq (a := Value.none) (by first | rfl | (simp only [firstArgMember]; rfl)) ?_)
  refine wpAny_newObj_type ?_ (by size_fits)
  simp only [raiseNew]
  refine wpAny_bind (wpAny_handled ?_)
  rw [show A.in1.handled = none from hh]
  refine wpAny_bind (wpAny_pure (wpAny_throw ?_))
  refine wpAny_bind (wpAny_isInstance (T := "StopIteration") (b := true) ⟨_, Heap.get?_push_size _ rfl, rfl⟩ isSubtype_stop ?_)
  exact wpAny_pure (hQ _ (((Heap.SameBut.update ..).extBut.push _).push _))

theorem next_items {it d : Addr} {i ep : Nat} {es : Array DictEntry} {e : DictEntry} {ok ov : Value} {Q : Option Value → Shared → Prop} (hit : IsItemIter s.heap it d i es.size ep ok ov)
    (hm : DEs s.heap d es ep) (hx : es[i]? = some e)
    (hQ : ∀ h', IsItemIterOut h' it d (i + 1) es.size ep e.key e.val s.heap.objs.size →
      h'.get? s.heap.objs.size = some { cls := .type "tuple", data := .seq #[e.key, e.val] } → h'.objs.size = s.heap.objs.size + 1 →
      (∀ b o, b ≠ it → s.heap.get? b = some o → h'.get? b = some o) → Q (some (.ref s.heap.objs.size)) { s with heap := h' }) :
    wpAny (model prog w) A (pyNext (.ref it)) Q E s := by
  obtain ⟨hp, g, dr, tk, os⟩ := s
  obtain ⟨od, hod, hcd, hdd⟩ := id hm
  have hT : Shared.TypeIs ⟨hp, g, dr, tk, os⟩ (.ref it) "dict_itemiterator" := ⟨_, hit, rfl⟩
  unfold pyNext
  refine wpAny_bind (wpAny_attempt (wpAny_callSpecial?_slot (name := Str.ofString "__next__") hT PySem.F.slot_dict_itemiterator_next
    (wpAny_call_entry PySem.F.slot_dict_itemiterator_next hT PySem.F.entry_dict_itemiterator_next ?_ (PySem.F.args_dict_itemiterator_next_1 _))))
  refine wpAny_bind (wpAny_pure ?_)
  refine wpAny_bind ?_
  refine wpAny_bind ?_
  first | refine wpAny_bind (wpAny_typeNameOfWhole_itemiter hT (wpAny_pure ?_)) | refine wpAny_bind (wpAny_typeNameOf_itemiter hT (wpAny_pure ?_))
  refine wpAny_bind (wpAny_fieldsOf hit rfl ?_)
  have hown : Builtin.Dict_items.ownsTuple "dict_itemiterator" = true := by decide
  simp only [hown, if_true]
  show wpAny _ _ (if (Value.ref d == Value.none) = true then _ else _) _ _ _
  rw [if_neg (show ¬ ((Value.ref d == Value.none) = true) from Bool.false_ne_true)]
  refine wpAny_bind (wpAny_pure ?_)
  refine wpAny_bind (wpAny_dictEntries hod hdd ?_)
  rw [if_neg (by simp)]
  refine wpAny_bind (wpAny_pure ?_)
  refine wpAny_bind (wpAny_dictEpoch hod hdd ?_)
  rw [if_neg (by simp)]
  refine wpAny_pure ?_
  obtain ⟨hlt, hval⟩ := Array.getElem?_eq_some_iff.mp hx
  subst hval
  simp only [show ¬ ((i : Int) < 0) from by omega, if_false, Int.toNat_natCast, Array.getElem?_eq_getElem hlt]
  refine wpAny_bind ?_
  first | refine wpAny_bind (wpAny_typeNameOfWhole_itemiter hT (wpAny_pure ?_)) | refine wpAny_bind (wpAny_typeNameOf_itemiter hT (wpAny_pure ?_))
  refine wpAny_bind (wpAny_isOneOf_itemiter hT ?_)
  show wpAny _ _ (setField (.ref it) 3 (rawInt ((i : Int) + 1)) >>= _) _ _ ⟨hp, g, dr, tk, os⟩
  refine wpAny_bind (wpAny_setField_rec hit (by simp) fun h₁ he₁ hs₁ => ?_)
  replace hs₁ : Heap.SameBut it hp h₁ := hs₁
  replace he₁ : IsItemIter h₁ it d (i + 1) es.size ep ok ov := by
    have e : ((i + 1 : Nat) : Int) = (i : Int) + 1 := by omega
    unfold IsItemIter; rw [e]; simpa [rawInt] using he₁
  have hT₁ : Shared.TypeIs ⟨h₁, g, dr, tk, os⟩ (.ref it) "dict_itemiterator" := ⟨_, he₁, rfl⟩
  refine wpAny_bind (wpAny_holding ?_)
  refine wpAny_bind (wpAny_isOneOf_itemiter hT₁ ?_)
  refine wpAny_bind (wpAny_isOneOf_itemiter hT₁ ?_)
  show wpAny _ _ (Builtin.Dict_items.pairFromOwner (.ref it) 6 es[i].key es[i].val) _ _ ⟨h₁, g, dr, tk, os⟩
  unfold Builtin.Dict_items.pairFromOwner
  refine wpAny_bind (wpAny_newTuple ?_)
  have he₂ : IsItemIter (h₁.push { cls := .type "tuple", data := .seq #[es[i].key, es[i].val] }) it d (i + 1) es.size ep ok ov := Heap.get?_push_of_some _ he₁
  generalize hh₂ : h₁.push { cls := .type "tuple", data := .seq #[es[i].key, es[i].val] } = h₂ at he₂
  have hz₁ : h₁.objs.size = hp.objs.size := hs₁.1
  have hil : it < hp.objs.size := Heap.lt_size hit
  have ht₂ : h₂.get? hp.objs.size = some { cls := .type "tuple", data := .seq #[es[i].key, es[i].val] } := by rw [← hh₂, ← hz₁]; exact Heap.get?_push_size _ rfl
  have hz₂ : h₂.objs.size = hp.objs.size + 1 := by rw [← hh₂, Heap.size_push, hz₁]
  have hk₂ : ∀ b o, b ≠ it → hp.get? b = some o → h₂.get? b = some o := fun b o hb e => by rw [← hh₂]; exact Heap.get?_push_of_some _ (hs₁.extBut b o hb e)
  show wpAny _ _ (Builtin.Dict_items.ownedTupleIsFree (.ref it) >>= _) _ _ ⟨h₂, g, dr, tk, os⟩
  rw [hz₁]
  clear hh₂ he₁ hs₁ hT₁ hz₁ h₁
  refine wpAny_bind ?_
  unfold Builtin.Dict_items.ownedTupleIsFree
  refine wpAny_bind (wpAny_field he₂ rfl (x := .none) rfl (wpAny_pure ?_))
  simp only [if_true]
  refine wpAny_bind (wpAny_field he₂ rfl (x := ok) rfl ?_)
  refine wpAny_bind (wpAny_field he₂ rfl (x := ov) rfl ?_)
  refine wpAny_bind (wpAny_setField_rec he₂ (by simp) fun h₃ he₃ hs₃ => ?_)
  replace hs₃ : Heap.SameBut it h₂ h₃ := hs₃
  replace he₃ : IsItemIter h₃ it d (i + 1) es.size ep es[i].key ov := he₃
  refine wpAny_bind (wpAny_setField_rec he₃ (by simp) fun h₄ he₄ hs₄ => ?_)
  replace hs₄ : Heap.SameBut it h₃ h₄ := hs₄
  replace he₄ : IsItemIter h₄ it d (i + 1) es.size ep es[i].key es[i].val := he₄
  refine wpAny_bind (wpAny_setField_rec he₄ (by simp) fun h₅ he₅ hs₅ => ?_)
  replace hs₅ : Heap.SameBut it h₄ h₅ := hs₅
  replace he₅ : IsItemIterOut h₅ it d (i + 1) es.size ep es[i].key es[i].val hp.objs.size := he₅
  refine wpAny_bind (wpAny_setField_rec he₅ (by simp) fun h₆ he₆ hs₆ => ?_)
  replace hs₆ : Heap.SameBut it h₅ h₆ := hs₆
  replace he₆ : IsItemIterOut h₆ it d (i + 1) es.size ep es[i].key es[i].val hp.objs.size := he₆
  refine wpAny_bind (wpAny_letGo (wpAny_pure (wpAny_pure ⟨_, rfl, wpAny_pure (hQ h₆ he₆ ?_ ?_ ?_)⟩)))
  · exact hs₆.extBut _ _ (Nat.ne_of_gt hil) (hs₅.extBut _ _ (Nat.ne_of_gt hil) (hs₄.extBut _ _ (Nat.ne_of_gt hil) (hs₃.extBut _ _ (Nat.ne_of_gt hil) ht₂)))
  · show h₆.objs.size = hp.objs.size + 1
    rw [hs₆.1, hs₅.1, hs₄.1, hs₃.1, hz₂]
  · exact fun b o hb e => hs₆.extBut b o hb (hs₅.extBut b o hb (hs₄.extBut b o hb (hs₃.extBut b o hb (hk₂ b o hb e))))

theorem end_items {it d : Addr} {ep : Nat} {es : Array DictEntry} {ok ov : Value} {Q : Option Value → Shared → Prop} (hh : A.handled = none) (hit : IsItemIter s.heap it d es.size es.size ep ok ov)
    (hm : DEs s.heap d es ep)
    (hQ : ∀ h', Heap.ExtBut it s.heap h' → Q none { s with heap := h' }) : wpAny (model prog w) A (pyNext (.ref it)) Q E s := by
  obtain ⟨od, hod, hcd, hdd⟩ := id hm
  have hT : s.TypeIs (.ref it) "dict_itemiterator" := ⟨_, hit, rfl⟩
  unfold pyNext
  refine wpAny_bind (wpAny_attempt (wpAny_callSpecial?_slot (name := Str.ofString "__next__") hT PySem.F.slot_dict_itemiterator_next
    (wpAny_call_entry PySem.F.slot_dict_itemiterator_next hT PySem.F.entry_dict_itemiterator_next ?_ (PySem.F.args_dict_itemiterator_next_1 _))))
  refine wpAny_bind (wpAny_pure ?_)
  refine wpAny_bind ?_
  refine wpAny_bind ?_
  first | refine wpAny_bind (wpAny_typeNameOfWhole_itemiter hT (wpAny_pure ?_)) | refine wpAny_bind (wpAny_typeNameOf_itemiter hT (wpAny_pure ?_))
  refine wpAny_bind (wpAny_fieldsOf hit rfl ?_)
  have hown : Builtin.Dict_items.ownsTuple "dict_itemiterator" = true := by decide
  simp only [hown, if_true]
  show wpAny _ _ (if (Value.ref d == Value.none) = true then _ else _) _ _ s
  rw [if_neg (show ¬ ((Value.ref d == Value.none) = true) from Bool.false_ne_true)]
  refine wpAny_bind (wpAny_pure ?_)
  refine wpAny_bind (wpAny_dictEntries hod hdd ?_)
  rw [if_neg (by simp)]
  refine wpAny_bind (wpAny_pure ?_)
  refine wpAny_bind (wpAny_dictEpoch hod hdd ?_)
  rw [if_neg (by simp)]
  refine wpAny_pure ?_
  simp only [show ¬ ((es.size : Int) < 0) from by omega, if_false, Int.toNat_natCast, Array.getElem?_eq_none (Nat.le_refl es.size)]
  refine wpAny_bind ?_
  first | refine wpAny_bind (wpAny_typeNameOfWhole_itemiter hT (wpAny_pure ?_)) | refine wpAny_bind (wpAny_typeNameOf_itemiter hT (wpAny_pure ?_))
  show wpAny _ _ (setField (.ref it) 2 .none >>= _) _ _ s
  refine wpAny_bind (wpAny_setField hit rfl (by simp) ?_)
  show wpAny _ _ (newExc (.type "StopIteration") [] >>= _) _ _ _
  refine wpAny_bind ?_
  simp only [newExc, newTuple]
  refine wpAny_bind (wpAny_newObj_type ?_ (by size_fits))
  refine wpAny_bind (m := firstArgMember _ _) (wpAny_of_eq (a := Value.none) (by first | rfl | (simp only [firstArgMember]; rfl)) ?_)
  refine wpAny_newObj_type ?_ (by size_fits)
  simp only [raiseNew]
  refine wpAny_bind (wpAny_handled ?_)
  rw [show A.in1.handled = none from hh]
  refine wpAny_bind (wpAny_pure (wpAny_throw ?_))
  refine wpAny_bind (wpAny_isInstance (T := "StopIteration") (b := true) ⟨_, Heap.get?_push_size _ rfl, rfl⟩ isSubtype_stop ?_)
  exact wpAny_pure (hQ _ (((Heap.SameBut.update ..).extBut.push _).push _))
end
end Mine

namespace Mine

section
variable {prog : Program} {w : World} {A : Around} {E : Value → Shared → Prop} {s : Shared}

theorem eqBool_str_int {a : Str} {b : Int} {t u : Tok} {Q : Bool → Shared → Prop} (h : Q false s) :
    wpAny (model prog w) A (eqBool (.str a t) (.int b u)) Q E s := by
  unfold eqBool
  refine wpAny_holding ?_
  rw [if_neg (by intro q; have := eq_of_beq q; cases this)]
  exact wpAny_bind (EqMixed.eq_str_int (wpAny_truthy_bool h))
theorem eqBool_int_str {a : Int} {b : Str} {t u : Tok} {Q : Bool → Shared → Prop} (h : Q false s) :
    wpAny (model prog w) A (eqBool (.int a t) (.str b u)) Q E s := by
  unfold eqBool
  refine wpAny_holding ?_
  rw [if_neg (by intro q; have := eq_of_beq q; cases this)]
  exact wpAny_bind (EqMixed.eq_int_str (wpAny_truthy_bool h))
end

def mixIs : Str ⊕ Int → Value → Bool
  | .inl x, v => Value.isStrOf x v
  | .inr k, v => Value.isInt k v

def mixHash (w : World) : Str ⊕ Int → Int
  | .inl x => hashStr w x
  | .inr k => hashInt k
theorem mix_inl {x : Str} {v : Value} (h : mixIs (.inl x) v = true) : Value.isStrOf x v = true := h
theorem mix_inr {k : Int} {v : Value} (h : mixIs (.inr k) v = true) : Value.isInt k v = true := h
theorem mix_inj (v : Value) (a b : Str ⊕ Int) (ha : mixIs a v = true) (hb : mixIs b v = true) : a = b := by
  cases a with
  | inl x =>
    cases b with
    | inl y => exact congrArg _ (Value.isStrOf_inj v x y (mix_inl ha) (mix_inl hb))
    | inr k =>
      obtain ⟨t, rfl⟩ := Value.isStrOf_shape (mix_inl ha)
      obtain ⟨u, hu⟩ := Value.isInt_shape (mix_inr hb); exact Value.noConfusion hu
  | inr k =>
    cases b with
    | inl y =>
      obtain ⟨t, rfl⟩ := Value.isStrOf_shape (mix_inl hb)
      obtain ⟨u, hu⟩ := Value.isInt_shape (mix_inr ha); exact Value.noConfusion hu
    | inr j => exact congrArg _ (Value.isInt_inj v k j (mix_inr ha) (mix_inr hb))

section
variable {prog : Program} {w : World} {A : Around} {E : Value → Shared → Prop} {s : Shared}
theorem mix_hash {k : Str ⊕ Int} {v : Value} {Q : Int → Shared → Prop} (hv : mixIs k v = true)
    (h : Q (mixHash w k) { s with toks := s.toks + 1 }) : wpAny (model prog w) A (PySem.pyHash v) Q E s := by
  cases k with
  | inl x => obtain ⟨t, rfl⟩ := Value.isStrOf_shape (mix_inl hv); exact wpAny_pyHash_str h
  | inr j => obtain ⟨t, rfl⟩ := Value.isInt_shape (mix_inr hv); exact wpAny_pyHash_int h
theorem mix_eq {a b : Str ⊕ Int} {u v : Value} {Q : Bool → Shared → Prop} (hu : mixIs a u = true) (hv : mixIs b v = true) (h : Q (decide (a = b)) s) :
    wpAny (model prog w) A (PySem.eqBool u v) Q E s := by
  cases a with
  | inl x =>
    obtain ⟨t, rfl⟩ := Value.isStrOf_shape (mix_inl hu)
    cases b with
    | inl y =>
      obtain ⟨u, rfl⟩ := Value.isStrOf_shape (mix_inl hv)
      refine wpAny_eqBool_str ?_
      simpa using h
    | inr j => obtain ⟨u, rfl⟩ := Value.isInt_shape (mix_inr hv); exact eqBool_str_int (by simpa using h)
  | inr k =>
    obtain ⟨t, rfl⟩ := Value.isInt_shape (mix_inr hu)
    cases b with
    | inl y => obtain ⟨u, rfl⟩ := Value.isStrOf_shape (mix_inl hv); exact eqBool_int_str (by simpa using h)
    | inr j =>
      obtain ⟨u, rfl⟩ := Value.isInt_shape (mix_inr hv)
      refine wpAny_eqBool_int ?_
      have e : (k == j) = decide ((Sum.inr k : Str ⊕ Int) = Sum.inr j) := by
        by_cases q : k = j
        · subst q; simp
        · simp [q]
      rw [e]; exact h
end

/-- keys that are texts or ints -/
def mixKind (prog : Program) (w : World) : KeyKind prog w (Str ⊕ Int) where
  is := mixIs
  hash := mixHash w
  inj := mix_inj
  byValue := fun k v h => by
    cases k with
    | inl x => obtain ⟨t, rfl⟩ := Value.isStrOf_shape (mix_inl h); rfl
    | inr j => obtain ⟨t, rfl⟩ := Value.isInt_shape (mix_inr h); rfl
  pyHash := fun hv h => mix_hash hv h
  eqBool := fun hu hv h => mix_eq hu hv h
  «strs» := fun k x t v h => by
    cases k with
    | inl y =>
      obtain ⟨u, hu⟩ := Value.isStrOf_shape (mix_inl h)
      injection hu with hx
      subst hx
      cases v <;> rfl
    | inr j =>
      obtain ⟨u, hu⟩ := Value.isInt_shape (mix_inr h)
      exact Value.noConfusion hu

/-- the words of a key: text, int, text -/
def words (x : Str) (k : Int) : List (Str ⊕ Int) := [.inl x, .inr k, .inl x]
theorem words_inj {x : Str} {a b : Int} (h : words x a = words x b) : a = b := by simpa [words] using h

/-- a dict's keys that are tuples (x, k, x): the key is told by k -/
def triKind (prog : Program) (w : World) (x : Str) : HeapKind prog w Int where
  is := fun h k a => (tupleKind (mixKind prog w)).is h (words x k) a
  hash := fun k => (tupleKind (mixKind prog w)).hash (words x k)
  draws := fun k => (tupleKind (mixKind prog w)).draws (words x k)
  room := (tupleKind (mixKind prog w)).room
  inj := fun hx hy => words_inj ((tupleKind (mixKind prog w)).inj hx hy)
  keeps := fun x ho hd hs => (tupleKind (mixKind prog w)).keeps x ho hd hs
  pyHash := fun hu hk h => (tupleKind (mixKind prog w)).pyHash hu hk h
  eqBool := fun {_ _ _ a b _ _ _} hu hx hy h => (tupleKind (mixKind prog w)).eqBool hu hx hy (by
    have e : decide (words x a = words x b) = decide (a = b) := by
      by_cases q : a = b
      · subst q; simp
      · rw [decide_eq_false q, decide_eq_false (fun z => q (words_inj (x := x) z))]
    rw [e]; exact h)
  quiet := fun hk h => (tupleKind (mixKind prog w)).quiet hk h

theorem triKind_room {prog : Program} {w : World} {x : Str} {A : Around} (h : A.units < cLine) : (triKind prog w x).room A := h
theorem triKind_is {prog : Program} {w : World} {x : Str} {h : Heap} {k : Int} {a : Addr} {o : Obj} {t1 t2 t3 : Tok} {n : Nat} (ho : h.get? a = some o) (hc : o.cls = .type "tuple") (hd : o.data = .seq #[.str x t1, .int k t2, .str x t3] n) : (triKind prog w x).is h k a := by
  refine ⟨o, _, n, ho, hc, hd, ?_⟩
  refine .cons ?_ (.cons ?_ (.cons ?_ .nil))
  · show Value.isStrOf x (.str x t1) = true
    simp [Value.isStrOf]
  · show Value.isInt k (.int k t2) = true
    simp [Value.isInt]
  · show Value.isStrOf x (.str x t3) = true
    simp [Value.isStrOf]
end Mine

namespace Mine

noncomputable abbrev Pr : Program := PySem.Challenge.rw_gf0005_01.row.prog
noncomputable abbrev KF (w : World) : Frag := hd.heap_39 w.params

/-- what a call needs around it: no exception in flight, k frames and some units to spare -/
def Room (A : Around) (k : Nat) : Prop := A.handled = none ∧ A.depth + k < recursionLimit ∧ A.units + 4 * k < cLine
theorem Room.deeper {A : Around} {k : Nat} (r : Room A (k + 1)) (env : Env) : Room (A.deeper env) k := by
  refine ⟨r.1, ?_, ?_⟩
  · show A.depth + 1 + k < _; have := r.2.1; omega
  · show A.units + 3 + 4 * k < _; have := r.2.2; omega
theorem Room.less {A : Around} {k : Nat} (r : Room A (k + 1)) : Room A k := ⟨r.1, by have := r.2.1; omega, by have := r.2.2; omega⟩
theorem Room.in1 {A : Around} {k : Nat} (r : Room A (k + 1)) : Room A.in1 k := ⟨r.1, by have := r.2.1; show A.depth + k < _; omega, by have := r.2.2; show A.units + 1 + 4 * k < _; omega⟩
theorem Room.depth {A : Around} {k : Nat} (r : Room A k) : A.depth < recursionLimit := by have := r.2.1; omega
theorem Room.units {A : Around} {k : Nat} (r : Room A (k + 1)) : A.units + 1 < cLine := by have := r.2.2; omega

/-- the top of the text, at this heap -/
structure TopAt (w : World) (mg mb : Str → Option Value) (h : Heap) : Prop where
  X : (KF w).In h
  g : h.Ns mainGlobals mg
  b : h.Ns builtinsNs mb
  nolimit : h.NoLimit
  builtins : ∀ x : Str, x ≠ "__name__" → mb x = bootBuiltins x
theorem TopAt.keeps {w : World} {mg mb : Str → Option Value} {h h' : Heap} (T : TopAt w mg mb h) (k : ∀ b o, h.get? b = some o → h'.get? b = some o) : TopAt w mg mb h' :=
  ⟨T.X.keeps k, T.g.keeps k, T.b.keeps k, T.nolimit.keeps k, T.builtins⟩

theorem keepsRefl (s : Shared) : Keeps s s := ⟨s.heap, s.toks, rfl, fun _ _ e => e⟩
theorem keepsTrans {s s' s'' : Shared} (a : Keeps s s') (b : Keeps s' s'') : Keeps s s'' := by
  obtain ⟨h1, t1, rfl, k1⟩ := a
  obtain ⟨h2, t2, rfl, k2⟩ := b
  exact ⟨h2, t2, rfl, fun b o e => k2 b o (k1 b o e)⟩
theorem keepsExt {s s' : Shared} (a : Keeps s s') : ∀ b o, s.heap.get? b = some o → s'.heap.get? b = some o := by
  obtain ⟨h1, t1, rfl, k1⟩ := a; exact k1

theorem fresh {h : Heap} {a : Addr} (ha : h.objs.size ≤ a) : h.get? a = none := by
  cases e : h.get? a with
  | none => rfl
  | some o' => exact absurd (Heap.lt_size e) (Nat.not_lt.mpr ha)
theorem frSize {h₀ h : Heap} {L : Addr} {m : Str → Option Value} (F : Fr h₀ L h m) : h₀.objs.size < h.objs.size := Nat.lt_of_le_of_lt F.above F.ns.lt
/-- a frame stands where only fresh objects are changed -/
theorem frExt {h₀ h h' : Heap} {L I : Addr} {m : Str → Option Value} (F : Fr h₀ L h m) (hI : I ≠ L) (hn : h₀.get? I = none) (k : ∀ b o, b ≠ I → h.get? b = some o → h'.get? b = some o) : Fr h₀ L h' m :=
  ⟨F.ns.at' fun o e => k L o (Ne.symm hI) e, fun b o e => k b o (fun q => by rw [q, hn] at e; cases e) (F.keep b o e), F.above⟩

section
variable {w : World} {A : Around} {s : Shared} {mg mb : Str → Option Value}

theorem count_calls_code {d : Addr} {es : Array DictEntry} {ep : Nat} {R : Result → Shared → Prop} (r : Room A 3) (T : TopAt w mg mb s.heap) (hd : DEs s.heap d es ep) (hsys : (d == sysModules) = false) (hv : ∀ e ∈ es, ∃ t, e.val = .int 1 t)
    (h : ∀ t s', Keeps s s' → R (.ok (.ret (.int es.size t))) s') :
    codeAny (model Pr w) A (.call (.ref 28) ⟨[.ref d], []⟩) R s := by
  refine codeAny_call_def (fd := fnOf _ _ _ _ _ _ _ _ _ _ _ _) (o := _) r.depth (T.X 28 _ rfl) rfl T.nolimit (codeRec_of T.X rfl) rfl (binds := [(Str.ofString "callers", .ref d)]) (BindsTo.of_eq rfl) (by decide) (by intro x hx; simp at hx; subst hx; rfl) ?_
  intro h₁ hns hk
  have F : Fr s.heap s.heap.objs.size h₁ (fun x => List.lookup x [(Str.ofString "callers", Value.ref d)].reverse) := ⟨hns, hk, Nat.le_refl _⟩
  refine wpAny_execs_cons (wpAny_Assign_Name (wpAny_Constant_int (wpAny_storeName_local rfl F.ns (fun h₂ hn₂ hs₂ => ?_) rfl)))
  replace F := F.set hn₂ hs₂
  clear hn₂ hs₂ hns hk
  have hLd : ∀ {h : Heap} {m : Str → Option Value}, Fr s.heap s.heap.objs.size h m → DEs h d es ep := fun F => hd.at fun o e => F.keep d o e
  refine wpAny_execs_cons (wpAny_For (call_values (d := d) hsys (hLd F) rfl rfl (fun Q' q => wpAny_Name (wpAny_loadName_local rfl rfl F.ns rfl q)) ?_))
  refine iter_values (d := d) (es := es) (ep := ep) ⟨_, Heap.get?_push_size _ rfl, rfl, rfl⟩ ((hLd F).at fun o e => Heap.get?_push_of_some _ e) ?_
  have hI : ∃ I, I = (h₂.push { cls := .type "dict_values", data := .fields #[.ref d] }).objs.size := ⟨_, rfl⟩
  obtain ⟨I, hI⟩ := hI
  have hIn : s.heap.get? I = none := fresh (by rw [hI, Heap.size_push]; exact Nat.le_of_lt (Nat.lt_succ_of_lt (frSize F)))
  have hIL : I ≠ s.heap.objs.size := by rw [hI, Heap.size_push]; exact Nat.ne_of_gt (Nat.lt_succ_of_lt F.ns.lt)
  have hit := Heap.get?_push_size (h₂.push { cls := .type "dict_values", data := .fields #[.ref d] }) (o := { cls := .type "dict_valueiterator", data := .fields #[.ref d, .int 0 0, .int es.size 0, .int ep 0] }) rfl
  have F2 := (F.push { cls := .type "dict_values", data := .fields #[.ref d] }).push { cls := .type "dict_valueiterator", data := .fields #[.ref d, .int 0 0, .int es.size 0, .int ep 0] }
  dsimp only at hit F2 ⊢
  rw [← hI] at hit ⊢
  generalize (h₂.push { cls := .type "dict_values", data := .fields #[.ref d] }).push { cls := .type "dict_valueiterator", data := .fields #[.ref d, .int 0 0, .int es.size 0, .int ep 0] } = H at hit F2 ⊢
  refine codeAny_forLoop_any (fun n s' => ∃ h' tk m' i t, s' = { s with heap := h', toks := tk } ∧ h'.IsValIter I d i es.size ep ∧ Fr s.heap s.heap.objs.size h' m' ∧ m' (Str.ofString "nc") = some (.int (i : Nat) t) ∧ i ≤ es.size ∧ n = es.size + 1 - i) ?_ (es.size + 1)
    ⟨_, _, _, 0, _, rfl, ⟨_, hit, rfl, rfl⟩, F2, rfl, Nat.zero_le _, rfl⟩
  rintro n s' ⟨h', tk, m', i, t, rfl, hit', F', hm', hi, rfl⟩
  cases hx : es[i]? with
  | none =>
    have hi' : i = es.size := Nat.le_antisymm hi (by simpa using hx)
    subst hi'
    refine end_values r.1 hit' (hLd F') fun h₃ he₃ => wpAny_execs_nil ?_
    have F3 := frExt F' hIL hIn fun b o hb e => he₃ b o hb e
    refine wpAny_execs_cons (wpAny_Return_some (wpAny_Name (wpAny_loadName_local rfl rfl F3.ns hm' ?_)))
    exact h _ _ ⟨_, _, rfl, F3.keep⟩
  | some e =>
    have hlt : i < es.size := (Array.getElem?_eq_some_iff.mp hx).1
    obtain ⟨te, hte⟩ := hv e (Array.mem_of_getElem? hx)
    refine next_values hit' (hLd F') hx fun h₃ hit₃ hs₃ => ?_
    have F3 := F'.change hs₃ hIL hIn
    rw [hte]
    refine wpAny_pure (wpAny_assign_Name (wpAny_storeName_local rfl F3.ns (fun h₄ hn₄ hs₄ => ?_) rfl))
    have F4 := F3.set hn₄ hs₄
    have hit₄ := hit₃.extBut hs₄.extBut hIL
    refine wpAny_execs_cons (wpAny_AugAssign_Name (wpAny_loadName_local rfl rfl F4.ns (if_neg (by decide) |>.trans hm') ?_))
    refine wpAny_Name (wpAny_loadName_local rfl rfl F4.ns (if_pos rfl) ?_)
    refine wpAny_iadd_int (wpAny_storeName_local rfl F4.ns (fun h₅ hn₅ hs₅ => ?_) rfl)
    have F5 := F4.set hn₅ hs₅
    have hit₅ := hit₄.extBut hs₅.extBut hIL
    refine wpAny_execs_nil ⟨es.size + 1 - (i + 1), by omega, h₅, _, _, i + 1, _, rfl, hit₅, F5, if_pos rfl, hlt, rfl⟩
end
end Mine

namespace Mine

section
variable {w : World} {A : Around} {s : Shared} {mg mb : Str → Option Value}

theorem DEs.ofH {prog : Program} {knd : HeapKind prog w Int} {h : Heap} {d : Addr} {xs : List (Int × Addr × Value)} (x : h.DictOfH knd d xs) : ∃ ep, DEs h d (xs.map (entryOfKey knd)).toArray ep := by
  obtain ⟨o, es, ep, ho, hx, hd, he, _⟩ := x
  refine ⟨ep, o, ho, hx, ?_⟩
  rw [hd, ← he]

/-- the tuple key stands at every later heap of the frame -/
theorem is_ext {prog : Program} {x : Str} {h h' : Heap} {k : Int} {a : Addr} (hk : (triKind prog w x).is h k a) (e : ∀ o, h.get? a = some o → h'.get? a = some o) : (triKind prog w x).is h' k a :=
  let ⟨o, it, n, ho, r⟩ := hk; ⟨o, it, n, e o ho, r⟩
theorem is_get {prog : Program} {x : Str} {h : Heap} {k : Int} {a : Addr} (hk : (triKind prog w x).is h k a) : ∃ o, h.get? a = some o ∧ o.cls = .type "tuple" :=
  let ⟨o, _, _, ho, hc, _⟩ := hk; ⟨o, ho, hc⟩
theorem dictH_ext {prog : Program} {x : Str} {h h' : Heap} {d : Addr} {xs : List (Int × Addr × Value)} (hd : h.DictOfH (triKind prog w x) d xs) (e : ∀ b o, h.get? b = some o → h'.get? b = some o) : h'.DictOfH (triKind prog w x) d xs := by
  obtain ⟨o, es, ep, ho, hx, hdt, he, his, hn⟩ := hd
  exact ⟨o, es, ep, e _ _ ho, hx, hdt, he, fun y hy => is_ext (his y hy) fun o q => e _ _ q, hn⟩
theorem dictH_extBut {prog : Program} {x : Str} {h h' : Heap} {d I : Addr} {xs : List (Int × Addr × Value)} (hd : h.DictOfH (triKind prog w x) d xs) (hne : d ≠ I) (hI : ∀ o, h.get? I = some o → o.cls ≠ .type "tuple") (e : ∀ b o, b ≠ I → h.get? b = some o → h'.get? b = some o) : h'.DictOfH (triKind prog w x) d xs := by
  obtain ⟨o, es, ep, ho, hx, hdt, he, his, hn⟩ := hd
  refine ⟨o, es, ep, e _ _ hne ho, hx, hdt, he, fun y hy => is_ext (his y hy) fun o q => e _ _ (fun z => ?_) q, hn⟩
  obtain ⟨o', h1, h2⟩ := is_get (his y hy)
  exact hI o' (z ▸ h1) h2
theorem atKey_none {xs : List (Int × Addr × Value)} {k : Int} (h : k ∉ xs.map (·.1)) : atKey xs k = none :=
  atKey_none_of_get fun j p e => h (List.mem_map.mpr ⟨_, List.mem_of_getElem? e, rfl⟩)

def Fresh (news : List (Int × Addr × Value)) (k : Int) : Prop := k ∉ news.map (·.1)

set_option linter.unusedVariables false in
theorem copy_loop {x : Str} {env : Env} {body : List Stmt} {src D I L : Addr} {h₀ : Heap} {m : Str → Option Value} {xs acc : List (Int × Addr × Value)} {ep : Nat} {p1 p2 p3 : Pos} {j : Nat} {R : Result → Shared → Prop}
    (hh : A.handled = none) (hL : env.locals = L) (hxk : env.kindOf (Str.ofString "func") = some .local) (hxv : env.kindOf (Str.ofString "caller") = some .local) (hp : (env.scope.kind == .class || (env.scope.kind == .module && env.locals != env.globals)) = false)
    (hs : h₀.DictOfH (triKind Pr w x) src xs) (hse : DEs h₀ src (xs.map (entryOfKey (triKind Pr w x))).toArray ep) (hD0 : h₀.get? D = none) (hDL : D ≠ L) (hI0 : h₀.get? I = none) (hIL : I ≠ L) (hID : I ≠ D)
    (hnd : (acc.map (·.1) ++ xs.map (·.1)).Nodup)
    (hit : IsItemIter s.heap I src 0 xs.length ep .none .none) (F : Fr h₀ L s.heap m) (hD : s.heap.DictOfH (triKind Pr w x) D acc)
    (turn : ∀ k a v acc' h tk m' E', k ∉ acc'.map (·.1) → acc'.length ≤ acc.length + xs.length → (k, a, v) ∈ xs → (triKind Pr w x).is h k a → Fr h₀ L h m' → m' (Str.ofString "func") = some (.ref a) → m' (Str.ofString "caller") = some v → (∀ y, y ≠ Str.ofString "func" → y ≠ Str.ofString "caller" → m' y = m y) → h.DictOfH (triKind Pr w x) D acc' →
      wpAny (model Pr w) A (execs body env) (fun f s' => f = .next ∧ ∃ h' tk', s' = { s with heap := h', toks := tk' } ∧ h'.DictOfH (triKind Pr w x) D (acc' ++ [(k, a, v)]) ∧ Heap.ExtBut D h h') E' { s with heap := h, toks := tk })
    (hR : ∀ h' tk m', Fr h₀ L h' m' → (∀ y, y ≠ Str.ofString "func" → y ≠ Str.ofString "caller" → m' y = m y) → h'.DictOfH (triKind Pr w x) D (acc ++ xs) → R (.ok .next) { s with heap := h', toks := tk }) :
    codeAny (model Pr w) A (.forLoop (.Tuple [.Name (Str.ofString "func") p1, .Name (Str.ofString "caller") p2] j p3) (.ref I) body [] env) R s := by
  subst hL
  have hsz : (xs.map (entryOfKey (triKind Pr w x))).toArray.size = xs.length := by simp
  refine codeAny_forLoop_any (fun n s' => ∃ h' tk m' i ok ov, s' = { s with heap := h', toks := tk } ∧ IsItemIter h' I src i xs.length ep ok ov ∧ Fr h₀ env.locals h' m' ∧ (∀ y, y ≠ Str.ofString "func" → y ≠ Str.ofString "caller" → m' y = m y) ∧
      h'.DictOfH (triKind Pr w x) D (acc ++ xs.take i) ∧ i ≤ xs.length ∧ n = xs.length + 1 - i) ?_ (xs.length + 1)
    ⟨s.heap, s.toks, m, 0, .none, .none, rfl, hit, F, fun _ _ _ => rfl, by simpa using hD, Nat.zero_le _, rfl⟩
  rintro n s' ⟨h', tk, m', i, ok, ov, rfl, hit', F', hm', hD', hi, rfl⟩
  have hse' : DEs h' src (xs.map (entryOfKey (triKind Pr w x))).toArray ep := hse.at fun o e => F'.keep src o e
  have hItup : ∀ {h : Heap} {i n ep : Nat} {ok ov : Value}, IsItemIter h I src i n ep ok ov → ∀ o, h.get? I = some o → o.cls ≠ .type "tuple" := fun q o e => by
    rw [q] at e; cases e; intro z; exact absurd (Value.type.inj z) (by decide)
  cases hx : xs[i]? with
  | none =>
    have hi' : i = xs.length := Nat.le_antisymm hi (by simpa using hx)
    subst hi'
    refine end_items hh (es := (xs.map (entryOfKey (triKind Pr w x))).toArray) (by rw [hsz]; exact hit') hse' fun h₁ he₁ => wpAny_execs_nil ?_
    refine hR h₁ tk m' (frExt F' hIL hI0 fun b o hb e => he₁ b o hb e) hm' ?_
    rw [List.take_length] at hD'
    exact dictH_extBut hD' (Ne.symm hID) (hItup hit') fun b o hb e => he₁ b o hb e
  | some e =>
    obtain ⟨k, a, v⟩ := e
    have hlt : i < xs.length := (List.getElem?_eq_some_iff.mp hx).1
    have hmem : (k, a, v) ∈ xs := List.mem_of_getElem? hx
    have hex : (xs.map (entryOfKey (triKind Pr w x))).toArray[i]? = some (entryOfKey (triKind Pr w x) (k, a, v)) := by
      rw [List.getElem?_toArray, List.getElem?_map, hx]; rfl
    refine next_items (es := (xs.map (entryOfKey (triKind Pr w x))).toArray) (by rw [hsz]; exact hit') hse' hex fun h₁ heo ht₁ hz₁ hk₁ => ?_
    rw [hsz] at heo
    refine wpAny_letOwnedTupleGo_items heo fun h₂ he₂ hs₂ => ?_
    replace hs₂ : Heap.SameBut I h₁ h₂ := hs₂
    have hiH : I < h'.objs.size := Heap.lt_size hit'
    have ht₂ : h₂.IsTuple h'.objs.size #[.ref a, v] := ⟨_, (hs₂.2 _ (Nat.ne_of_gt hiH)).trans ht₁, rfl, _, rfl⟩
    have hz₂ : h₂.objs.size = h'.objs.size + 1 := hs₂.1.trans hz₁
    have k₂ : ∀ b o, b ≠ I → h'.get? b = some o → h₂.get? b = some o := fun b o hb e => hs₂.extBut b o hb (hk₁ b o hb e)
    refine wpAny_assign_Tuple hh ht₂ rfl rfl fun h₃ hx₃ => ?_
    replace hx₃ : Heap.ExtBut h₂.objs.size h₂ h₃ := hx₃
    have k₃ : ∀ b o, b ≠ I → h'.get? b = some o → h₃.get? b = some o := fun b o hb e => hx₃ b o (by rw [hz₂]; exact Nat.ne_of_lt (Nat.lt_succ_of_lt (Heap.lt_size e))) (k₂ b o hb e)
    have he₃ : IsItemIter h₃ I src (i + 1) xs.length ep (.ref a) v := hx₃ _ _ (by rw [hz₂]; exact Nat.ne_of_lt (Nat.lt_succ_of_lt hiH)) he₂
    have F3 : Fr h₀ env.locals h₃ m' := frExt F' hIL hI0 k₃
    have hD3 := dictH_extBut hD' (Ne.symm hID) (hItup hit') k₃
    show wpAny _ _ (do holding [v] (assign (.Name (Str.ofString "func") p1) env (.ref a)); do holding [] (assign (.Name (Str.ofString "caller") p2) env v); pure ()) _ _ _
    refine wpAny_bind (wpAny_holding (wpAny_assign_Name (wpAny_storeName_local hxk F3.ns (fun h₄ hn₄ hs₄ => ?_) hp)))
    have F4 := F3.set hn₄ hs₄
    refine wpAny_bind (wpAny_holding (wpAny_assign_Name (wpAny_storeName_local hxv F4.ns (fun h₅ hn₅ hs₅ => wpAny_pure ?_) hp)))
    have F5 := F4.set hn₅ hs₅
    have k₅ : ∀ b o, b ≠ env.locals → h₃.get? b = some o → h₅.get? b = some o := fun b o hb e => hs₅.extBut b o hb (hs₄.extBut b o hb e)
    have he₅ : IsItemIter h₅ I src (i + 1) xs.length ep (.ref a) v := k₅ I _ hIL he₃
    have hD5 : h₅.DictOfH (triKind Pr w x) D (acc ++ xs.take i) := by
      obtain ⟨o, es, ep', ho, hxx, hdt, he, his, hn⟩ := hD3
      refine ⟨o, es, ep', k₅ _ _ hDL ho, hxx, hdt, he, fun y hy => is_ext (his y hy) fun o q => k₅ _ _ (fun z => ?_) q, hn⟩
      obtain ⟨o₁, es₁, ep₁, g1, g2, _⟩ := F3.ns
      obtain ⟨o', it', n', h1, _, h2, _⟩ := his y hy
      rw [z, g1] at h1
      cases h1
      rw [g2] at h2
      cases h2
    obtain ⟨_, _, _, _, _, _, _, his, _⟩ := hs
    have hkey : (triKind Pr w x).is h₅ k a := is_ext (his _ hmem) fun o e => F5.keep a o e
    have hfr : k ∉ (acc ++ xs.take i).map (·.1) := by
      intro hm
      rw [List.map_append, List.mem_append] at hm
      rw [List.nodup_append] at hnd
      rcases hm with hm | hm
      · exact hnd.2.2 k hm k (List.mem_map.mpr ⟨_, hmem, rfl⟩) rfl
      · obtain ⟨y, hy, hyk⟩ := List.mem_map.mp hm
        obtain ⟨q, hq⟩ := List.mem_iff_getElem?.mp hy
        have hqi : q < i := by
          have := (List.getElem?_eq_some_iff.mp hq).1
          rw [List.length_take] at this; omega
        rw [List.getElem?_take_of_lt hqi] at hq
        have h1 : (xs.map (·.1))[q]? = some k := by rw [List.getElem?_map, hq]; exact congrArg some hyk
        have h2 : (xs.map (·.1))[i]? = some k := by rw [List.getElem?_map, hx]; rfl
        have := (List.getElem?_inj (by rw [List.length_map]; omega) hnd.2.1).mp (h1.trans h2.symm)
        omega
    refine wpAny_mono (turn k a v (acc ++ xs.take i) h₅ _ _ _ hfr (by rw [List.length_append, List.length_take]; omega) hmem hkey F5 (by simp [show ¬ (Str.ofString "func" = Str.ofString "caller") by decide]) (if_pos rfl) (fun y h1 h2 => by simp only [if_neg h2, if_neg h1]; exact hm' y h1 h2) hD5) (fun f s₆ h₆ => ?_) fun _ _ x => x
    obtain ⟨rfl, h₆, tk₆, rfl, hD6, hx6⟩ := h₆
    refine ⟨xs.length + 1 - (i + 1), by omega, h₆, tk₆, _, i + 1, .ref a, v, rfl, hx6 I _ hID he₅, frExt F5 hDL hD0 fun b o hb e => hx6 b o hb e, fun y h1 h2 => by simp only [if_neg h2, if_neg h1]; exact hm' y h1 h2, ?_, hlt, rfl⟩
    rw [List.take_add_one, hx, ← List.append_assoc]
    exact hD6
end
end Mine

namespace Mine

section
variable {w : World} {A : Around} {s : Shared} {mg mb : Str → Option Value}

theorem notModules {h : Heap} {D : Addr} (b : h.NoLimit) (hD : h.objs.size ≤ D) : (D == sysModules) = false := by
  have := modules_low b
  exact beq_eq_false_iff_ne.mpr (Nat.ne_of_gt (Nat.lt_of_lt_of_le this hD))

theorem add_callers_code {x : Str} {dt ds : Addr} {xs ys : List (Int × Addr × Value)} {R : Result → Shared → Prop} (r : Room A 3) (T : TopAt w mg mb s.heap)
    (ht : s.heap.DictOfH (triKind Pr w x) dt xs) (hs : s.heap.DictOfH (triKind Pr w x) ds ys) (hts : (dt == sysModules) = false) (hss : (ds == sysModules) = false)
    (hnd : (xs.map (·.1) ++ ys.map (·.1)).Nodup) (hsz : xs.length + ys.length ≤ 1000)
    (hR : ∀ D h' tk, (∀ b o, s.heap.get? b = some o → h'.get? b = some o) → s.heap.objs.size ≤ D → h'.DictOfH (triKind Pr w x) D (xs ++ ys) → R (.ok (.ret (.ref D))) { s with heap := h', toks := tk }) :
    codeAny (model Pr w) A (.call (.ref 21) ⟨[.ref dt, .ref ds], []⟩) R s := by
  refine codeAny_call_def (fd := fnOf _ _ _ _ _ _ _ _ _ _ _ _) (o := _) r.depth (T.X 21 _ rfl) rfl T.nolimit (codeRec_of T.X rfl) rfl (binds := [(Str.ofString "target", .ref dt), (Str.ofString "source", .ref ds)]) (BindsTo.of_eq rfl) (by decide) (by intro x hx; simp at hx; rcases hx with rfl | rfl <;> rfl) ?_
  intro h₁ hns hk
  have r' := r.deeper (callEnv (fnOf (Str.ofString "add_callers") (Str.ofString "add_callers") default [] default .none .none .none .none none .none .none) 0 0)
  have F : Fr s.heap s.heap.objs.size h₁ (fun y => List.lookup y [(Str.ofString "target", Value.ref dt), (Str.ofString "source", Value.ref ds)].reverse) := ⟨hns, hk, Nat.le_refl _⟩
  obtain ⟨ept, het⟩ := DEs.ofH ht
  obtain ⟨eps, hes⟩ := DEs.ofH hs
  have hszt : (xs.map (entryOfKey (triKind Pr w x))).toArray.size = xs.length := by simp
  have hszs : (ys.map (entryOfKey (triKind Pr w x))).toArray.size = ys.length := by simp
  -- new_callers = {}
  refine wpAny_execs_cons (wpAny_Assign_Name (wpAny_Dict_empty ?_))
  have F1 := F.push { cls := .type "dict", data := .dict #[] }
  have hD : ∃ D, D = h₁.objs.size := ⟨_, rfl⟩
  obtain ⟨D, hD⟩ := hD
  have hDd := Heap.DictOfH.new (knd := triKind Pr w x) h₁
  dsimp only at F1 hDd ⊢
  rw [← hD] at hDd ⊢
  have hDle : s.heap.objs.size ≤ D := by rw [hD]; exact Nat.le_of_lt (frSize F)
  have hD0 : s.heap.get? D = none := fresh hDle
  have hDL : D ≠ s.heap.objs.size := by rw [hD]; exact Nat.ne_of_gt F.ns.lt
  have hDsys : (D == sysModules) = false := notModules T.nolimit hDle
  refine wpAny_storeName_local rfl F1.ns (fun h₂ hn₂ hs₂ => ?_) rfl
  have F2 := F1.set hn₂ hs₂
  have hD2 : h₂.DictOfH (triKind Pr w x) D [] := by
    obtain ⟨o, es, ep, ho, r⟩ := hDd
    obtain ⟨a, b, c, d, e⟩ := r
    exact ⟨o, es, ep, hs₂.extBut D o hDL ho, a, b, c, fun y hy => by simp at hy, e⟩
  clear hDd hn₂ hs₂ F1 F hns hk
  have E : ∀ {m' m : Str → Option Value} {y : Str}, (∀ y, y ≠ Str.ofString "func" → y ≠ Str.ofString "caller" → m' y = m y) → y ≠ Str.ofString "func" → y ≠ Str.ofString "caller" → ∀ {v}, m y = some v → m' y = some v := fun h a b v e => (h _ a b).trans e
  -- the first loop
  refine wpAny_execs_cons (wpAny_For (call_items (d := dt) hts (het.at fun o e => F2.keep dt o e) rfl rfl (fun Q' q => wpAny_Name (wpAny_loadName_local rfl rfl F2.ns rfl q)) ?_))
  refine iter_items (d := dt) (ep := ept) ⟨_, Heap.get?_push_size _ rfl, rfl, rfl⟩ ((het.at fun o e => F2.keep dt o e).at fun o e => Heap.get?_push_of_some _ e) ?_
  obtain ⟨I, hI⟩ : ∃ I, I = (h₂.push { cls := .type "dict_items", data := .fields #[.ref dt] }).objs.size := ⟨_, rfl⟩
  have hit := Heap.get?_push_size (h₂.push { cls := .type "dict_items", data := .fields #[.ref dt] }) (o := { cls := .type "dict_itemiterator", data := .fields #[.none, .bool false, .ref dt, .int 0 0, .int (xs.map (entryOfKey (triKind Pr w x))).toArray.size 0, .int ept 0, .none, .none] }) rfl
  have F3 := (F2.push { cls := .type "dict_items", data := .fields #[.ref dt] }).push { cls := .type "dict_itemiterator", data := .fields #[.none, .bool false, .ref dt, .int 0 0, .int (xs.map (entryOfKey (triKind Pr w x))).toArray.size 0, .int ept 0, .none, .none] }
  have hD3 : ((h₂.push { cls := .type "dict_items", data := .fields #[.ref dt] }).push { cls := .type "dict_itemiterator", data := .fields #[.none, .bool false, .ref dt, .int 0 0, .int (xs.map (entryOfKey (triKind Pr w x))).toArray.size 0, .int ept 0, .none, .none] }).DictOfH (triKind Pr w x) D [] :=
    dictH_ext hD2 fun b o e => Heap.get?_push_of_some _ (Heap.get?_push_of_some _ e)
  have hIL : I ≠ s.heap.objs.size := by rw [hI, Heap.size_push]; exact Nat.ne_of_gt (Nat.lt_succ_of_lt F2.ns.lt)
  have hI0 : s.heap.get? I = none := fresh (by rw [hI, Heap.size_push]; exact Nat.le_of_lt (Nat.lt_succ_of_lt (frSize F2)))
  have hID : I ≠ D := by
    obtain ⟨o, _, _, ho, _⟩ := hD2
    rw [hI, Heap.size_push]; exact Nat.ne_of_gt (Nat.lt_succ_of_lt (Heap.lt_size ho))
  dsimp only at hit F3 hD3 ⊢
  rw [← hI] at hit ⊢
  rw [hszt] at hit F3 hD3 ⊢
  generalize (h₂.push { cls := .type "dict_items", data := .fields #[.ref dt] }).push { cls := .type "dict_itemiterator", data := .fields #[.none, .bool false, .ref dt, .int 0 0, .int xs.length 0, .int ept 0, .none, .none] } = H at hit F3 hD3 ⊢
  refine copy_loop (acc := []) (xs := xs) (D := D) (L := s.heap.objs.size) r.1 rfl rfl rfl rfl ht het hD0 hDL hI0 hIL hID (by simpa using (List.nodup_append.mp hnd).1) hit F3 hD3 ?_ ?_
  · intro k a v acc h tk m' E' hk hal hmem hkey F' hf hc hm' hd'
    refine wpAny_execs_cons (wpAny_Assign_Subscript (wpAny_Name (wpAny_loadName_local rfl rfl F'.ns hc (wpAny_Name (wpAny_loadName_local rfl rfl F'.ns (E hm' (by decide) (by decide) (if_pos rfl)) (wpAny_Name (wpAny_loadName_local rfl rfl F'.ns hf ?_)))))))
    refine wpAny_setItem_heap (hsz := by rw [sizeLine_eq]; simp at hal; omega) (triKind_room r'.less.units) hkey hd' fun h'' hd'' hs'' => wpAny_execs_nil ⟨rfl, h'', _, rfl, ?_, hs''.extBut⟩
    rw [storedH_new (atKey_none hk)] at hd''
    exact hd''
  intro h₄ tk₄ m₄ F4 hm4 hD4
  rw [List.nil_append] at hD4
  -- the second loop
  refine wpAny_execs_cons (wpAny_For (call_items (d := ds) hss (hes.at fun o e => F4.keep ds o e) rfl rfl (fun Q' q => wpAny_Name (wpAny_loadName_local rfl rfl F4.ns (E hm4 (by decide) (by decide) rfl) q)) ?_))
  refine iter_items (d := ds) (ep := eps) ⟨_, Heap.get?_push_size _ rfl, rfl, rfl⟩ ((hes.at fun o e => F4.keep ds o e).at fun o e => Heap.get?_push_of_some _ e) ?_
  obtain ⟨J, hJ⟩ : ∃ I, I = (h₄.push { cls := .type "dict_items", data := .fields #[.ref ds] }).objs.size := ⟨_, rfl⟩
  have hit5 := Heap.get?_push_size (h₄.push { cls := .type "dict_items", data := .fields #[.ref ds] }) (o := { cls := .type "dict_itemiterator", data := .fields #[.none, .bool false, .ref ds, .int 0 0, .int (ys.map (entryOfKey (triKind Pr w x))).toArray.size 0, .int eps 0, .none, .none] }) rfl
  have F5 := (F4.push { cls := .type "dict_items", data := .fields #[.ref ds] }).push { cls := .type "dict_itemiterator", data := .fields #[.none, .bool false, .ref ds, .int 0 0, .int (ys.map (entryOfKey (triKind Pr w x))).toArray.size 0, .int eps 0, .none, .none] }
  have hD5 : ((h₄.push { cls := .type "dict_items", data := .fields #[.ref ds] }).push { cls := .type "dict_itemiterator", data := .fields #[.none, .bool false, .ref ds, .int 0 0, .int (ys.map (entryOfKey (triKind Pr w x))).toArray.size 0, .int eps 0, .none, .none] }).DictOfH (triKind Pr w x) D xs :=
    dictH_ext hD4 fun b o e => Heap.get?_push_of_some _ (Heap.get?_push_of_some _ e)
  have hJL : J ≠ s.heap.objs.size := by rw [hJ, Heap.size_push]; exact Nat.ne_of_gt (Nat.lt_succ_of_lt F4.ns.lt)
  have hJ0 : s.heap.get? J = none := fresh (by rw [hJ, Heap.size_push]; exact Nat.le_of_lt (Nat.lt_succ_of_lt (frSize F4)))
  have hJD : J ≠ D := by
    obtain ⟨o, _, _, ho, _⟩ := hD4
    rw [hJ, Heap.size_push]; exact Nat.ne_of_gt (Nat.lt_succ_of_lt (Heap.lt_size ho))
  dsimp only at hit5 F5 hD5 ⊢
  rw [← hJ] at hit5 ⊢
  rw [hszs] at hit5 F5 hD5 ⊢
  generalize (h₄.push { cls := .type "dict_items", data := .fields #[.ref ds] }).push { cls := .type "dict_itemiterator", data := .fields #[.none, .bool false, .ref ds, .int 0 0, .int ys.length 0, .int eps 0, .none, .none] } = H' at hit5 F5 hD5 ⊢
  refine copy_loop (acc := xs) (xs := ys) (D := D) (L := s.heap.objs.size) r.1 rfl rfl rfl rfl hs hes hD0 hDL hJ0 hJL hJD hnd hit5 F5 hD5 ?_ ?_
  · intro k a v acc h tk m' E' hk hal hmem hkey F' hf hc hm' hd'
    have hnc := E hm' (y := Str.ofString "new_callers") (by decide) (by decide) (E hm4 (by decide) (by decide) (if_pos rfl))
    refine wpAny_execs_cons (wpAny_If (wpAny_isTrue_Compare1 (wpAny_Name (wpAny_loadName_local rfl rfl F'.ns hf (wpAny_Name (wpAny_loadName_local rfl rfl F'.ns hnc ?_))))))
    refine wpAny_in_heap (triKind_room r'.less.units) hkey hDsys hd' ?_
    rw [atKey_none hk]
    refine wpAny_truthy_bool ?_
    refine wpAny_execs_cons (wpAny_Assign_Subscript (wpAny_Name (wpAny_loadName_local rfl rfl F'.ns hc (wpAny_Name (wpAny_loadName_local rfl rfl F'.ns hnc (wpAny_Name (wpAny_loadName_local rfl rfl F'.ns hf ?_)))))))
    refine wpAny_setItem_heap (hsz := by rw [sizeLine_eq]; omega) (triKind_room r'.less.units) hkey hd' fun h'' hd'' hs'' => wpAny_execs_nil (wpAny_execs_nil ⟨rfl, h'', _, rfl, ?_, hs''.extBut⟩)
    rw [storedH_new (atKey_none hk)] at hd''
    exact hd''
  intro h₆ tk₆ m₆ F6 hm6 hD6
  have hnc := E hm6 (y := Str.ofString "new_callers") (by decide) (by decide) (E hm4 (by decide) (by decide) (if_pos rfl))
  refine wpAny_execs_cons (wpAny_Return_some (wpAny_Name (wpAny_loadName_local rfl rfl F6.ns hnc ?_)))
  exact hR D h₆ tk₆ F6.keep hDle hD6
end
end Mine

namespace Mine

abbrev CompE (elt : PySem.Expr) (gens : List Comprehension) (scope : Scope) (pos : Pos) : PySem.Expr := .ListComp elt gens scope pos

theorem turn_last {elt : PySem.Expr} {gens : List Comprehension} {scope : Scope} {pos : Pos} {d : Nat} {target iter : PySem.Expr} {ifs : List PySem.Expr} (it acc : Value) (env : Env) (hg : gens[d]? = some ⟨target, iter, ifs, 0⟩) (hl : gens[d + 1]? = none) :
    compTurn (.ListComp elt gens scope pos) d it acc env = (do
      standAt iter.pos
      match ← pyNext it with
      | none => pure (.done .next)
      | some v =>
        letOwnedTupleGo target it v
        assign target env v
        let mut ok := true
        for c in ifs do
          if ok then ok ← isTrue c env (eval c env)
        if ok then
          (do let _ ← call (.builtin "list.append") [acc, ← eval elt env])
        again (.compLoop (.ListComp elt gens scope pos) d it acc env)) := by
  unfold compTurn
  simp only [hg, hl]
  rfl

theorem turn_more {elt : PySem.Expr} {gens : List Comprehension} {scope : Scope} {pos : Pos} {d : Nat} {target iter t' i' : PySem.Expr} {ifs fs' : List PySem.Expr} (it acc : Value) (env : Env) (hg : gens[d]? = some ⟨target, iter, ifs, 0⟩) (hl : gens[d + 1]? = some ⟨t', i', fs', 0⟩) :
    compTurn (.ListComp elt gens scope pos) d it acc env = (do
      standAt iter.pos
      match ← pyNext it with
      | none => pure (.done .next)
      | some v =>
        letOwnedTupleGo target it v
        assign target env v
        let mut ok := true
        for c in ifs do
          if ok then ok ← isTrue c env (eval c env)
        if ok then
          let x ← eval i' env
          standAt i'.pos
          let x ← foldedSetIterable i' env x
          let _ ← runOwn (.compStart (.ListComp elt gens scope pos) (d + 1) (← holding [x] (pyIter x)) acc env) env
        again (.compLoop (.ListComp elt gens scope pos) d it acc env)) := by
  unfold compTurn
  simp only [hg, hl]
  rfl

section
variable {prog : Program} {w : World} {A : Around} {E : Value → Shared → Prop} {R : Result → Shared → Prop} {s : Shared}

abbrev tests (ifs : List PySem.Expr) (env : Env) : Sem Bool := forIn ifs true fun c r => if r = true then do let ok ← isTrue c env (eval c env); pure (ForInStep.yield ok) else pure (ForInStep.yield r)

/-- what a turn of a clause may raise: nothing here is ever asked of it -/
abbrev NB (w : World) (prog : Program) (A : Around) (env : Env) (R : Result → Shared → Prop) : Value → Shared → Prop := notedBy (model prog w) A env fun e s' => R (.error e) s'

theorem loop_last {elt : PySem.Expr} {gens : List Comprehension} {scope : Scope} {pos : Pos} {d : Nat} {target iter : PySem.Expr} {ifs : List PySem.Expr} {it acc : Value} {env : Env}
    (hg : gens[d]? = some ⟨target, iter, ifs, 0⟩) (hl : gens[d + 1]? = none) (I : Nat → Shared → Prop)
    (turn : ∀ n s E, I n s → wpAny (model prog w) A (pyNext it) (fun r s₁ => match r with
      | none => R (.ok .next) s₁
      | some v => wpAny (model prog w) A (letOwnedTupleGo target it v) (fun _ s₁' => wpAny (model prog w) A (assign target env v) (fun _ s₂ =>
          wpAny (model prog w) A (tests ifs env) (fun ok s₃ =>
            if ok = true then wpAny (model prog w) A (eval elt env) (fun x s₄ =>
              wpAny (model prog w) A (call (.builtin "list.append") [acc, x]) (fun _ s₅ => ∃ m, m < n ∧ I m s₅) E s₄) E s₃
            else ∃ m, m < n ∧ I m s₃) E s₂) E s₁') E s₁) E s)
    (n : Nat) (h : I n s) :
    codeAny (model prog w) A (.compLoop (.ListComp elt gens scope pos) d it acc env) R s := by
  refine codeAny_loop rfl I (fun n s hI => ?_) n h
  show wpAny _ A ((compTurn (.ListComp elt gens scope pos) d it acc env).onRaise (fun x => do noteFrame x env; theTreesLotGoes x)) _ _ s
  refine wpAny_noted ?_
  rw [turn_last it acc env hg hl]
  refine wpAny_bind (wpAny_standAt (wpAny_bind (wpAny_mono (turn n s _ hI) (fun r s₁ h₁ => ?_) fun _ _ h' => h')))
  cases r with
  | none => exact wpAny_pure h₁
  | some v =>
    refine wpAny_bind (wpAny_mono h₁ (fun _ s₁' h₁' => ?_) fun _ _ h' => h')
    refine wpAny_bind (wpAny_mono h₁' (fun _ s₂ h₂ => wpAny_bind (wpAny_mono h₂ (fun ok s₃ h₃ => ?_) fun _ _ h' => h')) fun _ _ h' => h')
    cases ok with
    | false => exact wpAny_pure ⟨rfl, h₃⟩
    | true =>
      exact wpAny_bind (wpAny_bind (wpAny_mono h₃ (fun x s₄ h₄ => wpAny_bind (wpAny_mono h₄ (fun _ s₅ h₅ => wpAny_pure (wpAny_pure ⟨rfl, h₅⟩)) fun _ _ h' => h')) fun _ _ h' => h'))

theorem loop_more {elt : PySem.Expr} {gens : List Comprehension} {scope : Scope} {pos : Pos} {d : Nat} {target iter t' i' : PySem.Expr} {ifs fs' : List PySem.Expr} {it acc : Value} {env : Env}
    (hg : gens[d]? = some ⟨target, iter, ifs, 0⟩) (hl : gens[d + 1]? = some ⟨t', i', fs', 0⟩) (I : Nat → Shared → Prop) (hs : ∀ x, foldedSetIterable i' env x = pure x)
    (turn : ∀ n s E, I n s → wpAny (model prog w) A (pyNext it) (fun r s₁ => match r with
      | none => R (.ok .next) s₁
      | some v => wpAny (model prog w) A (letOwnedTupleGo target it v) (fun _ s₁' => wpAny (model prog w) A (assign target env v) (fun _ s₂ =>
          wpAny (model prog w) A (tests ifs env) (fun ok s₃ =>
            if ok = true then wpAny (model prog w) A (eval i' env) (fun x s₄ => wpAny (model prog w) A (pyIter x) (fun it' s₅ =>
              codeAny (model prog w) A (.compStart (.ListComp elt gens scope pos) (d + 1) it' acc env) (fun r s₆ => match r with | .ok _ => ∃ m, m < n ∧ I m s₆ | .error e => cameBackBy (model prog w) A env E e s₆) s₅) E s₄) E s₃
            else ∃ m, m < n ∧ I m s₃) E s₂) E s₁') E s₁) E s)
    (n : Nat) (h : I n s) :
    codeAny (model prog w) A (.compLoop (.ListComp elt gens scope pos) d it acc env) R s := by
  refine codeAny_loop rfl I (fun n s hI => ?_) n h
  show wpAny _ A ((compTurn (.ListComp elt gens scope pos) d it acc env).onRaise (fun x => do noteFrame x env; theTreesLotGoes x)) _ _ s
  refine wpAny_noted ?_
  rw [turn_more it acc env hg hl]
  refine wpAny_bind (wpAny_standAt (wpAny_bind (wpAny_mono (turn n s _ hI) (fun r s₁ h₁ => ?_) fun _ _ h' => h')))
  cases r with
  | none => exact wpAny_pure h₁
  | some v =>
    refine wpAny_bind (wpAny_mono h₁ (fun _ s₁' h₁' => ?_) fun _ _ h' => h')
    refine wpAny_bind (wpAny_mono h₁' (fun _ s₂ h₂ => wpAny_bind (wpAny_mono h₂ (fun ok s₃ h₃ => ?_) fun _ _ h' => h')) fun _ _ h' => h')
    cases ok with
    | false => exact wpAny_pure ⟨rfl, h₃⟩
    | true =>
      refine wpAny_bind (wpAny_mono h₃ (fun x s₄ h₄ => wpAny_bind (wpAny_standAt (wpAny_bind (wpAny_of_eq (hs x) (wpAny_bind (wpAny_holding (wpAny_mono h₄ (fun it' s₅ h₅ => wpAny_bind (wpAny_runOwn (codeAny_mono h₅ fun r s₆ h₆ => ?_))) fun _ _ h' => h'))))))) fun _ _ h' => h')
      cases r with
      | ok f => exact wpAny_pure ⟨rfl, h₆⟩
      | error e => exact h₆

theorem start_at {elt : PySem.Expr} {gens : List Comprehension} {scope : Scope} {pos : Pos} {d : Nat} {target iter : PySem.Expr} {ifs : List PySem.Expr} {it acc : Value} {env : Env}
    (hg : gens[d]? = some ⟨target, iter, ifs, 0⟩)
    (h0 : codeAny (model prog w) A (.compLoop (.ListComp elt gens scope pos) d it acc env) R s)
    (h : ∀ E (Q : Value → Shared → Prop), Q it s → wpAny (model prog w) A (pyIter it) Q E s) :
    codeAny (model prog w) A (.compStart (.ListComp elt gens scope pos) d it acc env) R s := by
  refine codeAny_of_tree ?_
  show wpAny _ A ((compStart (.ListComp elt gens scope pos) d it acc env).onRaise (fun x => do noteFrame x env; standAt theWindowsPlace)) _ _ s
  refine wpAny_notedAt ?_
  unfold compStart
  have hcl : (clausesOf (.ListComp elt gens scope pos))[d]? = some ⟨target, iter, ifs, 0⟩ := hg
  rw [hcl]
  show wpAny _ _ (ask >>= _) _ _ s
  refine wpAny_bind (wpAny_askSetting (wpAny_ite ?_))
  split
  · exact wpAny_pure ⟨rfl, h0⟩
  · exact wpAny_bind (wpAny_rule (wpAny_bind (wpAny_standAt (wpAny_bind (h _ _ (wpAny_pure ⟨rfl, h0⟩))))))
end
end Mine

namespace Mine

section
variable {prog : Program} {w : World} {A : Around} {E : Value → Shared → Prop} {s : Shared}

/-- what is left of a comprehension when its list D and its frame C are laid: its loop, from there -/
def CompGoal (prog : Program) (w : World) (A : Around) (scope : Scope) (cl : List (Str × Addr)) (env : Env) (elt : PySem.Expr) (gens : List Comprehension) (pos : Pos) (it : Value) (s₂ : Shared) (fin : Addr → Addr → Result → Shared → Prop → Prop) : Prop :=
  ∀ D C h₁ tk (R : Result → Shared → Prop), D = s₂.heap.objs.size → C = D + 1 → C + 1 = h₁.objs.size → h₁.PlainList D #[] → h₁.Ns C (fun _ => none) → (∀ b o, s₂.heap.get? b = some o → h₁.get? b = some o) →
    (∀ s', fin D C (.ok .next) s' (R (.ok .next) s')) →
    (∀ (E : Value → Shared → Prop) (Q : Value → Shared → Prop), Q it { s₂ with heap := h₁, toks := tk } → wpAny (model prog w) A (pyIter it) Q E { s₂ with heap := h₁, toks := tk }) ∧
    codeAny (model prog w) A (.compLoop (.ListComp elt gens scope pos) 0 it (.ref D) (compEnvC scope cl C env)) R { s₂ with heap := h₁, toks := tk }

/-- the end of a comprehension's value -/
abbrev finE (Q : Value → Shared → Prop) : Addr → Addr → Result → Shared → Prop → Prop :=
  fun D C _ s' r => ∀ m, s'.heap.Ns C m → (∀ h', Heap.SameBut C s'.heap h' → Q (.ref D) { s' with heap := h' }) → r
/-- the end of a comprehension whose list goes to a name -/
abbrev finA (w : World) (prog : Program) (A : Around) (env : Env) (y : Str) (py : Pos) (E : Value → Shared → Prop) (Q : Flow → Shared → Prop) : Addr → Addr → Result → Shared → Prop → Prop :=
  fun D C _ s' r => wpAny (model prog w) A (storeName env y (.ref D)) (fun _ s'' => ∃ m, s''.heap.Ns C m ∧ ∀ h', Heap.SameBut C s''.heap h' → Q .next { s'' with heap := h' }) E s' → r

theorem comp_block {elt target iter : PySem.Expr} {ifs : List PySem.Expr} {rest : List Comprehension} {scope : Scope} {pos : Pos} {cl : List (Str × Addr)} {env : Env} {it : Value} {fin : Addr → Addr → Result → Shared → Prop → Prop} {P : Addr → Addr → Result → Shared → Prop}
    (hcell : ∀ y ∈ scope.names, y.2 ≠ .cell) (hkind : scope.kind = .function)
    (h : CompGoal prog w A scope cl env elt (⟨target, iter, ifs, 0⟩ :: rest) pos it s fin)
    (hP : ∀ D C s', fin D C (.ok .next) s' (P D C (.ok .next) s')) :
    wpAny (model prog w) A (newList []) (fun acc s₃ => wpAny (model prog w) A (newFunctionEnv scope env.globals cl [] env.qual none .none (some env)) (fun cenv s₄ =>
      codeAny (model prog w) A (.compStart (.ListComp elt (⟨target, iter, ifs, 0⟩ :: rest) scope pos) 0 it acc { cenv with scope := relabel scope env }) (fun r s' => ∃ D, acc = .ref D ∧ P D cenv.locals r s') s₄) E s₃) E s := by
  refine wpAny_newObj_type (wpAny_newFunctionEnv hcell (by intro y hy; simp at hy) (fun h₁ hns₁ hsb₁ => ?_) hkind)
  dsimp only at hns₁ hsb₁ ⊢
  generalize hH2 : s.heap.push { cls := .type "list", dict := none, data := .seq ([] : List Value).toArray } = H2 at hns₁ hsb₁ ⊢
  have hC : H2.objs.size = s.heap.objs.size + 1 := by rw [← hH2, Heap.size_push]
  have old : ∀ b o, s.heap.get? b = some o → h₁.get? b = some o := fun b o e => hsb₁.extBut b o (by rw [hC]; exact Nat.ne_of_lt (Nat.lt_succ_of_lt (Heap.lt_size e))) (Heap.get?_push_of_some _ (hH2 ▸ Heap.get?_push_of_some _ e))
  have hacc : h₁.PlainList s.heap.objs.size #[] := ⟨_, hsb₁.extBut _ _ (by rw [hC]; exact Nat.ne_of_lt (Nat.lt_succ_self _)) (Heap.get?_push_of_some _ (hH2 ▸ Heap.get?_push_size _ rfl))⟩
  have hz : H2.objs.size + 1 = h₁.objs.size := by rw [hsb₁.1, Heap.size_push]
  obtain ⟨g1, g2⟩ := h s.heap.objs.size H2.objs.size h₁ _ (fun r s' => ∃ D, Value.ref s.heap.objs.size = .ref D ∧ P D H2.objs.size r s') rfl hC hz hacc hns₁ old
    (fun s' => by
      have := hP s.heap.objs.size H2.objs.size s'
      have e : (∃ D, Value.ref s.heap.objs.size = .ref D ∧ P D H2.objs.size (.ok .next) s') = P s.heap.objs.size H2.objs.size (.ok .next) s' := by
        apply propext
        constructor
        · rintro ⟨D, hD, p⟩
          cases hD; exact p
        · exact fun p => ⟨_, rfl, p⟩
      rw [e]; exact this)
  exact start_at (d := 0) rfl g2 g1

theorem comp_eval {elt target iter : PySem.Expr} {ifs : List PySem.Expr} {rest : List Comprehension} {scope : Scope} {pos : Pos} {cl : List (Str × Addr)} {env : Env} {Q : Value → Shared → Prop}
    (hclos : closureFor scope env = pure cl) (hcell : ∀ y ∈ scope.names, y.2 ≠ .cell) (hkind : scope.kind = .function)
    (hnames : ∀ y ∈ scope.names, y.2 = .local → scope.names.lookup y.1 = some .local) (hs : ∀ x, foldedSetIterable iter env x = pure x)
    (h : wpAny (model prog w) A (eval iter env) (fun xv s₁ => wpAny (model prog w) A (pyIter xv) (fun it s₂ => CompGoal prog w A scope cl env elt (⟨target, iter, ifs, 0⟩ :: rest) pos it s₂ (finE Q)) E s₁) E s) :
    wpAny (model prog w) A (eval (.ListComp elt (⟨target, iter, ifs, 0⟩ :: rest) scope pos) env) Q E s := by
  rw [eval_ListComp]
  refine wpAny_comprehension_free (use := none) rfl hs hclos hkind hnames (wpAny_mono h (fun xv s₁ h₁ => wpAny_mono h₁ (fun it s₂ h₂ => ?_) fun _ _ e => e) fun _ _ e => e)
  refine wpAny_mono (comp_block (P := fun D C => compPost (model prog w) A E none Q (.ref D) C) hcell hkind h₂ ?_) (fun acc s₃ h₃ => wpAny_mono h₃ (fun cenv s₄ h₄ => codeAny_mono h₄ fun r s' hr => ?_) fun _ _ e => e) fun _ _ e => e
  · intro D C s' m hn hq
    exact ⟨m, hn, hq⟩
  · obtain ⟨D, rfl, hr⟩ := hr
    exact hr

theorem comp_assign {elt target iter : PySem.Expr} {ifs : List PySem.Expr} {rest : List Comprehension} {scope : Scope} {pos spos py : Pos} {y : Str} {cl : List (Str × Addr)} {env : Env} {Q : Flow → Shared → Prop}
    (hsw : swapsWith (.ListComp elt (⟨target, iter, ifs, 0⟩ :: rest) scope pos) (some (.Name y py)) spos.line env = pure true)
    (hclos : closureFor scope env = pure cl) (hcell : ∀ y ∈ scope.names, y.2 ≠ .cell) (hkind : scope.kind = .function)
    (hnames : ∀ y ∈ scope.names, y.2 = .local → scope.names.lookup y.1 = some .local) (hs : ∀ x, foldedSetIterable iter env x = pure x)
    (h : wpAny (model prog w) A (eval iter env) (fun xv s₁ => wpAny (model prog w) A (pyIter xv) (fun it s₂ => CompGoal prog w A scope cl env elt (⟨target, iter, ifs, 0⟩ :: rest) pos it s₂ (finA w prog A env y py E Q)) E s₁) E s) :
    wpAny (model prog w) A (exec (.Assign [.Name y py] (.ListComp elt (⟨target, iter, ifs, 0⟩ :: rest) scope pos) spos) env) Q E s := by
  rw [exec_Assign_Name_used _ _ _ _ hsw]
  refine wpAny_bind (wpAny_standAt (wpAny_bind ?_))
  show wpAny _ A (do let _ ← comprehension (.ListComp elt (⟨target, iter, ifs, 0⟩ :: rest) scope pos) scope env _ (newList []) false (eval iter env) (some (assign (.Name y py) env))) _ _ s
  refine wpAny_bind (wpAny_mono (wpAny_comprehension_free (use := some (assign (.Name y py) env)) (Q := fun _ s' => Q .next s') rfl hs hclos hkind hnames (wpAny_mono h (fun xv s₁ h₁ => wpAny_mono h₁ (fun it s₂ h₂ => ?_) fun _ _ e => e) fun _ _ e => e))
    (fun _ s' hq => wpAny_pure (wpAny_pure hq)) fun _ _ e => e)
  refine wpAny_mono (comp_block (P := fun D C => compPost (model prog w) A E (some (assign (.Name y py) env)) (fun _ s' => Q .next s') (.ref D) C) hcell hkind h₂ ?_) (fun acc s₃ h₃ => wpAny_mono h₃ (fun cenv s₄ h₄ => codeAny_mono h₄ fun r s' hr => ?_) fun _ _ e => e) fun _ _ e => e
  · intro D C s' hq
    exact wpAny_assign_Name hq
  · obtain ⟨D, rfl, hr⟩ := hr
    exact hr
end
end Mine

namespace Mine

def Off (bad : List Addr) (h h' : Heap) : Prop := ∀ b o, b ∉ bad → h.get? b = some o → h'.get? b = some o
theorem Off.refl (bad : List Addr) (h : Heap) : Off bad h h := fun _ _ _ e => e
theorem Off.trans {bad : List Addr} {h h' h'' : Heap} (a : Off bad h h') (b : Off bad h' h'') : Off bad h h'' := fun x o hx e => b x o hx (a x o hx e)
theorem Off.sub {bad bad' : List Addr} {h h' : Heap} (a : Off bad h h') (k : ∀ b ∈ bad, b ∈ bad') : Off bad' h h' := fun x o hx e => a x o (fun q => hx (k x q)) e
theorem Off.ext {bad : List Addr} {h h' : Heap} (k : ∀ b o, h.get? b = some o → h'.get? b = some o) : Off bad h h' := fun x o _ e => k x o e

/-- what stands behind the binding of a clause's target: the frame's map m₂, all else kept -/
def Bound (C : Addr) (s₁ : Shared) (m₂ : Str → Option Value) (s₂ : Shared) : Prop :=
  ∃ h₂ tk₂, s₂ = { s₁ with heap := h₂, toks := tk₂ } ∧ h₂.Ns C m₂ ∧ ∀ b o, b ≠ C → s₁.heap.get? b = some o → h₂.get? b = some o

section
variable {prog : Program} {w : World} {A : Around} {R : Result → Shared → Prop} {s : Shared}

theorem level_last {elt : PySem.Expr} {gens : List Comprehension} {scope : Scope} {pos : Pos} {d : Nat} {target iter : PySem.Expr} {ifs : List PySem.Expr} {cenv : Env} {I D C : Addr} {fp wr : List Addr} {n : Nat} {P Md : Nat → Value → Heap → Prop} {St : Nat → Heap → Prop} {ys₀ : List Value} {m₀ : Str → Option Value}
    (hg : gens[d]? = some ⟨target, iter, ifs, 0⟩) (hl : gens[d + 1]? = none) (hC : cenv.locals = C) (W : KTurns prog w A target I fp wr n P Md St) (hlive : ∀ i h, St i h → ∀ b ∈ wr, ∃ o, h.get? b = some o)
    (hCf : C ∉ fp) (hDf : D ∉ fp) (hDC : D ≠ C) (Φ : Nat → List Value → (Str → Option Value) → Heap → Prop)
    (stab : ∀ i ys m h h', Φ i ys m h → Off (C :: D :: wr) h h' → Φ i ys m h')
    (hst : St 0 s.heap) (hacc : s.heap.PlainList D ys₀.toArray) (hn : s.heap.Ns C m₀) (h0 : Φ 0 ys₀ m₀ s.heap) (hlen : ys₀.length + n ≤ sizeLine)
    (turn : ∀ i v (ys : List Value) m s₁ E, i < n → P i v s₁.heap → Φ i ys m s₁.heap → s₁.heap.Ns C m → (∀ b ∈ C :: D :: wr, ∃ o, s₁.heap.get? b = some o) → Off (C :: D :: wr) s.heap s₁.heap →
      wpAny (model prog w) A (assign target cenv v) (fun _ s₂ => ∃ m₂, Bound C s₁ m₂ s₂ ∧
        wpAny (model prog w) A (tests ifs cenv) (fun ok s₃ => Keeps s₂ s₃ ∧ if ok = true then wpAny (model prog w) A (eval elt cenv) (fun y s₄ => Keeps s₃ s₄ ∧ Φ (i + 1) (ys ++ [y]) m₂ s₄.heap) E s₃ else Φ (i + 1) ys m₂ s₃.heap) E s₂) E s₁)
    (done : ∀ h' tk m ys, Φ n ys m h' → h'.PlainList D ys.toArray → h'.Ns C m → Off (C :: D :: wr) s.heap h' → R (.ok .next) { s with heap := h', toks := tk }) :
    codeAny (model prog w) A (.compLoop (.ListComp elt gens scope pos) d (.ref I) (.ref D) cenv) R s := by
  subst hC
  have hCw : cenv.locals ∉ wr := fun h => hCf (W.sub _ h)
  have hDw : D ∉ wr := fun h => hDf (W.sub _ h)
  refine loop_last hg hl (fun k s' => ∃ h' tk m ys i, s' = { s with heap := h', toks := tk } ∧ St i h' ∧ h'.PlainList D ys.toArray ∧ h'.Ns cenv.locals m ∧ Φ i ys m h' ∧ Off (cenv.locals :: D :: wr) s.heap h' ∧ i ≤ n ∧ ys.length ≤ ys₀.length + i ∧ k = n + 1 - i) ?_ (n + 1)
    ⟨s.heap, s.toks, m₀, ys₀, 0, rfl, hst, hacc, hn, h0, Off.refl _ _, Nat.zero_le _, Nat.le_refl _, rfl⟩
  rintro k s' E ⟨h', tk, m, ys, i, rfl, hst', hacc', hn', hΦ, hoff, hi, hyl, rfl⟩
  by_cases hlt : i < n
  · refine W.item i _ _ _ hlt hst' fun v h₁ tk₁ hMd hk₁ => ?_
    refine W.go i v _ _ _ hMd fun h₂ hP hst₂ hk₂ => ?_
    have k₂ : ∀ b o, b ∉ wr → h'.get? b = some o → h₂.get? b = some o := fun b o hb e => hk₂ b o hb (hk₁ b o hb e)
    have o₂ : Off (cenv.locals :: D :: wr) h' h₂ := fun b o hb e => k₂ b o (fun q => hb (List.mem_cons_of_mem _ (List.mem_cons_of_mem _ q))) e
    have hn₂ : h₂.Ns cenv.locals m := hn'.at' fun o e => k₂ _ o hCw e
    have hacc₂ : h₂.PlainList D ys.toArray := hacc'.at fun o e => k₂ _ o hDw e
    have hlv : ∀ b ∈ cenv.locals :: D :: wr, ∃ o, h₂.get? b = some o := by
      intro b hb
      rcases List.mem_cons.mp hb with rfl | hb
      · obtain ⟨o, _, _, ho, _⟩ := hn₂; exact ⟨o, ho⟩
      · rcases List.mem_cons.mp hb with rfl | hb
        · obtain ⟨_, ho⟩ := hacc₂; exact ⟨_, ho⟩
        · exact hlive _ _ hst₂ b hb
    refine wpAny_mono (turn i v ys m _ E hlt hP (stab _ _ _ _ _ hΦ o₂) hn₂ hlv (hoff.trans o₂)) (fun _ s₃ h₃ => ?_) fun _ _ e => e
    obtain ⟨m₃, ⟨h₃, tk₃, rfl, hn₃, hk₃⟩, ht⟩ := h₃
    refine wpAny_mono ht (fun ok s₄ h₄ => ?_) fun _ _ e => e
    obtain ⟨⟨h₄, tk₄, rfl, hk₄⟩, h₄'⟩ := h₄
    have o₄ : Off (cenv.locals :: D :: wr) h₂ h₄ := fun b o hb e => hk₄ b o (hk₃ b o (fun q => hb (q ▸ List.mem_cons_self)) e)
    have hst₄ : St (i + 1) h₄ := W.frame _ _ _ hst₂ fun b hb o e => hk₄ b o (hk₃ b o (fun q => hCf (q ▸ hb)) e)
    have hacc₄ : h₄.PlainList D ys.toArray := hacc₂.at fun o e => hk₄ _ o (hk₃ _ o hDC e)
    have hn₄ := hn₃.keeps hk₄
    cases ok with
    | false =>
      simp only [Bool.false_eq_true, if_false] at h₄' ⊢
      exact ⟨n + 1 - (i + 1), by omega, h₄, tk₄, m₃, ys, i + 1, rfl, hst₄, hacc₄, hn₄, h₄', (hoff.trans o₂).trans o₄, hlt, by omega, rfl⟩
    | true =>
      simp only [if_true] at h₄' ⊢
      refine wpAny_mono h₄' (fun y s₅ h₅ => ?_) fun _ _ e => e
      obtain ⟨⟨h₅, tk₅, rfl, hk₅⟩, hΦ₅⟩ := h₅
      refine wpAny_list_append_plain (hsz := by rw [List.size_toArray]; omega) (hacc₄.at fun o e => hk₅ _ o e) fun h₆ hl₆ hs₆ => ?_
      have o₆ : Off (cenv.locals :: D :: wr) h₅ h₆ := fun b o hb e => hs₆.extBut b o (fun q => hb (q ▸ List.mem_cons_of_mem _ List.mem_cons_self)) e
      refine ⟨n + 1 - (i + 1), by omega, h₆, tk₅, m₃, ys ++ [y], i + 1, rfl, ?_, ?_, (hn₄.keeps hk₅).sameBut hs₆ (Ne.symm hDC), stab _ _ _ _ _ hΦ₅ o₆, ((hoff.trans o₂).trans o₄).trans ((Off.ext hk₅).trans o₆), hlt, by rw [List.length_append, List.length_singleton]; omega, rfl⟩
      · exact W.frame _ _ _ hst₄ fun b hb o e => hs₆.extBut b o (fun q => hDf (q ▸ hb)) (hk₅ b o e)
      · simpa using hl₆
  · have hin : i = n := by omega
    subst hin
    refine W.done _ _ _ hst' fun h₁ tk₁ hk₁ => ?_
    have o₁ : Off (cenv.locals :: D :: wr) h' h₁ := fun b o hb e => hk₁ b o (fun q => hb (List.mem_cons_of_mem _ (List.mem_cons_of_mem _ q))) e
    exact done h₁ tk₁ m ys (stab _ _ _ _ _ hΦ o₁) (hacc'.at fun o e => hk₁ _ o hDw e) (hn'.at' fun o e => hk₁ _ o hCw e) (hoff.trans o₁)

theorem level_more {elt : PySem.Expr} {gens : List Comprehension} {scope : Scope} {pos : Pos} {d : Nat} {target iter t' i' : PySem.Expr} {ifs' : List PySem.Expr} {cenv : Env} {I D C : Addr} {fp wr : List Addr} {n : Nat} {P Md : Nat → Value → Heap → Prop} {St : Nat → Heap → Prop} {ys₀ : List Value} {m₀ : Str → Option Value}
    (hg : gens[d]? = some ⟨target, iter, [], 0⟩) (hl : gens[d + 1]? = some ⟨t', i', ifs', 0⟩) (hC : cenv.locals = C) (hs : ∀ x, foldedSetIterable i' cenv x = pure x) (W : KTurns prog w A target I fp wr n P Md St) (hlive : ∀ i h, St i h → ∀ b ∈ fp, ∃ o, h.get? b = some o)
    (hCf : C ∉ fp) (hDf : D ∉ fp) (hDC : D ≠ C) (Φ : Nat → List Value → (Str → Option Value) → Heap → Prop)
    (stab : ∀ i ys m h h', Φ i ys m h → Off (C :: D :: wr) h h' → Φ i ys m h')
    (hst : St 0 s.heap) (hacc : s.heap.PlainList D ys₀.toArray) (hn : s.heap.Ns C m₀) (h0 : Φ 0 ys₀ m₀ s.heap)
    (turn : ∀ i v (ys : List Value) m s₁ E, i < n → P i v s₁.heap → Φ i ys m s₁.heap → s₁.heap.Ns C m → s₁.heap.PlainList D ys.toArray → (∀ b ∈ C :: D :: fp, ∃ o, s₁.heap.get? b = some o) → Off (C :: D :: wr) s.heap s₁.heap →
      wpAny (model prog w) A (assign target cenv v) (fun _ s₂ => wpAny (model prog w) A (eval i' cenv) (fun x s₄ => wpAny (model prog w) A (pyIter x) (fun it' s₅ =>
        codeAny (model prog w) A (.compStart (.ListComp elt gens scope pos) (d + 1) it' (.ref D) cenv) (fun r s₆ => match r with
          | .ok _ => ∃ h₆ tk₆ m₆ ys₆, s₆ = { s₁ with heap := h₆, toks := tk₆ } ∧ h₆.Ns C m₆ ∧ h₆.PlainList D ys₆.toArray ∧ Φ (i + 1) ys₆ m₆ h₆ ∧ (∀ b o, b ≠ C → b ≠ D → s₁.heap.get? b = some o → h₆.get? b = some o)
          | .error e => cameBackBy (model prog w) A cenv E e s₆) s₅) E s₄) E s₂) E s₁)
    (done : ∀ h' tk m ys, Φ n ys m h' → h'.PlainList D ys.toArray → h'.Ns C m → Off (C :: D :: wr) s.heap h' → R (.ok .next) { s with heap := h', toks := tk }) :
    codeAny (model prog w) A (.compLoop (.ListComp elt gens scope pos) d (.ref I) (.ref D) cenv) R s := by
  subst hC
  have hCw : cenv.locals ∉ wr := fun h => hCf (W.sub _ h)
  have hDw : D ∉ wr := fun h => hDf (W.sub _ h)
  refine loop_more hg hl (fun k s' => ∃ h' tk m ys i, s' = { s with heap := h', toks := tk } ∧ St i h' ∧ h'.PlainList D ys.toArray ∧ h'.Ns cenv.locals m ∧ Φ i ys m h' ∧ Off (cenv.locals :: D :: wr) s.heap h' ∧ i ≤ n ∧ k = n + 1 - i) hs ?_ (n + 1)
    ⟨s.heap, s.toks, m₀, ys₀, 0, rfl, hst, hacc, hn, h0, Off.refl _ _, Nat.zero_le _, rfl⟩
  rintro k s' E ⟨h', tk, m, ys, i, rfl, hst', hacc', hn', hΦ, hoff, hi, rfl⟩
  by_cases hlt : i < n
  · refine W.item i _ _ _ hlt hst' fun v h₁ tk₁ hMd hk₁ => ?_
    refine W.go i v _ _ _ hMd fun h₂ hP hst₂ hk₂ => ?_
    have k₂ : ∀ b o, b ∉ wr → h'.get? b = some o → h₂.get? b = some o := fun b o hb e => hk₂ b o hb (hk₁ b o hb e)
    have o₂ : Off (cenv.locals :: D :: wr) h' h₂ := fun b o hb e => k₂ b o (fun q => hb (List.mem_cons_of_mem _ (List.mem_cons_of_mem _ q))) e
    have hn₂ : h₂.Ns cenv.locals m := hn'.at' fun o e => k₂ _ o hCw e
    have hacc₂ : h₂.PlainList D ys.toArray := hacc'.at fun o e => k₂ _ o hDw e
    have hlv : ∀ b ∈ cenv.locals :: D :: fp, ∃ o, h₂.get? b = some o := by
      intro b hb
      rcases List.mem_cons.mp hb with rfl | hb
      · obtain ⟨o, _, _, ho, _⟩ := hn₂; exact ⟨o, ho⟩
      · rcases List.mem_cons.mp hb with rfl | hb
        · obtain ⟨_, ho⟩ := hacc₂; exact ⟨_, ho⟩
        · exact hlive _ _ hst₂ b hb
    refine wpAny_mono (turn i v ys m _ E hlt hP (stab _ _ _ _ _ hΦ o₂) hn₂ hacc₂ hlv (hoff.trans o₂)) (fun _ s₃ h₃ => ?_) fun _ _ e => e
    refine wpAny_tests_nil ?_
    simp only [if_true]
    refine wpAny_mono h₃ (fun x s₄ h₄ => wpAny_mono h₄ (fun it' s₅ h₅ => codeAny_mono h₅ fun r s₆ h₆ => ?_) fun _ _ e => e) fun _ _ e => e
    cases r with
    | error e => exact h₆
    | ok f =>
      obtain ⟨h₆, tk₆, m₆, ys₆, rfl, hn₆, hacc₆, hΦ₆, hk₆⟩ := h₆
      have o₆ : Off (cenv.locals :: D :: wr) h₂ h₆ := fun b o hb e => hk₆ b o (fun q => hb (q ▸ List.mem_cons_self)) (fun q => hb (q ▸ List.mem_cons_of_mem _ List.mem_cons_self)) e
      exact ⟨n + 1 - (i + 1), by omega, h₆, tk₆, m₆, ys₆, i + 1, rfl, W.frame _ _ _ hst₂ fun b hb o e => hk₆ b o (fun q => hCf (q ▸ hb)) (fun q => hDf (q ▸ hb)) e, hacc₆, hn₆, hΦ₆, (hoff.trans o₂).trans o₆, hlt, rfl⟩
  · have hin : i = n := by omega
    subst hin
    refine W.done _ _ _ hst' fun h₁ tk₁ hk₁ => ?_
    have o₁ : Off (cenv.locals :: D :: wr) h' h₁ := fun b o hb e => hk₁ b o (fun q => hb (List.mem_cons_of_mem _ (List.mem_cons_of_mem _ q))) e
    exact done h₁ tk₁ m ys (stab _ _ _ _ _ hΦ o₁) (hacc'.at fun o e => hk₁ _ o hDw e) (hn'.at' fun o e => hk₁ _ o hCw e) (hoff.trans o₁)
end
end Mine

open PySem.SeqAt
namespace Mine

/-- the two ints of a tuple of two ints -/
def pairOf (h : Heap) : Value → Option (Int × Int)
  | .ref a => match h.get? a with
    | some ⟨.type n, _, .seq xs _, _⟩ => if n = "tuple" then (match xs.toList with | [.int i _, .int j _] => some (i, j) | _ => none) else none
    | _ => none
  | _ => none

theorem pairOf_some {h : Heap} {v : Value} {p : Int × Int} (e : pairOf h v = some p) : ∃ a o n t u, v = .ref a ∧ h.get? a = some o ∧ o.cls = .type "tuple" ∧ o.data = .seq #[.int p.1 t, .int p.2 u] n := by
  unfold pairOf at e
  split at e
  · rename_i a
    split at e
    · rename_i n d xs k sl ho
      split at e
      · rename_i hn
        subst hn
        split at e
        · rename_i i t j u hx
          cases e
          refine ⟨a, _, k, t, u, rfl, ho, rfl, ?_⟩
          have : xs = #[.int i t, .int j u] := Array.toList_inj.mp hx
          rw [this]
        · cases e
      · cases e
    · cases e
  · cases e
theorem pairOf_of {h : Heap} {a : Addr} {o : Obj} {n : Nat} {i j : Int} {t u : Tok} (ho : h.get? a = some o) (hc : o.cls = .type "tuple") (hd : o.data = .seq #[.int i t, .int j u] n) : pairOf h (.ref a) = some (i, j) := by
  obtain ⟨c, d, dt, sl⟩ := o
  subst hc hd
  unfold pairOf
  simp only [ho]
  rfl
theorem pairOf_ext {h h' : Heap} {v : Value} {p : Int × Int} (e : pairOf h v = some p) (k : ∀ b o, h.get? b = some o → h'.get? b = some o) : pairOf h' v = some p := by
  obtain ⟨a, o, n, t, u, rfl, ho, hc, hd⟩ := pairOf_some e
  exact pairOf_of (k _ _ ho) hc hd

/-- the values are tuples of two ints, and these are they -/
def PairVals (h : Heap) (vs : List Value) (T : List (Int × Int)) : Prop := vs.map (pairOf h) = T.map some
/-- a list of tuples of two ints -/
def PairsL (h : Heap) (l : Addr) (T : List (Int × Int)) : Prop := ∃ vs : List Value, h.IsList l vs.toArray ∧ PairVals h vs T

theorem PairVals.length {h : Heap} {vs : List Value} {T : List (Int × Int)} (x : PairVals h vs T) : vs.length = T.length := by
  have := congrArg List.length x; simpa using this
theorem PairVals.get {h : Heap} {vs : List Value} {T : List (Int × Int)} (x : PairVals h vs T) {i : Nat} {v : Value} (hv : vs[i]? = some v) : ∃ p, T[i]? = some p ∧ pairOf h v = some p := by
  have h1 : (vs.map (pairOf h))[i]? = some (pairOf h v) := by rw [List.getElem?_map, hv]; rfl
  rw [x, List.getElem?_map] at h1
  cases e : T[i]? with
  | none => rw [e] at h1; cases h1
  | some p => rw [e] at h1; exact ⟨p, rfl, (Option.some.inj h1).symm⟩
theorem PairVals.ext {h h' : Heap} {vs : List Value} {T : List (Int × Int)} (x : PairVals h vs T) (k : ∀ b o, h.get? b = some o → h'.get? b = some o) : PairVals h' vs T := by
  unfold PairVals at x ⊢
  rw [← x]
  refine List.map_congr_left fun v hv => ?_
  obtain ⟨i, hi⟩ := List.mem_iff_getElem?.mp hv
  obtain ⟨p, _, hp⟩ := PairVals.get x hi
  rw [hp, pairOf_ext hp k]
theorem PairsL.ext {h h' : Heap} {l : Addr} {T : List (Int × Int)} (x : PairsL h l T) (k : ∀ b o, h.get? b = some o → h'.get? b = some o) : PairsL h' l T := by
  obtain ⟨vs, hl, hv⟩ := x
  exact ⟨vs, hl.at fun o e => k _ _ e, hv.ext k⟩
theorem PairVals.nil (h : Heap) : PairVals h [] [] := rfl
theorem PairVals.snoc {h : Heap} {vs : List Value} {T : List (Int × Int)} {v : Value} {p : Int × Int} (x : PairVals h vs T) (e : pairOf h v = some p) : PairVals h (vs ++ [v]) (T ++ [p]) := by
  unfold PairVals at x ⊢
  rw [List.map_append, List.map_append, x, List.map_cons, List.map_cons, e]; rfl
theorem PairVals.any {h : Heap} {vs : List Value} {T : List (Int × Int)} (x : PairVals h vs T) (q : Int × Int) : (vs.toArray.any fun v => pairOf h v == some q) = decide (q ∈ T) := by
  rw [List.any_toArray]
  have h1 : (vs.any fun v => pairOf h v == some q) = ((vs.map (pairOf h)).any fun z => z == some q) := by rw [List.any_map]; rfl
  rw [h1, x, List.any_map]
  rw [Bool.eq_iff_iff, List.any_eq_true, decide_eq_true_eq]
  constructor
  · rintro ⟨y, hy, e⟩
    have : some y = some q := eq_of_beq e
    cases this; exact hy
  · intro hq; exact ⟨q, hq, by simp⟩

section
variable {w : World} {A : Around} {E : Value → Shared → Prop} {s : Shared} {mg mb : Str → Option Value}

theorem tupKey {prog : Program} {h : Heap} {v : Value} {p : Int × Int} (e : pairOf h v = some p) : ∃ a, v = .ref a ∧ IsTupleKey (intKind prog w) h [p.1, p.2] a := by
  obtain ⟨a, o, n, t, u, rfl, ho, hc, hd⟩ := pairOf_some e
  refine ⟨a, rfl, o, _, n, ho, hc, hd, ?_⟩
  refine .cons ?_ (.cons ?_ .nil)
  · show Value.isInt p.1 (.int p.1 t) = true
    simp [Value.isInt]
  · show Value.isInt p.2 (.int p.2 u) = true
    simp [Value.isInt]

theorem eqAt_pairs {v x : Value} {p q : Int × Int} (hu : A.units < cLine) (hv : pairOf s.heap v = some p) (hx : pairOf s.heap x = some q) : EqAt A s v x (pairOf s.heap v == some q) := by
  intro prog w E Q hQ
  obtain ⟨a, rfl, ha⟩ := tupKey (prog := prog) (w := w) hv
  obtain ⟨b, rfl, hb⟩ := tupKey (prog := prog) (w := w) hx
  refine wpAny_eqBool_tuple hu ha hb ?_
  have e : decide ([p.1, p.2] = [q.1, q.2]) = (pairOf s.heap (.ref a) == some q) := by
    rw [hv]
    obtain ⟨p1, p2⟩ := p
    obtain ⟨q1, q2⟩ := q
    rw [Bool.eq_iff_iff]
    simp
  rw [e]; exact hQ

theorem in_pairs {prog : Program} {l : Addr} {x : Value} {T : List (Int × Int)} {q : Int × Int} {Q : Value → Shared → Prop} (hu : A.units + 1 < cLine) (hl : PairsL s.heap l T) (hx : pairOf s.heap x = some q) (h : Q (.bool (decide (q ∈ T))) s) :
    wpAny (model prog w) A (compareOp .In x (.ref l)) Q E s := by
  obtain ⟨vs, hl, hv⟩ := hl
  refine in_listAt (fun v => pairOf s.heap v == some q) hl (fun y hy => ?_) (by rw [hv.any]; exact h)
  obtain ⟨i, hi⟩ := List.mem_iff_getElem?.mp (by simpa using hy : y ∈ vs)
  obtain ⟨p, _, hp⟩ := hv.get hi
  exact eqAt_pairs (A := A.in1) hu hp hx
theorem notin_pairs {prog : Program} {l : Addr} {x : Value} {T : List (Int × Int)} {q : Int × Int} {Q : Value → Shared → Prop} (hu : A.units + 1 < cLine) (hl : PairsL s.heap l T) (hx : pairOf s.heap x = some q) (h : Q (.bool (!decide (q ∈ T))) s) :
    wpAny (model prog w) A (compareOp .NotIn x (.ref l)) Q E s := by
  obtain ⟨vs, hl, hv⟩ := hl
  refine notIn_listAt (fun v => pairOf s.heap v == some q) hl (fun y hy => ?_) (by rw [hv.any]; exact h)
  obtain ⟨i, hi⟩ := List.mem_iff_getElem?.mp (by simpa using hy : y ∈ vs)
  obtain ⟨p, _, hp⟩ := hv.get hi
  exact eqAt_pairs (A := A.in1) hu hp hx

/-- a builtin's name, in any frame of the text's functions -/
theorem name_builtin {env : Env} {x : Str} {pos : Pos} {v : Value} {Q : Value → Shared → Prop} (T : TopAt w mg mb s.heap) (hk : env.scope.kind = .function) (hx : env.kindOf x = some .globalImplicit) (hg : env.globals = mainGlobals) (hb : env.builtins = builtinsNs)
    (e : nsIn (KF w) mainGlobals x = some none) (hv : bootBuiltins x = some v) (hn : x ≠ "__name__") (hd : (x == ("__debug__" : Str)) = false) (h : Q v s) : wpAny (model Pr w) A (eval (.Name x pos) env) Q E s :=
  Name_function_global hk hx (loadGlobal_builtin (env := env) (by rw [hg]; exact T.g) (mg_none_of T.X T.g e) (by rw [hb]; exact T.b) ((T.builtins x hn).trans hv) h) hd
/-- a name of the text's top -/
theorem name_top {env : Env} {x : Str} {pos : Pos} {v : Value} {Q : Value → Shared → Prop} (T : TopAt w mg mb s.heap) (hk : env.scope.kind = .function) (hx : env.kindOf x = some .globalImplicit) (hg : env.globals = mainGlobals)
    (e : nsIn (KF w) mainGlobals x = some (some v)) (hd : (x == ("__debug__" : Str)) = false) (h : Q v s) : wpAny (model Pr w) A (eval (.Name x pos) env) Q E s :=
  Name_function_global hk hx (loadGlobal_global (env := env) (by rw [hg]; exact T.g) (mg_of T.X T.g e) h) hd

/-- `range(e)`, asked for its iterator -/
theorem iter_range1 {env : Env} {e : PySem.Expr} {p pos : Pos} {n : Nat} {Q : Value → Shared → Prop} (T : TopAt w mg mb s.heap) (hk : env.scope.kind = .function) (hx : env.kindOf (Str.ofString "range") = some .globalImplicit) (hg : env.globals = mainGlobals) (hb : env.builtins = builtinsNs)
    (hn : n ≤ 1000000) (hst : starEach [e] env = [(false, eval e env)]) (harg : ∀ Q' : Value → Shared → Prop, (∀ t, Q' (.int n t) s) → wpAny (model Pr w) A (eval e env) Q' E s)
    (h : ∀ h' tk I, (∀ b o, s.heap.get? b = some o → h'.get? b = some o) → s.heap.get? I = none → IsRangeIter h' I 0 n 1 → Q (.ref I) { s with heap := h', toks := tk }) :
    wpAny (model Pr w) A (eval (.Call (.Name (Str.ofString "range") p) [e] [] pos) env) (fun xv s₁ => wpAny (model Pr w) A (pyIter xv) Q E s₁) E s := by
  refine Call_Name1 (name_builtin T hk hx hg hb rfl boot_range (by decide) (by decide) ?_) hst
  refine PySem.callWith_type rfl (Calls.evalArgs_plain (Calls.spliced_cons (harg _ fun t => Calls.spliced_nil ?_)))
  refine call_range_1 ?_
  have hz : Builtin.Range.rangeSize 0 (n : Int) 1 = (n : Int) := by rw [rangeSize_one]; split <;> omega
  refine wpAny_pyIter_range (IsRange.new _ _ _ _ _ _ _) (small_one (by omega) (by omega) (by omega) (by omega)) ?_
  refine h _ _ _ (fun b o e => Heap.get?_push_of_some _ (Heap.get?_push_of_some _ e)) ?_ ?_
  · exact fresh (by show s.heap.objs.size ≤ (s.heap.push _).objs.size; rw [Heap.size_push]; exact Nat.le_succ _)
  · rw [hz]
    exact Heap.get?_push_size _ rfl

theorem turns_range {prog : Program} {x : Str} {px : Pos} (hh : A.handled = none) (I : Addr) (n : Nat) :
    KTurns prog w A (.Name x px) I [I] [I] n (fun i v _ => ∃ t, v = .int (0 + (i : Nat) * 1) t) (fun i v h => (∃ t, v = .int (0 + (i : Nat) * 1) t) ∧ IsRangeIter h I (0 + ((i + 1 : Nat) : Int) * 1) ((n : Int) - ((i + 1 : Nat) : Int)) 1) (fun i h => IsRangeIter h I (0 + (i : Nat) * 1) ((n : Int) - (i : Nat)) 1) :=
  KTurns.ofWalks (Walks.range hh I 0 1 n) fun _ _ _ _ _ _ q => wpAny_pure q
end
end Mine

namespace Mine

def triB (T : List (Int × Int)) (a b c : Int) : Bool := decide ((a, b) ∈ T) && (decide ((a, c) ∈ T) && decide ((b, c) ∈ T))
def fB (T : List (Int × Int)) (c b : Nat) : Bool := (List.range b).any fun a => triB T a b c
def fC (T : List (Int × Int)) (c : Nat) : Bool := (List.range c).any fun b => fB T c b
def hasTri (T : List (Int × Int)) (n : Nat) : Bool := (List.range n).any fun c => fC T c

theorem any_succ (f : Nat → Bool) (i : Nat) : (List.range (i + 1)).any f = ((List.range i).any f || f i) := by
  rw [List.range_succ, List.any_append]; simp

section
variable {w : World} {A : Around} {s : Shared} {mg mb : Str → Option Value}

/-- `(x, y) in ties`, the list reached through a cell -/
theorem test_in {env : Env} {x y z : Str} {px py p1 p2 p3 : Pos} {j : Nat} {l c : Addr} {a b : Int} {t u : Tok} {T : List (Int × Int)} {m : Str → Option Value} {whole : Sem Value} {E : Value → Shared → Prop} {Q : Bool → Shared → Prop} (hu : A.units + 1 < cLine)
    (hk : env.scope.kind = .function) (hn : s.heap.Ns env.locals m) (hx : env.kindOf x = some .local) (hy : env.kindOf y = some .local) (hz : env.kindOf z = some .cell) (hcl : env.cells.lookup z = some c)
    (hxd : (x == ("__debug__" : Str)) = false) (hyd : (y == ("__debug__" : Str)) = false) (hzd : (z == ("__debug__" : Str)) = false)
    (hmx : m x = some (.int a t)) (hmy : m y = some (.int b u)) (hc : s.heap.IsCell c (some (.ref l))) (hl : PairsL s.heap l T)
    (hQ : ∀ h' tk, (∀ d o, s.heap.get? d = some o → h'.get? d = some o) → Q (decide ((a, b) ∈ T)) { s with heap := h', toks := tk }) :
    wpAny (model Pr w) A (isTrue (.Compare (.Tuple [.Name x px, .Name y py] j p1) [.In] [.Name z p2] p3) env whole) Q E s := by
  refine wpAny_isTrue_Compare1 (Tuple_ ?_)
  refine Calls.spliced_cons (wpAny_Name (wpAny_loadName_local hk hx hn hmx ?_) hxd)
  refine Calls.spliced_cons (wpAny_Name (wpAny_loadName_local hk hy hn hmy ?_) hyd)
  refine Calls.spliced_nil (wpAny_newTuple ?_)
  have hk' : ∀ d o, s.heap.get? d = some o → (s.heap.push { cls := .type "tuple", data := .seq #[.int a t, .int b u] }).get? d = some o := fun d o e => Heap.get?_push_of_some _ e
  refine wpAny_Name (wpAny_loadName_cell hk hz hcl (v := .ref l) ?_ ?_) hzd
  · obtain ⟨o, ho, hd⟩ := hc
    exact ⟨o, hk' _ _ ho, hd⟩
  refine in_pairs (q := (a, b)) hu (hl.ext hk') (pairOf_of (Heap.get?_push_size _ rfl) rfl rfl) ?_
  exact wpAny_truthy_bool (hQ _ _ hk')

theorem cell_ext {h h' : Heap} {c : Addr} {v : Option Value} (x : h.IsCell c v) (k : ∀ b o, h.get? b = some o → h'.get? b = some o) : h'.IsCell c v := let ⟨o, ho, hd⟩ := x; ⟨o, k _ _ ho, hd⟩

theorem threes_code {l : Addr} {T : List (Int × Int)} {n : Nat} {t : Tok} {R : Result → Shared → Prop} (r : Room A 3) (Tp : TopAt w mg mb s.heap) (hl : PairsL s.heap l T) (hn : n ≤ 10)
    (hR : ∀ D h' tk (ys : List Value), (∀ b o, s.heap.get? b = some o → h'.get? b = some o) → h'.PlainList D ys.toArray → (ys.isEmpty = !hasTri T n) → ys.length ≤ 1000 → R (.ok (.ret (.ref D))) { s with heap := h', toks := tk }) :
    codeAny (model Pr w) A (.call (.ref 75) ⟨[.ref l, .int n t], []⟩) R s := by
  refine codeAny_call_cells (fd := fnOf _ _ _ _ _ _ _ _ _ _ _ _) (o := _) r.depth (Tp.X 75 _ rfl) rfl Tp.nolimit (codeRec_of Tp.X rfl) rfl (binds := [(Str.ofString "ties", .ref l), (Str.ofString "many", .int n t)]) rfl rfl ?_ ?_
  · intro x hx
    simp at hx
    rcases hx with rfl | rfl
    · exact .inr ⟨rfl, rfl⟩
    · exact .inl rfl
  intro s₁ x
  obtain ⟨h₁, tk₁, rfl, hk₁⟩ := x.done
  have hns := x.toInCall.ns
  have hc := x.cell (Str.ofString "ties") (s.heap.objs.size + 1) rfl
  have T1 := Tp.keeps hk₁
  clear x
  refine wpAny_execs_cons (wpAny_Return_some (comp_eval (cl := [(Str.ofString "ties", s.heap.objs.size + 1)]) rfl (by decide) rfl (by decide) (by intro _; rfl) ?_))
  refine iter_range1 T1 rfl rfl rfl rfl (n := n) (by omega) rfl (fun Q' q => wpAny_Name (wpAny_loadName_local rfl rfl hns rfl (q _))) ?_
  intro h₂ tk₂ I hk₂ hI hit D C h₃ tk₃ R' hD hC hz hacc hnC hk₃ hfin
  refine ⟨fun E Q q => wpAny_pyIter_rangeiter (hk₃ _ _ hit) q, ?_⟩
  dsimp only at hI hk₂ hk₃ hD hacc hnC hz
  have base₃ : ∀ b o, h₁.get? b = some o → h₃.get? b = some o := fun b o e => hk₃ b o (hk₂ b o e)
  have hIlt : I < h₂.objs.size := Heap.lt_size hit
  have hD0 : h₂.get? D = none := fresh (Nat.le_of_eq hD.symm)
  have hC0 : h₂.get? C = none := fresh (by rw [hC, hD]; exact Nat.le_succ _)
  have hDC : D ≠ C := by rw [hC]; exact Nat.ne_of_lt (Nat.lt_succ_self _)
  have hID : I ≠ D := by rw [hD]; exact Nat.ne_of_lt hIlt
  have hIC : I ≠ C := by rw [hC, hD]; exact Nat.ne_of_lt (Nat.lt_succ_of_lt hIlt)
  have hl1 := hl.ext hk₁
  have bad1 : ∀ b o, h₁.get? b = some o → b ≠ C ∧ b ≠ D ∧ b ≠ I := fun b o e =>
    ⟨fun q => by (rw [q] at e; rw [hk₂ _ _ e] at hC0; cases hC0), fun q => by (rw [q] at e; rw [hk₂ _ _ e] at hD0; cases hD0), fun q => by (rw [q] at e; rw [e] at hI; cases hI)⟩
  -- c in range(many)
  refine level_more (d := 0) (n := n) (C := C) (ys₀ := []) rfl rfl rfl (by intro _; rfl) (turns_range (prog := Pr) (w := w) (A := Around.deeper A _) r.1 I n) (fun i h st b hb => by rw [List.mem_singleton.mp hb]; exact ⟨_, st⟩) (by simpa using Ne.symm hIC) (by simpa using Ne.symm hID) hDC
    (fun i ys _ _ => ys.isEmpty = (!(List.range i).any fun c => fC T c) ∧ ys.length ≤ 100 * i) (fun _ _ _ _ _ p _ => p) (by simpa using hk₃ _ _ hit) hacc hnC ⟨by simp, by simp⟩ ?_ ?_
  · rintro i v ys m s₄ E hi ⟨t₄, rfl⟩ ⟨hΦ, hyl⟩ hns₄ hacc₄ hlive₄ hoff₄
    have e0 : (0 + (i : Int) * 1) = (i : Int) := by omega
    rw [e0]
    have base₄ : ∀ b o, h₁.get? b = some o → s₄.heap.get? b = some o := fun b o e => hoff₄ b o (by simpa using bad1 b o e) (base₃ b o e)
    refine wpAny_assign_Name (wpAny_storeName_local rfl hns₄ (fun h₅ hn₅ hs₅ => ?_) rfl)
    have base₅ : ∀ b o, h₁.get? b = some o → h₅.get? b = some o := fun b o e => hs₅.extBut b o (bad1 b o e).1 (base₄ b o e)
    refine iter_range1 (T1.keeps base₅) rfl rfl rfl rfl (n := i) (by omega) rfl (fun Q' q => wpAny_Name (wpAny_loadName_local rfl rfl hn₅ (if_pos rfl) (q _))) ?_
    intro h₆ tk₆ I' hk₆ hI' hit'
    dsimp only at hI' hk₆
    have base₆ : ∀ b o, h₁.get? b = some o → h₆.get? b = some o := fun b o e => hk₆ b o (base₅ b o e)
    have hn₆ := hn₅.keeps hk₆
    have hacc₆ : h₆.PlainList D ys.toArray := hacc₄.at fun o e => hk₆ _ o (hs₅.extBut _ o hDC e)
    have live₅ : ∀ b ∈ C :: D :: [I], ∃ o, h₅.get? b = some o := fun b hb => by
      obtain ⟨o, ho⟩ := hlive₄ b hb
      by_cases q : b = C
      · subst q; obtain ⟨o', _, _, ho', _⟩ := hn₅; exact ⟨o', ho'⟩
      · exact ⟨o, hs₅.extBut b o q ho⟩
    have neI' : ∀ {b : Addr}, (∃ o, h₅.get? b = some o) → b ≠ I' := fun ⟨o, ho⟩ q => by rw [q] at ho; rw [ho] at hI'; cases hI'
    have hCI' : C ≠ I' := neI' (live₅ C (by simp))
    have hDI' : D ≠ I' := neI' (live₅ D (by simp))
    refine start_at (d := 1) rfl ?_ (fun E Q q => wpAny_pyIter_rangeiter hit' q)
    have bad2 : ∀ b o, h₁.get? b = some o → b ≠ C ∧ b ≠ D ∧ b ≠ I' := fun b o e => ⟨(bad1 b o e).1, (bad1 b o e).2.1, neI' ⟨o, base₅ b o e⟩⟩
    -- b in range(c)
    refine level_more (d := 1) (n := i) (C := C) (ys₀ := ys) rfl rfl rfl (by intro _; rfl) (turns_range (prog := Pr) (w := w) (A := Around.deeper A _) r.1 I' i) (fun i h st b hb => by rw [List.mem_singleton.mp hb]; exact ⟨_, st⟩) (by simpa using hCI') (by simpa using hDI') hDC
      (fun k zs m _ => (∃ t, m (Str.ofString "c") = some (.int i t)) ∧ zs.isEmpty = (ys.isEmpty && !(List.range k).any fun b => fB T i b) ∧ zs.length ≤ ys.length + 10 * k) (fun _ _ _ _ _ p _ => p) (by simpa using hit') hacc₆ hn₆ ⟨⟨_, if_pos rfl⟩, by simp, by omega⟩ ?_ ?_
    · rintro k v zs m₇ s₇ E₇ hk ⟨t₇, rfl⟩ ⟨⟨tc, hmc⟩, hΦ₇, hzl⟩ hns₇ hacc₇ hlive₇ hoff₇
      have e1 : (0 + (k : Int) * 1) = (k : Int) := by omega
      rw [e1]
      have base₇ : ∀ b o, h₁.get? b = some o → s₇.heap.get? b = some o := fun b o e => hoff₇ b o (by simpa using bad2 b o e) (base₆ b o e)
      refine wpAny_assign_Name (wpAny_storeName_local rfl hns₇ (fun h₈ hn₈ hs₈ => ?_) rfl)
      have base₈ : ∀ b o, h₁.get? b = some o → h₈.get? b = some o := fun b o e => hs₈.extBut b o (bad1 b o e).1 (base₇ b o e)
      refine iter_range1 (T1.keeps base₈) rfl rfl rfl rfl (n := k) (by omega) rfl (fun Q' q => wpAny_Name (wpAny_loadName_local rfl rfl hn₈ (if_pos rfl) (q _))) ?_
      intro h₉ tk₉ I'' hk₉ hI'' hit''
      dsimp only at hI'' hk₉
      have base₉ : ∀ b o, h₁.get? b = some o → h₉.get? b = some o := fun b o e => hk₉ b o (base₈ b o e)
      have hn₉ := hn₈.keeps hk₉
      have hacc₉ : h₉.PlainList D zs.toArray := hacc₇.at fun o e => hk₉ _ o (hs₈.extBut _ o hDC e)
      have live₈ : ∀ b ∈ C :: D :: [I'], ∃ o, h₈.get? b = some o := fun b hb => by
        obtain ⟨o, ho⟩ := hlive₇ b hb
        by_cases q : b = C
        · subst q; obtain ⟨o', _, _, ho', _⟩ := hn₈; exact ⟨o', ho'⟩
        · exact ⟨o, hs₈.extBut b o q ho⟩
      have neI'' : ∀ {b : Addr}, (∃ o, h₈.get? b = some o) → b ≠ I'' := fun ⟨o, ho⟩ q => by rw [q] at ho; rw [ho] at hI''; cases hI''
      have hCI'' : C ≠ I'' := neI'' (live₈ C (by simp))
      have hDI'' : D ≠ I'' := neI'' (live₈ D (by simp))
      have bad3 : ∀ b o, h₁.get? b = some o → b ≠ C ∧ b ≠ D ∧ b ≠ I'' := fun b o e => ⟨(bad1 b o e).1, (bad1 b o e).2.1, neI'' ⟨o, base₈ b o e⟩⟩
      refine start_at (d := 2) rfl ?_ (fun E Q q => wpAny_pyIter_rangeiter hit'' q)
      -- a in range(b)
      refine level_last (d := 2) (n := k) (C := C) (ys₀ := zs) rfl rfl rfl (turns_range (prog := Pr) (w := w) (A := Around.deeper A _) r.1 I'' k) (fun i h st b hb => by rw [List.mem_singleton.mp hb]; exact ⟨_, st⟩) (by simpa using hCI'') (by simpa using hDI'') hDC
        (fun q xs m _ => (∃ t, m (Str.ofString "c") = some (.int i t)) ∧ (∃ t, m (Str.ofString "b") = some (.int k t)) ∧ xs.isEmpty = (zs.isEmpty && !(List.range q).any fun a => triB T a k i) ∧ xs.length ≤ zs.length + q) (fun _ _ _ _ _ p _ => p) (by simpa using hit'') hacc₉ hn₉
        ⟨⟨tc, (if_neg (by decide)).trans hmc⟩, ⟨_, if_pos rfl⟩, by simp, by omega⟩ (by rw [sizeLine_eq]; omega) ?_ ?_
      · rintro q v xs m₁₀ s₁₀ E₁₀ hq ⟨t₁₀, rfl⟩ ⟨⟨tc', hmc'⟩, ⟨tb', hmb'⟩, hΦ₁₀, hxl⟩ hns₁₀ hlive₁₀ hoff₁₀
        have e2 : (0 + (q : Int) * 1) = (q : Int) := by omega
        rw [e2]
        have base₁₀ : ∀ b o, h₁.get? b = some o → s₁₀.heap.get? b = some o := fun b o e => hoff₁₀ b o (by simpa using bad3 b o e) (base₉ b o e)
        refine wpAny_assign_Name (wpAny_storeName_local rfl hns₁₀ (fun h₁₁ hn₁₁ hs₁₁ => ?_) rfl)
        have base₁₁ : ∀ b o, h₁.get? b = some o → h₁₁.get? b = some o := fun b o e => hs₁₁.extBut b o (bad1 b o e).1 (base₁₀ b o e)
        have mc : (fun y => if y = Str.ofString "a" then some (Value.int q t₁₀) else m₁₀ y) (Str.ofString "c") = some (.int i tc') := (if_neg (by decide)).trans hmc'
        have mb' : (fun y => if y = Str.ofString "a" then some (Value.int q t₁₀) else m₁₀ y) (Str.ofString "b") = some (.int k tb') := (if_neg (by decide)).trans hmb'
        have ma : (fun y => if y = Str.ofString "a" then some (Value.int q t₁₀) else m₁₀ y) (Str.ofString "a") = some (.int q t₁₀) := if_pos rfl
        generalize (fun y => if y = Str.ofString "a" then some (Value.int (q : Nat) t₁₀) else m₁₀ y) = mm at hn₁₁ mc mb' ma
        refine ⟨mm, ⟨h₁₁, _, rfl, hn₁₁, fun b o hb e => hs₁₁.extBut b o hb e⟩, ?_⟩
        have no : triB T q k i = false → xs.isEmpty = (zs.isEmpty && !(List.range (q + 1)).any fun a => triB T a k i) := fun e => by rw [any_succ, e, Bool.or_false]; exact hΦ₁₀
        have yes : triB T q k i = true → ∀ y, (xs ++ [y]).isEmpty = (zs.isEmpty && !(List.range (q + 1)).any fun a => triB T a k i) := fun e y => by rw [any_succ, e, Bool.or_true]; simp
        have hu := (r.deeper (callEnvC (fnOf (Str.ofString "_law_threes") (Str.ofString "_law_threes") default [] default .none .none .none .none none .none .none) 0 0)).units
        refine wpAny_tests_one (isTrue_and (test_in (T := T) hu rfl hn₁₁ rfl rfl rfl rfl (by decide) (by decide) (by decide) ma mb' (cell_ext hc base₁₁) (hl1.ext base₁₁) fun h₁₂ tk₁₂ hk₁₂ => ?_))
        cases d1 : decide (((q : Int), (k : Int)) ∈ T) with
        | false =>
          simp only [Bool.false_eq_true, if_false]
          exact ⟨⟨h₁₂, tk₁₂, rfl, hk₁₂⟩, ⟨tc', mc⟩, ⟨tb', mb'⟩, no (by unfold triB; rw [d1, Bool.false_and]), by omega⟩
        | true =>
          simp only [if_true]
          have hn₁₂ := hn₁₁.keeps hk₁₂
          have base₁₂ : ∀ b o, h₁.get? b = some o → h₁₂.get? b = some o := fun b o e => hk₁₂ b o (base₁₁ b o e)
          refine isTrue_and (test_in (T := T) hu rfl hn₁₂ rfl rfl rfl rfl (by decide) (by decide) (by decide) ma mc (cell_ext hc base₁₂) (hl1.ext base₁₂) fun h₁₃ tk₁₃ hk₁₃ => ?_)
          cases d2 : decide (((q : Int), (i : Int)) ∈ T) with
          | false =>
            simp only [Bool.false_eq_true, if_false]
            exact ⟨⟨h₁₃, tk₁₃, rfl, fun b o e => hk₁₃ b o (hk₁₂ b o e)⟩, ⟨tc', mc⟩, ⟨tb', mb'⟩, no (by unfold triB; rw [d1, d2, Bool.false_and, Bool.and_false]), by omega⟩
          | true =>
            simp only [if_true]
            have hn₁₃ := hn₁₂.keeps hk₁₃
            have base₁₃ : ∀ b o, h₁.get? b = some o → h₁₃.get? b = some o := fun b o e => hk₁₃ b o (base₁₂ b o e)
            refine isTrue_and (test_in (T := T) hu rfl hn₁₃ rfl rfl rfl rfl (by decide) (by decide) (by decide) mb' mc (cell_ext hc base₁₃) (hl1.ext base₁₃) fun h₁₄ tk₁₄ hk₁₄ => ?_)
            have kk : ∀ b o, h₁₁.get? b = some o → h₁₄.get? b = some o := fun b o e => hk₁₄ b o (hk₁₃ b o (hk₁₂ b o e))
            cases d3 : decide (((k : Int), (i : Int)) ∈ T) with
            | false =>
              simp only [Bool.false_eq_true, if_false]
              exact ⟨⟨h₁₄, tk₁₄, rfl, kk⟩, ⟨tc', mc⟩, ⟨tb', mb'⟩, no (by unfold triB; rw [d1, d2, d3]; rfl), by omega⟩
            | true =>
              simp only [if_true]
              refine isTrue_and_nil ⟨⟨h₁₄, tk₁₄, rfl, kk⟩, ?_⟩
              simp only [if_true]
              have hn₁₄ := hn₁₃.keeps hk₁₄
              refine Tuple_ (Calls.spliced_cons (wpAny_Name (wpAny_loadName_local rfl rfl hn₁₄ ma ?_)))
              refine Calls.spliced_cons (wpAny_Name (wpAny_loadName_local rfl rfl hn₁₄ mb' ?_))
              refine Calls.spliced_cons (wpAny_Name (wpAny_loadName_local rfl rfl hn₁₄ mc ?_))
              refine Calls.spliced_nil (wpAny_newTuple ?_)
              refine ⟨⟨_, _, rfl, fun b o e => Heap.get?_push_of_some _ e⟩, ⟨tc', mc⟩, ⟨tb', mb'⟩, yes (by unfold triB; rw [d1, d2, d3]; rfl) _, by rw [List.length_append, List.length_singleton]; omega⟩
      · rintro h' tk' m' xs ⟨⟨tc', hmc'⟩, ⟨tb', hmb'⟩, hΦ', hxl⟩ hacc' hn' hoff'
        refine ⟨h', tk', m', xs, rfl, hn', hacc', ⟨⟨tc', hmc'⟩, ?_, by omega⟩, ?_⟩
        · rw [hΦ', hΦ₇, any_succ]
          show _ = (ys.isEmpty && !(_ || fB T i k))
          unfold fB
          cases ys.isEmpty <;> simp
        · intro b o h1 h2 e
          have e8 := hs₈.extBut b o h1 e
          have : b ≠ I'' := neI'' ⟨o, e8⟩
          exact hoff' b o (by simpa using ⟨h1, h2, this⟩) (hk₉ b o e8)
    · rintro h' tk' m' zs ⟨⟨tc', hmc'⟩, hΦ', hzl⟩ hacc' hn' hoff'
      refine ⟨h', tk', m', zs, rfl, hn', hacc', ⟨?_, by omega⟩, ?_⟩
      · rw [hΦ', hΦ, any_succ]
        show _ = !(_ || fC T i)
        unfold fC
        simp
      · intro b o h1 h2 e
        have e5 := hs₅.extBut b o h1 e
        have : b ≠ I' := neI' ⟨o, e5⟩
        exact hoff' b o (by simpa using ⟨h1, h2, this⟩) (hk₆ b o e5)
  · rintro h' tk' m' ys ⟨hΦ', hyl⟩ hacc' hn' hoff'
    refine hfin _ m' hn' fun h'' hs'' => ?_
    have k' : ∀ b o, h₁.get? b = some o → h''.get? b = some o := fun b o e => hs''.extBut b o (bad1 b o e).1 (hoff' b o (by simpa using bad1 b o e) (base₃ b o e))
    exact hR D h'' _ ys (fun b o e => k' b o (hk₁ b o e)) (hacc'.at fun o e => hs''.extBut _ o hDC e) hΦ' (by omega)
end
end Mine

namespace Mine

/-- no tuple stands at these addresses -/
def NoTup (bad : List Addr) (h : Heap) : Prop := ∀ b ∈ bad, ∀ o, h.get? b = some o → ¬ (o.cls = .type "tuple" ∧ ∃ it n, o.data = .seq it n)
theorem noTup_ns {h : Heap} {L : Addr} {m : Str → Option Value} (hn : h.Ns L m) : ∀ o, h.get? L = some o → ¬ (o.cls = .type "tuple" ∧ ∃ it n, o.data = .seq it n) := by
  rintro o e ⟨_, it, n, hd⟩
  obtain ⟨o', es, ep, ho, hd', _⟩ := hn
  rw [ho] at e; cases e
  rw [hd'] at hd; cases hd
theorem noTup_list {h : Heap} {D : Addr} {its : Array Value} (hl : h.IsList D its) : ∀ o, h.get? D = some o → ¬ (o.cls = .type "tuple" ∧ ∃ it n, o.data = .seq it n) := by
  rintro o e ⟨hc, _⟩
  obtain ⟨o', ho, hc', _⟩ := hl
  rw [ho] at e; cases e
  rw [hc'] at hc
  exact absurd (Value.type.inj hc) (by decide)
theorem noTup_iter {h : Heap} {I l : Addr} {i : Nat} (hl : h.IsListIter I l i) : ∀ o, h.get? I = some o → ¬ (o.cls = .type "tuple" ∧ ∃ it n, o.data = .seq it n) := by
  rintro o e ⟨_, it, n, hd⟩
  obtain ⟨o', ho, _, hd'⟩ := hl
  rw [ho] at e; cases e
  rw [hd'] at hd; cases hd

section
variable {w : World} {A : Around} {s : Shared} {mg mb : Str → Option Value}

theorem dictH_off {x : Str} {bad : List Addr} {h h' : Heap} {d : Addr} {xs : List (Int × Addr × Value)} (hd : h.DictOfH (triKind Pr w x) d xs) (hb : NoTup bad h) (hne : d ∉ bad) (e : Off bad h h') : h'.DictOfH (triKind Pr w x) d xs := by
  obtain ⟨o, es, ep, ho, hx, hdt, he, his, hn⟩ := hd
  refine ⟨o, es, ep, e _ _ hne ho, hx, hdt, he, fun y hy => is_ext (his y hy) fun o q => e _ _ (fun z => ?_) q, hn⟩
  obtain ⟨o', it, n, h1, h2, h3, _⟩ := his y hy
  exact hb _ z o' h1 ⟨h2, it, n, h3⟩

/-- a row: a dict of ones under the keys ('t', k, 't') -/
def RowOK (w : World) (h : Heap) (d : Addr) (ks : List Int) : Prop := ∃ xs, h.DictOfH (triKind Pr w (Str.ofString "t")) d xs ∧ xs.map (·.1) = ks ∧ ∀ x ∈ xs, ∃ t, x.2.2 = .int 1 t
theorem RowOK.off {bad : List Addr} {h h' : Heap} {d : Addr} {ks : List Int} (r : RowOK w h d ks) (hb : NoTup bad h) (hne : d ∉ bad) (e : Off bad h h') : RowOK w h' d ks := let ⟨xs, a, b, c⟩ := r; ⟨xs, dictH_off a hb hne e, b, c⟩
theorem RowOK.ext {h h' : Heap} {d : Addr} {ks : List Int} (r : RowOK w h d ks) (e : ∀ b o, h.get? b = some o → h'.get? b = some o) : RowOK w h' d ks := let ⟨xs, a, b, c⟩ := r; ⟨xs, dictH_ext a e, b, c⟩
theorem RowOK.get {h : Heap} {d : Addr} {ks : List Int} (r : RowOK w h d ks) : ∃ o, h.get? d = some o := let ⟨_, ⟨o, _, _, ho, _⟩, _⟩ := r; ⟨o, ho⟩

/-- `{('t', y, 't'): 1}` -/
theorem one_tie {env : Env} {y : Str} {py p1 p2 p3 p4 pos : Pos} {j k1 k2 k3 : Nat} {b : Int} {u : Tok} {m : Str → Option Value} {E : Value → Shared → Prop} {Q : Value → Shared → Prop} (hu : A.units < cLine) (hbig : s.heap.NoLimit)
    (hk : env.scope.kind = .function) (hn : s.heap.Ns env.locals m) (hy : env.kindOf y = some .local) (hyd : (y == ("__debug__" : Str)) = false) (hmy : m y = some (.int b u))
    (hQ : ∀ D h' tk, (∀ d o, s.heap.get? d = some o → h'.get? d = some o) → s.heap.objs.size ≤ D → (∃ a t, h'.DictOfH (triKind Pr w (Str.ofString "t")) D [(b, a, .int 1 t)]) → Q (.ref D) { s with heap := h', toks := tk }) :
    wpAny (model Pr w) A (eval (.Dict [some (.Tuple [.Constant (.str (Str.ofString "t")) k1 p1, .Name y py, .Constant (.str (Str.ofString "t")) k2 p2] j p3)] [.Constant (.int 1) k3 p4] pos) env) Q E s := by
  refine wpAny_Dict_any rfl rfl (by intro q; cases q) (by show 1 ≤ 15; decide) ?_
  have hd0 := Heap.DictOfH.new (knd := triKind Pr w (Str.ofString "t")) s.heap
  have hk1 : ∀ d o, s.heap.get? d = some o → (s.heap.push { cls := .type "dict", data := .dict #[] }).get? d = some o := fun d o e => Heap.get?_push_of_some _ e
  have hn1 := hn.keeps hk1
  generalize hD : s.heap.objs.size = D at hd0 ⊢
  generalize s.heap.push { cls := .type "dict", data := .dict #[] } = h1 at hd0 hk1 hn1 ⊢
  refine evalPairs_cons (Tuple_ (Calls.spliced_cons (Calls.Constant_str (k := k1) (pos := p1) ?_)))
  refine Calls.spliced_cons (wpAny_Name (wpAny_loadName_local hk hy hn1 hmy ?_) hyd)
  refine Calls.spliced_cons (Calls.Constant_str (k := k2) (pos := p2) ?_)
  refine Calls.spliced_nil (wpAny_newTuple ?_)
  refine wpAny_bind (wpAny_Constant_int (wpAny_bind (wpAny_standAt (wpAny_pure ?_))))
  refine evalPairs_nil ?_
  dsimp only
  have hk2 : ∀ d o, h1.get? d = some o → (h1.push { cls := .type "tuple", data := .seq #[.str (Str.ofString "t") s.toks, .int b u, .str (Str.ofString "t") (s.toks + 1)] }).get? d = some o := fun d o e => Heap.get?_push_of_some _ e
  have hT := Heap.get?_push_size h1 (o := { cls := .type "tuple", data := .seq #[.str (Str.ofString "t") s.toks, .int b u, .str (Str.ofString "t") (s.toks + 1)] }) rfl
  have hd1 := dictH_ext hd0 hk2
  unfold storeAll
  rw [List.forIn_cons]
  refine wpAny_bind (wpAny_bind (wpAny_dictSet_heap (knd := triKind Pr w (Str.ofString "t")) (k := b) (triKind_room hu) (triKind_is hT rfl rfl) hd1 fun h' hd' hs' => wpAny_pure ?_))
  refine wpAny_pure ?_
  rw [storedH_new (by rfl)] at hd'
  refine hQ D h' _ (fun d o e => hs'.extBut d o (fun q => ?_) (hk2 d o (hk1 d o e))) (Nat.le_of_eq hD) ⟨_, _, hd'⟩
  rw [q, ← hD] at e
  exact absurd (Heap.lt_size e) (Nat.lt_irrefl _)

/-- a call of one of the text's own defs, its arguments reckoned first -/
theorem callWith_top {f : Addr} {pos : Pos} {args : List (Bool × Sem Value)} {E : Value → Shared → Prop} {Q : Value → Shared → Prop} (hfn : ∃ oc od fd osl, (KF w).lookup f = some ⟨oc, od, .func fd, osl⟩)
    (h : wpAny (model Pr w) A (evalArgs (.ref f) true args []) (fun x s₁ => (KF w).In s₁.heap ∧ wpAny (model Pr w) A (call (.ref f) x.pos x.kw) Q E s₁) E s) :
    wpAny (model Pr w) A (callWith pos (.ref f) [] args []) Q E s := by
  obtain ⟨oc, od, fd, osl, e⟩ := hfn
  exact callWith_function (o := _) (fd := fd) (wpAny_mono h (fun x s₁ h₁ => ⟨⟨h₁.1 _ _ e, rfl⟩, h₁.2⟩) fun _ _ e => e)

theorem beqSys {h : Heap} {d : Addr} (b : h.NoLimit) (hd : h.objs.size ≤ d) : (d == sysModules) = false := notModules b hd

/-- `calls[x] = add_callers(calls[x], {('t', y, 't'): 1})` -/
theorem put_tie {env : Env} {x y : Str} {px px2 py p1 p2 p3 p4 p5 p6 p7 p8 p9 p10 pc pc2 : Pos} {j k1 k2 k3 : Nat} {a b : Int} {u u2 : Tok} {m : Str → Option Value} {E : Value → Shared → Prop} {Q : Flow → Shared → Prop} {D d : Addr} {rows : List Addr} {ks : List Int}
    (r : Room A 4) (T : TopAt w mg mb s.heap) (hsw : swapsWith (.Call (.Name (Str.ofString "add_callers") p1) [.Subscript (.Name (Str.ofString "calls") pc) (.Name x px) p2, .Dict [some (.Tuple [.Constant (.str (Str.ofString "t")) k1 p3, .Name y py, .Constant (.str (Str.ofString "t")) k2 p4] j p5)] [.Constant (.int 1) k3 p6] p7] [] p8) (some (.Subscript (.Name (Str.ofString "calls") pc2) (.Name x px2) p9)) p10.line env = pure false)
    (hk : env.scope.kind = .function) (hg : env.globals = mainGlobals) (hn : s.heap.Ns env.locals m) (hx : env.kindOf x = some .local) (hy : env.kindOf y = some .local) (hc : env.kindOf (Str.ofString "calls") = some .local) (hac : env.kindOf (Str.ofString "add_callers") = some .globalImplicit)
    (hxd : (x == ("__debug__" : Str)) = false) (hyd : (y == ("__debug__" : Str)) = false)
    (hmx : m x = some (.int a u)) (hmy : m y = some (.int b u2)) (hmc : m (Str.ofString "calls") = some (.ref D)) (hl : s.heap.IsList D (rows.map Value.ref).toArray) (hDL : D ≠ env.locals) (ha : 0 ≤ a) (ha' : a < 1000) (hd : rows[a.toNat]? = some d) (hrow : RowOK w s.heap d ks) (hds : (d == sysModules) = false) (hkb : b ∉ ks) (hlen : ks.length ≤ 100)
    (hQ : ∀ D' h' tk, (∀ d o, d ≠ D → s.heap.get? d = some o → h'.get? d = some o) → h'.IsList D ((rows.set a.toNat D').map Value.ref).toArray → s.heap.get? D' = none → (D' == sysModules) = false → RowOK w h' D' (ks ++ [b]) → Q .next { s with heap := h', toks := tk }) :
    wpAny (model Pr w) A (exec (.Assign [.Subscript (.Name (Str.ofString "calls") pc2) (.Name x px2) p9] (.Call (.Name (Str.ofString "add_callers") p1) [.Subscript (.Name (Str.ofString "calls") pc) (.Name x px) p2, .Dict [some (.Tuple [.Constant (.str (Str.ofString "t")) k1 p3, .Name y py, .Constant (.str (Str.ofString "t")) k2 p4] j p5)] [.Constant (.int 1) k3 p6] p7] [] p8) p10) env) Q E s := by
  refine wpAny_Assign_Subscript ?_ hsw
  refine Call_Name2 (name_top T hk hac hg rfl (by decide) ?_)
  refine callWith_top ⟨_, _, _, _, rfl⟩ (Calls.evalArgs_plain (Calls.spliced_cons ?_))
  have hget : (rows.map Value.ref).toArray[a.toNat]? = some (.ref d) := by rw [List.getElem?_toArray, List.getElem?_map, hd]; rfl
  refine wpAny_Subscript_Name slot_list_getitem.lookup (wpAny_Name (wpAny_loadName_local hk hc hn hmc (wpAny_Name (wpAny_loadName_local hk hx hn hmx ⟨hl.typeIs, wpAny_getItem_list hl ha (by omega) hget ?_⟩) hxd)))
  refine Calls.spliced_cons (one_tie (A := A) (Nat.lt_of_succ_lt r.units) T.nolimit hk hn hy hyd hmy ?_)
  intro D1 h1 tk1 hk1 hD1 ⟨ka, t1, hdict1⟩
  refine Calls.spliced_nil ?_
  have T1 := T.keeps hk1
  refine ⟨T1.X, ?_⟩
  obtain ⟨xs, hxs, hks, hones⟩ := hrow
  refine wpAny_call (add_callers_code (s := { s with heap := h1, toks := tk1 }) r.less T1 (dictH_ext hxs hk1) hdict1 hds (beqSys T.nolimit hD1) ?_ ?_ ?_)
  · rw [hks, List.map_cons, List.map_nil, List.nodup_append]
    refine ⟨?_, by simp, ?_⟩
    · obtain ⟨_, _, _, _, _, _, _, _, hnd⟩ := hxs
      rw [hks] at hnd; exact hnd
    · intro z hz z' hz'
      rw [List.mem_singleton.mp hz']
      intro q
      have q' : z = b := q
      exact hkb (q' ▸ hz)
  · have e := congrArg List.length hks
    rw [List.length_map] at e
    simp only [List.length_cons, List.length_nil]; omega
  intro D2 h2 tk2 hk2 hD2 hdict2
  have k2 : ∀ b o, s.heap.get? b = some o → h2.get? b = some o := fun b o e => hk2 b o (hk1 b o e)
  have hn2 := hn.keeps k2
  have hl2 : h2.IsList D (rows.map Value.ref).toArray := hl.at fun o e => k2 _ o e
  refine wpAny_Name (wpAny_loadName_local hk hc hn2 hmc (wpAny_Name (wpAny_loadName_local hk hx hn2 hmx ?_) hxd))
  have hlt : a.toNat < rows.length := (List.getElem?_eq_some_iff.mp hd).1
  refine wpAny_setItem_list hl2 ha (by omega) (by rw [List.size_toArray, List.length_map]; omega) fun h3 hl3 hs3 => ?_
  have hD2s : s.heap.get? D2 = none := by
    cases e : s.heap.get? D2 with
    | none => rfl
    | some o => have := hk1 _ _ e; rw [fresh hD2] at this; cases this
  refine hQ D2 h3 _ (fun b o hb e => hs3.extBut b o hb (k2 b o e)) ?_ hD2s (beqSys T1.nolimit hD2) ?_
  · rw [List.map_set]
    simpa using hl3
  · refine ⟨xs ++ [(b, ka, .int 1 t1)], ?_, by rw [List.map_append, hks]; rfl, ?_⟩
    · refine dictH_off (bad := [D]) hdict2 (fun z hz => by rw [List.mem_singleton.mp hz]; exact noTup_list hl2) ?_ fun z o hz e => hs3.extBut z o (fun q => hz (by rw [q]; exact List.mem_singleton_self _)) e
      intro q
      rw [List.mem_singleton.mp q] at hD2
      obtain ⟨o, ho, _⟩ := hl
      exact absurd (Nat.lt_of_lt_of_le (Heap.lt_size (hk1 _ _ ho)) hD2) (Nat.lt_irrefl _)
    · intro z hz
      rcases List.mem_append.mp hz with hz | hz
      · exact hones z hz
      · rw [List.mem_singleton.mp hz]; exact ⟨t1, rfl⟩
end
end Mine

namespace Mine

theorem ne_of_live {h : Heap} {b c : Addr} {o : Obj} (e : h.get? b = some o) (hc : h.get? c = none) : b ≠ c := fun q => by rw [q, hc] at e; cases e

section
variable {prog : Program} {w : World} {A : Around} {E : Value → Shared → Prop} {s : Shared}

theorem turns_list {target : PySem.Expr} (hh : A.handled = none) (I ax : Addr) (hne : ax ≠ I) (vs : List Value) {n : Nat} (hn : vs.length = n) :
    KTurns prog w A target I [I, ax] [I] n (fun i v _ => vs[i]? = some v) (fun i v h => vs[i]? = some v ∧ (h.IsListIter I ax (i + 1) ∧ h.IsList ax vs.toArray)) (fun i h => h.IsListIter I ax i ∧ h.IsList ax vs.toArray) := by
  have W := KTurns.ofWalks (target := target) (Walks.list (prog := prog) (w := w) hh I ax hne vs.toArray) fun _ _ _ _ _ st q => letGo_listiter st.1 q
  simp only [List.getElem?_toArray, List.size_toArray, hn] at W
  exact W

/-- a comprehension of one clause: its turns, over the heap hb that it began at -/
theorem comp_one {elt target iter : PySem.Expr} {ifs : List PySem.Expr} {scope : Scope} {pos : Pos} {cl : List (Str × Addr)} {env : Env} {hb : Heap} {I : Addr} {fp wr : List Addr} {n : Nat} {P Md : Nat → Value → Heap → Prop} {St : Nat → Heap → Prop} {fin : Addr → Addr → Result → Shared → Prop → Prop}
    (W : KTurns prog w A target I fp wr n P Md St) (hlive : ∀ i h, St i h → ∀ b ∈ wr, ∃ o, h.get? b = some o) (hst : St 0 s.heap) (hfp : ∀ b ∈ fp, b < s.heap.objs.size) (hwr : ∀ b ∈ wr, hb.get? b = none)
    (hk : ∀ b o, hb.get? b = some o → s.heap.get? b = some o) (hn : n ≤ sizeLine) (hself : ∀ (s : Shared) (Q : Value → Shared → Prop) (E : Value → Shared → Prop), St 0 s.heap → Q (.ref I) s → wpAny (model prog w) A (pyIter (.ref I)) Q E s)
    (Φ : List Addr → Nat → List Value → Heap → Prop) (stab : ∀ bad i ys h h', Φ bad i ys h → Off bad h h' → Φ bad i ys h') (h0 : ∀ bad h, Φ bad 0 [] h)
    (turn : ∀ C D i v ys m s₁ E, i < n → P i v s₁.heap → Φ (C :: D :: wr) i ys s₁.heap → s₁.heap.Ns C m → (∀ b ∈ C :: D :: wr, ∃ o, s₁.heap.get? b = some o) → (∀ b o, hb.get? b = some o → s₁.heap.get? b = some o) → (∀ b ∈ C :: D :: wr, hb.get? b = none) →
      wpAny (model prog w) A (assign target (compEnvC scope cl C env) v) (fun _ s₂ => ∃ m₂, Bound C s₁ m₂ s₂ ∧
        wpAny (model prog w) A (tests ifs (compEnvC scope cl C env)) (fun ok s₃ => Keeps s₂ s₃ ∧ if ok = true then wpAny (model prog w) A (eval elt (compEnvC scope cl C env)) (fun y s₄ => Keeps s₃ s₄ ∧ Φ (C :: D :: wr) (i + 1) (ys ++ [y]) s₄.heap) E s₃ else Φ (C :: D :: wr) (i + 1) ys s₃.heap) E s₂) E s₁)
    (done : ∀ C D h' tk m ys r, Φ (C :: D :: wr) n ys h' → h'.PlainList D ys.toArray → h'.Ns C m → (∀ b o, hb.get? b = some o → h'.get? b = some o) → hb.get? D = none → hb.get? C = none → D ≠ C → fin D C (.ok .next) { s with heap := h', toks := tk } r → r) :
    CompGoal prog w A scope cl env elt [⟨target, iter, ifs, 0⟩] pos (.ref I) s fin := by
  intro D C h₃ tk₃ R' hD hC hz hacc hnC hk₃ hfin
  have hst₃ : St 0 h₃ := W.frame _ _ _ hst fun b _ o e => hk₃ b o e
  refine ⟨fun E Q q => hself _ _ _ hst₃ q, ?_⟩
  have base₃ : ∀ b o, hb.get? b = some o → h₃.get? b = some o := fun b o e => hk₃ b o (hk b o e)
  have hD0 : s.heap.get? D = none := fresh (Nat.le_of_eq hD.symm)
  have hC0 : s.heap.get? C = none := fresh (by rw [hC, hD]; exact Nat.le_succ _)
  have hDb : hb.get? D = none := by
    cases e : hb.get? D with
    | none => rfl
    | some o => rw [hk _ _ e] at hD0; cases hD0
  have hCb : hb.get? C = none := by
    cases e : hb.get? C with
    | none => rfl
    | some o => rw [hk _ _ e] at hC0; cases hC0
  have hDC : D ≠ C := by rw [hC]; exact Nat.ne_of_lt (Nat.lt_succ_self _)
  have hall : ∀ b ∈ C :: D :: wr, hb.get? b = none := fun b m => by
    rcases List.mem_cons.mp m with rfl | m
    · exact hCb
    · rcases List.mem_cons.mp m with rfl | m
      · exact hDb
      · exact hwr b m
  have bad : ∀ b o, hb.get? b = some o → b ∉ C :: D :: wr := fun b o e m => by rw [hall b m] at e; cases e
  refine level_last (d := 0) (n := n) (C := C) (ys₀ := []) rfl rfl rfl W hlive (fun m => ?_) (fun m => ?_) hDC (fun i ys _ h => Φ (C :: D :: wr) i ys h) (fun i ys m h h' p o => stab _ _ _ _ _ p o) hst₃ hacc hnC (h0 _ _) (by simpa using hn) ?_ ?_
  · have := hfp _ m; rw [hC, hD] at this; exact absurd (Nat.lt_of_succ_lt this) (Nat.lt_irrefl _)
  · have := hfp _ m; rw [hD] at this; exact absurd this (Nat.lt_irrefl _)
  · intro i v ys m s₁ E hi hv hΦ hns hlv hoff
    exact turn C D i v ys m s₁ E hi hv hΦ hns hlv (fun b o e => hoff b o (bad b o e) (base₃ b o e)) hall
  · intro h' tk m ys hΦ hacc' hn' hoff
    exact done C D h' tk m ys _ hΦ hacc' hn' (fun b o e => hoff b o (bad b o e) (base₃ b o e)) hDb hCb hDC (hfin _)

/-- over a list that stands -/
theorem comp_list {elt target iter : PySem.Expr} {ifs : List PySem.Expr} {scope : Scope} {pos : Pos} {cl : List (Str × Addr)} {env : Env} {l : Addr} {vs : List Value} {fin : Addr → Addr → Result → Shared → Prop → Prop}
    (hh : A.handled = none) (hl : s.heap.IsList l vs.toArray) (hn : vs.length ≤ sizeLine)
    (Φ : List Addr → Nat → List Value → Heap → Prop) (stab : ∀ bad i ys h h', Φ bad i ys h → Off bad h h' → Φ bad i ys h') (h0 : ∀ bad h, Φ bad 0 [] h)
    (turn : ∀ C D I i v ys m s₁ E, i < vs.length → vs[i]? = some v → Φ [C, D, I] i ys s₁.heap → s₁.heap.Ns C m → (∀ b ∈ [C, D, I], ∃ o, s₁.heap.get? b = some o) → (∀ b o, s.heap.get? b = some o → s₁.heap.get? b = some o) → (∀ b ∈ [C, D, I], s.heap.get? b = none) →
      wpAny (model prog w) A (assign target (compEnvC scope cl C env) v) (fun _ s₂ => ∃ m₂, Bound C s₁ m₂ s₂ ∧
        wpAny (model prog w) A (tests ifs (compEnvC scope cl C env)) (fun ok s₃ => Keeps s₂ s₃ ∧ if ok = true then wpAny (model prog w) A (eval elt (compEnvC scope cl C env)) (fun y s₄ => Keeps s₃ s₄ ∧ Φ [C, D, I] (i + 1) (ys ++ [y]) s₄.heap) E s₃ else Φ [C, D, I] (i + 1) ys s₃.heap) E s₂) E s₁)
    (done : ∀ C D I h' tk m ys r, Φ [C, D, I] vs.length ys h' → h'.PlainList D ys.toArray → h'.Ns C m → (∀ b o, s.heap.get? b = some o → h'.get? b = some o) → s.heap.get? D = none → s.heap.get? C = none → D ≠ C → fin D C (.ok .next) { s with heap := h', toks := tk } r → r) :
    wpAny (model prog w) A (pyIter (.ref l)) (fun it s₂ => CompGoal prog w A scope cl env elt [⟨target, iter, ifs, 0⟩] pos it s₂ fin) E s := by
  refine wpAny_pyIter_list hl ?_
  obtain ⟨o, ho, _⟩ := id hl
  have hll := Heap.lt_size ho
  have hI0 := fresh (Nat.le_refl s.heap.objs.size)
  have hk : ∀ b o, s.heap.get? b = some o → (s.heap.push { cls := .type "list_iterator", data := .fields #[.ref l, .int 0 0] }).get? b = some o := fun b o e => Heap.get?_push_of_some _ e
  refine comp_one (hb := s.heap) (turns_list hh s.heap.objs.size l (Nat.ne_of_lt hll) vs rfl) (fun i h st b hb => ?_) ⟨⟨_, Heap.get?_push_size _ rfl, rfl, rfl⟩, hl.at fun o e => hk _ o e⟩ (fun b hb => ?_) (fun b hb => by rw [List.mem_singleton.mp hb]; exact hI0) hk hn (fun s Q E st q => wpAny_pyIter_listiter st.1 q) Φ stab h0
    (fun C D i v ys m s₁ E => turn C D s.heap.objs.size i v ys m s₁ E) (fun C D h' tk m ys r => done C D s.heap.objs.size h' tk m ys r)
  · rw [List.mem_singleton.mp hb]; obtain ⟨o, ho, _⟩ := st.1; exact ⟨o, ho⟩
  · rw [Heap.size_push]
    simp only [List.mem_cons, List.not_mem_nil, or_false] at hb
    rcases hb with rfl | rfl
    · exact Nat.lt_succ_self _
    · exact Nat.lt_succ_of_lt hll
end
end Mine

namespace Mine

/-- the points that i is tied to, in the ties' order -/
def nb (T : List (Int × Int)) (i : Int) : List Int := T.filterMap fun p => if p.1 = i then some p.2 else if p.2 = i then some p.1 else none
/-- ties as the law builds them -/
def Good (T : List (Int × Int)) (n : Nat) : Prop := T.Nodup ∧ ∀ p ∈ T, 0 ≤ p.1 ∧ p.1 < p.2 ∧ p.2 < (n : Int)

theorem nb_snoc (T : List (Int × Int)) (p : Int × Int) (i : Int) : nb (T ++ [p]) i = nb T i ++ (if p.1 = i then [p.2] else if p.2 = i then [p.1] else []) := by
  unfold nb
  rw [List.filterMap_append]
  congr 1
  simp only [List.filterMap_cons, List.filterMap_nil]
  split <;> rename_i h <;> (repeat' split at h) <;> simp_all
theorem nb_length_le (T : List (Int × Int)) (i : Int) : (nb T i).length ≤ T.length := List.length_filterMap_le _ _
theorem mem_nb {T : List (Int × Int)} {i j : Int} (h : j ∈ nb T i) : (i, j) ∈ T ∨ (j, i) ∈ T := by
  obtain ⟨p, hp, e⟩ := List.mem_filterMap.mp h
  obtain ⟨a, b⟩ := p
  dsimp only at e
  split at e
  · rename_i q; cases e; subst q; exact .inl hp
  · split at e
    · rename_i q; cases e; subst q; exact .inr hp
    · cases e
theorem fresh_nb {T T' : List (Int × Int)} {n : Nat} {a b : Int} (hT : Good (T' ++ (a, b) :: T) n) : b ∉ nb T' a ∧ a ∉ nb T' b := by
  have h1 : 0 ≤ a ∧ a < b ∧ b < (n : Int) := hT.2 (a, b) (by simp)
  have hnd := hT.1
  rw [List.nodup_append] at hnd
  constructor
  · intro h
    rcases mem_nb h with q | q
    · exact hnd.2.2 _ q (a, b) List.mem_cons_self rfl
    · have := (hT.2 (b, a) (List.mem_append_left _ q)).2.1
      have : b < a := this
      omega
  · intro h
    rcases mem_nb h with q | q
    · have : b < a := (hT.2 (b, a) (List.mem_append_left _ q)).2.1
      omega
    · exact hnd.2.2 _ q (a, b) List.mem_cons_self rfl

theorem rowNil {w : World} {h h' : Heap} {d : Addr} (r : RowOK w h d []) (e : ∀ o, h.get? d = some o → h'.get? d = some o) : RowOK w h' d [] := by
  obtain ⟨xs, ⟨o, es, ep, ho, hx, hdt, he, his, hn⟩, hk, hv⟩ := r
  have : xs = [] := List.map_eq_nil_iff.mp hk
  subst this
  exact ⟨[], ⟨o, es, ep, e _ ho, hx, hdt, he, fun y hy => by simp at hy, hn⟩, rfl, hv⟩

section
variable {w : World} {A : Around} {s : Shared} {mg mb : Str → Option Value}

/-- `x, y = v`, v a tuple of two ints -/
theorem assign_pair {env : Env} {x y : Str} {px py pos : Pos} {j : Nat} {v : Value} {p : Int × Int} {m : Str → Option Value} {E : Value → Shared → Prop} {Q : Unit → Shared → Prop} (hh : A.handled = none)
    (hx : env.kindOf x = some .local) (hy : env.kindOf y = some .local) (hp : (env.scope.kind == .class || (env.scope.kind == .module && env.locals != env.globals)) = false) (hn : s.heap.Ns env.locals m) (hv : pairOf s.heap v = some p)
    (hQ : ∀ h' tk t u, h'.Ns env.locals (fun z => if z = y then some (.int p.2 u) else if z = x then some (.int p.1 t) else m z) → (∀ b o, b ≠ env.locals → s.heap.get? b = some o → h'.get? b = some o) → Q () { s with heap := h', toks := tk }) :
    wpAny (model Pr w) A (assign (.Tuple [.Name x px, .Name y py] j pos) env v) Q E s := by
  obtain ⟨a, o, n, t, u, rfl, ho, hc, hd⟩ := pairOf_some hv
  refine wpAny_assign_Tuple hh ⟨o, ho, hc, n, hd⟩ rfl rfl fun h₁ hx₁ => ?_
  show wpAny _ _ (do holding [.int p.2 u] (assign (.Name x px) env (.int p.1 t)); do holding [] (assign (.Name y py) env (.int p.2 u)); pure ()) _ _ _
  have k₁ : ∀ b o, s.heap.get? b = some o → h₁.get? b = some o := fun b o e => hx₁ b o (Nat.ne_of_lt (Heap.lt_size e)) e
  refine wpAny_bind (wpAny_holding (wpAny_assign_Name (wpAny_storeName_local hx (hn.keeps k₁) (fun h₂ hn₂ hs₂ => ?_) hp)))
  refine wpAny_bind (wpAny_holding (wpAny_assign_Name (wpAny_storeName_local hy hn₂ (fun h₃ hn₃ hs₃ => wpAny_pure ?_) hp)))
  exact hQ h₃ _ _ _ hn₃ fun b o hb e => hs₃.extBut b o hb (hs₂.extBut b o hb (k₁ b o e))

theorem counts_code {l : Addr} {T : List (Int × Int)} {n : Nat} {t : Tok} {R : Result → Shared → Prop} (r : Room A 6) (Tp : TopAt w mg mb s.heap) (hl : PairsL s.heap l T) (hT : Good T n) (hn : n ≤ 10) (hlen : T.length ≤ 90)
    (hR : ∀ D h' tk (vs : List Value), (∀ b o, s.heap.get? b = some o → h'.get? b = some o) → h'.PlainList D vs.toArray → IntsAre vs ((List.range n).map fun i => ((nb T (i : Nat)).length : Int)) → R (.ok (.ret (.ref D))) { s with heap := h', toks := tk }) :
    codeAny (model Pr w) A (.call (.ref 80) ⟨[.ref l, .int n t], []⟩) R s := by
  refine codeAny_call_def (fd := fnOf _ _ _ _ _ _ _ _ _ _ _ _) (o := _) r.depth (Tp.X 80 _ rfl) rfl Tp.nolimit (codeRec_of Tp.X rfl) rfl (binds := [(Str.ofString "ties", .ref l), (Str.ofString "many", .int n t)]) (BindsTo.of_eq rfl) (by decide) (by intro x hx; simp at hx; rcases hx with rfl | rfl <;> rfl) ?_
  intro h₁ hns hk₁
  have r' := r.deeper (callEnv (fnOf (Str.ofString "_law_counts") (Str.ofString "_law_counts") default [] default .none .none .none .none none .none .none) 0 0)
  have T1 := Tp.keeps hk₁
  -- calls = [{} for point in range(many)]
  refine wpAny_execs_cons (comp_assign (cl := []) rfl rfl (by decide) rfl (by decide) (by intro _; rfl) ?_)
  refine iter_range1 T1 rfl rfl rfl rfl (n := n) (by omega) rfl (fun Q' q => wpAny_Name (wpAny_loadName_local rfl rfl hns rfl (q _))) ?_
  intro h₂ tk₂ I hk₂ hI hit D C h₃ tk₃ R' hD hC hz hacc hnC hk₃ hfin
  refine ⟨fun E Q q => wpAny_pyIter_rangeiter (hk₃ _ _ hit) q, ?_⟩
  dsimp only at hI hk₂ hk₃ hD hacc hnC hz
  have base₃ : ∀ b o, h₁.get? b = some o → h₃.get? b = some o := fun b o e => hk₃ b o (hk₂ b o e)
  have hIlt : I < h₂.objs.size := Heap.lt_size hit
  have hD0 : h₂.get? D = none := fresh (Nat.le_of_eq hD.symm)
  have hC0 : h₂.get? C = none := fresh (by rw [hC, hD]; exact Nat.le_succ _)
  have hDC : D ≠ C := by rw [hC]; exact Nat.ne_of_lt (Nat.lt_succ_self _)
  have hID : I ≠ D := by rw [hD]; exact Nat.ne_of_lt hIlt
  have hIC : I ≠ C := by rw [hC, hD]; exact Nat.ne_of_lt (Nat.lt_succ_of_lt hIlt)
  have bad1 : ∀ b o, h₁.get? b = some o → b ≠ C ∧ b ≠ D ∧ b ≠ I := fun b o e =>
    ⟨fun q => by (rw [q] at e; rw [hk₂ _ _ e] at hC0; cases hC0), fun q => by (rw [q] at e; rw [hk₂ _ _ e] at hD0; cases hD0), fun q => by (rw [q] at e; rw [e] at hI; cases hI)⟩
  refine level_last (d := 0) (n := n) (C := C) (ys₀ := []) rfl rfl rfl (turns_range (prog := Pr) (w := w) (A := Around.deeper A _) r.1 I n) (fun i h st b hb => by rw [List.mem_singleton.mp hb]; exact ⟨_, st⟩) (by simpa using Ne.symm hIC) (by simpa using Ne.symm hID) hDC
    (fun i ys _ h => ∃ rows : List Addr, ys = rows.map Value.ref ∧ rows.length = i ∧ ∀ d ∈ rows, d ∉ C :: D :: [I] ∧ (d == sysModules) = false ∧ h₁.get? d = none ∧ RowOK w h d []) ?_ (by simpa using hk₃ _ _ hit) hacc hnC ⟨[], rfl, rfl, fun d hd => by simp at hd⟩ (by rw [sizeLine_eq]; simp; omega) ?_ ?_
  · rintro i ys m h h' ⟨rows, rfl, hrl, hrow⟩ hoff
    exact ⟨rows, rfl, hrl, fun d hd => ⟨(hrow d hd).1, (hrow d hd).2.1, (hrow d hd).2.2.1, rowNil (hrow d hd).2.2.2 fun o e => hoff d o (hrow d hd).1 e⟩⟩
  · rintro i v ys m s₄ E hi ⟨t₄, rfl⟩ ⟨rows, rfl, hrl, hrow⟩ hns₄ hlive₄ hoff₄
    have base₄ : ∀ b o, h₁.get? b = some o → s₄.heap.get? b = some o := fun b o e => hoff₄ b o (by simpa using bad1 b o e) (base₃ b o e)
    refine wpAny_assign_Name (wpAny_storeName_local rfl hns₄ (fun h₅ hn₅ hs₅ => ?_) rfl)
    refine ⟨_, ⟨h₅, _, rfl, hn₅, fun b o hb e => hs₅.extBut b o hb e⟩, wpAny_tests_nil ⟨keepsRefl _, ?_⟩⟩
    simp only [if_true]
    refine wpAny_Dict_empty ⟨⟨_, _, rfl, fun b o e => Heap.get?_push_of_some _ e⟩, rows ++ [h₅.objs.size], by rw [List.map_append]; rfl, by rw [List.length_append, hrl]; rfl, ?_⟩
    intro d hd
    rcases List.mem_append.mp hd with hd | hd
    · refine ⟨(hrow d hd).1, (hrow d hd).2.1, (hrow d hd).2.2.1, rowNil (hrow d hd).2.2.2 fun o e => Heap.get?_push_of_some _ (hs₅.extBut d o (fun q => (hrow d hd).1 (by rw [q]; exact List.mem_cons_self)) e)⟩
    · rw [List.mem_singleton.mp hd]
      have hz5 : h₅.objs.size = s₄.heap.objs.size := hs₅.1
      refine ⟨fun q => ?_, beqSys (T1.keeps base₄).nolimit (Nat.le_of_eq hz5.symm), ?_, ⟨[], Heap.DictOfH.new _, rfl, fun y hy => by simp at hy⟩⟩
      · obtain ⟨o, ho⟩ := hlive₄ _ q
        rw [hz5] at ho
        exact absurd (Heap.lt_size ho) (Nat.lt_irrefl _)
      · cases e : h₁.get? h₅.objs.size with
        | none => rfl
        | some o => have := Heap.lt_size (base₄ _ _ e); rw [hz5] at this; exact absurd this (Nat.lt_irrefl _)
  · rintro h₄ tk₄ m₄ ys ⟨rows, rfl, hrl, hrow⟩ hacc₄ hn₄ hoff₄
    have base₄ : ∀ b o, h₁.get? b = some o → h₄.get? b = some o := fun b o e => hoff₄ b o (by simpa using bad1 b o e) (base₃ b o e)
    obtain ⟨oL, _, _, hoL, _⟩ := id hns
    have hLC : s.heap.objs.size ≠ C := (bad1 _ _ hoL).1
    have hLD : s.heap.objs.size ≠ D := (bad1 _ _ hoL).2.1
    refine hfin _ (wpAny_storeName_local rfl (hns.at' fun o e => base₄ _ o e) (fun h₅ hn₅ hs₅ => ⟨m₄, hn₄.sameBut hs₅ (Ne.symm hLC), fun h₆ hs₆ => ?_⟩) rfl)
    have k₆ : ∀ b o, b ≠ s.heap.objs.size → b ≠ C → h₄.get? b = some o → h₆.get? b = some o := fun b o h1 h2 e => hs₆.extBut b o h2 (hs₅.extBut b o h1 e)
    have F6 : Fr s.heap s.heap.objs.size h₆ (fun y => if y = Str.ofString "calls" then some (.ref D) else List.lookup y [(Str.ofString "ties", Value.ref l), (Str.ofString "many", Value.int n t)].reverse) :=
      ⟨hn₅.sameBut hs₆ hLC, fun b o e => k₆ b o (Nat.ne_of_lt (Heap.lt_size e)) (bad1 b o (hk₁ b o e)).1 (base₄ b o (hk₁ b o e)), Nat.le_refl _⟩
    have hD6 : h₆.IsList D (rows.map Value.ref).toArray := (hacc₄.at fun o e => k₆ D o (Ne.symm hLD) hDC e).isList
    have hrow6 : ∀ d ∈ rows, d ≠ s.heap.objs.size ∧ d ≠ D ∧ (d == sysModules) = false ∧ RowOK w h₆ d [] := fun d hd => by
      obtain ⟨h1, h2, h3, h4⟩ := hrow d hd
      have hL : d ≠ s.heap.objs.size := fun q => by (rw [q] at h3; rw [hoL] at h3; cases h3)
      have hC' : d ≠ C := fun q => h1 (by rw [q]; exact List.mem_cons_self)
      exact ⟨hL, fun q => h1 (by rw [q]; exact List.mem_cons_of_mem _ List.mem_cons_self), h2, rowNil h4 fun o e => k₆ d o hL hC' e⟩
    have hDs : s.heap.get? D = none := by
      cases e : s.heap.get? D with
      | none => rfl
      | some o => have := hk₂ _ _ (hk₁ _ _ e); rw [hD0] at this; cases this
    clear hfin hacc hnC hz hit hI hIlt hIC hID bad1 base₃ base₄ hrow hoff₄ hn₄ hacc₄ hs₅ hn₅ hs₆ k₆ hk₃
    have hmc : (fun y => if y = Str.ofString "calls" then some (Value.ref D) else List.lookup y [(Str.ofString "ties", Value.ref l), (Str.ofString "many", Value.int n t)].reverse) (Str.ofString "calls") = some (.ref D) := if_pos rfl
    have hmt : (fun y => if y = Str.ofString "calls" then some (Value.ref D) else List.lookup y [(Str.ofString "ties", Value.ref l), (Str.ofString "many", Value.int n t)].reverse) (Str.ofString "ties") = some (.ref l) := rfl
    generalize (fun y => if y = Str.ofString "calls" then some (Value.ref D) else List.lookup y [(Str.ofString "ties", Value.ref l), (Str.ofString "many", Value.int n t)].reverse) = m₆ at F6 hmc hmt
    have hDL : D ≠ s.heap.objs.size := Ne.symm hLD
    clear hLC hDC hD0 hC0
    -- for one, other in ties
    obtain ⟨vs, hvl, hvp⟩ := id hl
    have hvlen := hvp.length
    refine wpAny_execs_cons (wpAny_For (wpAny_Name (wpAny_loadName_local rfl rfl F6.ns hmt (wpAny_pyIter_list (hvl.at fun o e => F6.keep l o e) ?_))))
    obtain ⟨J, hJ⟩ : ∃ J, J = h₆.objs.size := ⟨_, rfl⟩
    have hJn : s.heap.get? J = none := fresh (by rw [hJ]; exact Nat.le_of_lt (frSize F6))
    have hJL : J ≠ s.heap.objs.size := by rw [hJ]; exact Nat.ne_of_gt F6.ns.lt
    have hJD : J ≠ D := by
      obtain ⟨o, ho, _⟩ := hD6
      rw [hJ]; exact Nat.ne_of_gt (Heap.lt_size ho)
    have hJt : (h₆.push { cls := .type "list_iterator", data := .fields #[.ref l, .int 0 0] }).IsListIter J l 0 := ⟨_, by rw [hJ]; exact Heap.get?_push_size _ rfl, rfl, rfl⟩
    have F7 := F6.push { cls := .type "list_iterator", data := .fields #[.ref l, .int 0 0] }
    have k7 : ∀ b o, h₆.get? b = some o → (h₆.push { cls := .type "list_iterator", data := .fields #[.ref l, .int 0 0] }).get? b = some o := fun b o e => Heap.get?_push_of_some _ e
    dsimp only at hJt F7 ⊢
    rw [← hJ]
    have hD7 := hD6.at fun o e => k7 _ o e
    have hrow7 : ∀ j d, rows[j]? = some d → d ∉ [s.heap.objs.size, D, J] ∧ (d == sysModules) = false ∧ RowOK w (h₆.push { cls := .type "list_iterator", data := .fields #[.ref l, .int 0 0] }) d (nb (T.take 0) (j : Nat)) := fun j d hj => by
      obtain ⟨h1, h2, h3, h4⟩ := hrow6 d (List.mem_of_getElem? hj)
      obtain ⟨o, ho⟩ := h4.get
      refine ⟨?_, h3, h4.ext k7⟩
      simp only [List.mem_cons, List.not_mem_nil, or_false, not_or]
      exact ⟨h1, h2, by rw [hJ]; exact Nat.ne_of_lt (Heap.lt_size ho)⟩
    generalize h₆.push { cls := .type "list_iterator", data := .fields #[.ref l, .int 0 0] } = h₇ at hJt F7 hD7 hrow7 ⊢
    clear k7 hrow6 hD6 hmt F6 hJ
    refine codeAny_forLoop_any (fun k s' => ∃ h' tk m' i rows, s' = { s with heap := h', toks := tk } ∧ h'.IsListIter J l i ∧ Fr s.heap s.heap.objs.size h' m' ∧ m' (Str.ofString "calls") = some (.ref D) ∧ h'.IsList D (rows.map Value.ref).toArray ∧ rows.length = n ∧
      (∀ j d, rows[j]? = some d → d ∉ [s.heap.objs.size, D, J] ∧ (d == sysModules) = false ∧ RowOK w h' d (nb (T.take i) (j : Nat))) ∧ i ≤ T.length ∧ k = T.length + 1 - i) ?_ (T.length + 1)
      ⟨h₇, _, m₆, 0, rows, rfl, hJt, F7, hmc, hD7, hrl, hrow7, Nat.zero_le _, rfl⟩
    clear hD7 hrl hrow7 hJt F7 hmc
    rintro k s' ⟨h', tk, m', i, rows, rfl, hit', F', hm', hD', hrl, hrow', hi, rfl⟩
    have hvl' : h'.IsList l vs.toArray := hvl.at fun o e => F'.keep l o e
    cases hx : vs[i]? with
    | none =>
      have hi' : i = T.length := Nat.le_antisymm hi (by rw [← hvlen]; simpa using hx)
      subst hi'
      rw [List.take_length] at hrow'
      refine wpAny_pyNext_list_end r'.1 hit' hvl' (by rw [List.getElem?_toArray]; exact hx) fun h₁ he₁ => wpAny_execs_nil ?_
      have F1 := frExt F' hJL hJn fun b o hb e => he₁ b o hb e
      have hD1 := hD'.at fun o e => he₁ D o (Ne.symm hJD) e
      have hrow1 : ∀ j d, rows[j]? = some d → (d == sysModules) = false ∧ RowOK w h₁ d (nb T (j : Nat)) := fun j d hj => by
        obtain ⟨h1, h2, h3⟩ := hrow' j d hj
        refine ⟨h2, h3.off (bad := [J]) (fun b hb => by rw [List.mem_singleton.mp hb]; exact noTup_iter hit') (fun q => h1 (by rw [List.mem_singleton.mp q]; simp)) fun b o hb e => he₁ b o (fun q => hb (by rw [q]; simp)) e⟩
      clear hrow' hit' F' hD' he₁ hvl'
      refine wpAny_execs_cons (wpAny_Return_some (comp_eval (cl := []) rfl (by decide) rfl (by decide) (by intro _; rfl) ?_))
      refine wpAny_Name (wpAny_loadName_local rfl rfl F1.ns hm' (comp_list r'.1 hD1 (by rw [sizeLine_eq, List.length_map]; omega) (fun _ i ys _ => IntsAre ys ((List.range i).map fun i => ((nb T (i : Nat)).length : Int))) (fun _ _ _ _ _ p _ => p) (fun _ _ => .nil) ?_ ?_))
      · intro C D₂ I i v ys m s₄ E hi hv hΦ hns₄ hlive₄ base₄ hall
        rw [List.length_map] at hi
        rw [List.getElem?_map, List.getElem?_eq_getElem hi] at hv
        cases hv
        obtain ⟨dsys, drow⟩ := hrow1 i _ (List.getElem?_eq_getElem hi)
        refine wpAny_assign_Name (wpAny_storeName_local rfl hns₄ (fun h₅ hn₅ hs₅ => ?_) rfl)
        have base₅ : ∀ b o, h₁.get? b = some o → h₅.get? b = some o := fun b o e => hs₅.extBut b o (ne_of_live e (hall C List.mem_cons_self)) (base₄ b o e)
        refine ⟨_, ⟨h₅, _, rfl, hn₅, fun b o hb e => hs₅.extBut b o hb e⟩, wpAny_tests_nil ⟨keepsRefl _, ?_⟩⟩
        simp only [if_true]
        have T5 := Tp.keeps (h' := h₅) fun b o e => base₅ b o (F1.keep b o e)
        refine Call_Name1 (name_top T5 rfl rfl rfl rfl (by decide) ?_) rfl
        refine callWith_top ⟨_, _, _, _, rfl⟩ (Calls.evalArgs_plain (Calls.spliced_cons (wpAny_Name (wpAny_loadName_local rfl rfl hn₅ (if_pos rfl) (Calls.spliced_nil ⟨T5.X, ?_⟩)))))
        obtain ⟨xs, hx1, hx2, hx3⟩ := drow.ext base₅
        obtain ⟨ep, hde⟩ := DEs.ofH hx1
        refine wpAny_call (count_calls_code (r'.less.less) T5 hde dsys ?_ fun t' s' hk => ⟨hk, ?_⟩)
        · intro e he
          rw [List.mem_toArray] at he
          obtain ⟨z, hz, rfl⟩ := List.mem_map.mp he
          exact hx3 z hz
        · rw [List.range_succ, List.map_append]
          refine IntsAre.append hΦ ?_
          have hlen' : xs.length = (nb T (i : Nat)).length := by rw [← hx2, List.length_map]
          rw [List.size_toArray, List.length_map, hlen']
          exact .cons _ _ .nil
      · intro C D₂ I h' tk' m₅ ys r₂ hΦ' hacc' hn' base' hD0 hC0 hDC hfin
        rw [List.length_map, hrl] at hΦ'
        refine hfin m₅ hn' fun h'' hs'' => ?_
        have k' : ∀ b o, h₁.get? b = some o → h''.get? b = some o := fun b o e => hs''.extBut b o (ne_of_live e hC0) (base' b o e)
        exact hR D₂ h'' _ ys (fun b o e => k' b o (F1.keep b o e)) (hacc'.at fun o e => hs''.extBut _ o hDC e) hΦ'
    | some v =>
      obtain ⟨⟨a, b⟩, hT1, hp⟩ := hvp.get hx
      have hlt : i < T.length := (List.getElem?_eq_some_iff.mp hT1).1
      have hsplit : T = T.take i ++ (a, b) :: T.drop (i + 1) := by
        have : T[i] = (a, b) := (List.getElem?_eq_some_iff.mp hT1).2
        rw [← this, List.getElem_cons_drop, List.take_append_drop]
      have hab : 0 ≤ a ∧ a < b ∧ b < (n : Int) := hT.2 (a, b) (List.mem_of_getElem? hT1)
      obtain ⟨fr1, fr2⟩ := fresh_nb (T := T.drop (i + 1)) (T' := T.take i) (n := n) (a := a) (b := b) (hsplit ▸ hT)
      have hp' : pairOf h' v = some (a, b) := pairOf_ext hp fun b o e => F'.keep b o e
      refine wpAny_pyNext_list_item hit' hvl' (by rw [List.getElem?_toArray]; exact hx) fun h₁ hit₁ hs₁ => ?_
      refine letGo_listiter hit₁ ?_
      have F1 := F'.change hs₁ hJL hJn
      have hp₁ : pairOf h₁ v = some (a, b) := pairOf_ext hp fun b o e => F1.keep b o e
      refine assign_pair r'.1 rfl rfl rfl F1.ns hp₁ fun h₂ tk₂ t2 u2 hn₂ hk₂ => ?_
      have F2 : Fr s.heap s.heap.objs.size h₂ (fun z => if z = Str.ofString "other" then some (.int b u2) else if z = Str.ofString "one" then some (.int a t2) else m' z) :=
        ⟨hn₂, fun x o e => hk₂ x o (Nat.ne_of_lt (Heap.lt_size e)) (F1.keep x o e), Nat.le_refl _⟩
      have hone : (fun z => if z = Str.ofString "other" then some (Value.int b u2) else if z = Str.ofString "one" then some (.int a t2) else m' z) (Str.ofString "one") = some (.int a t2) := (if_neg (by decide)).trans (if_pos rfl)
      have hoth : (fun z => if z = Str.ofString "other" then some (Value.int b u2) else if z = Str.ofString "one" then some (.int a t2) else m' z) (Str.ofString "other") = some (.int b u2) := if_pos rfl
      have hcal : (fun z => if z = Str.ofString "other" then some (Value.int b u2) else if z = Str.ofString "one" then some (.int a t2) else m' z) (Str.ofString "calls") = some (.ref D) := (if_neg (by decide)).trans ((if_neg (by decide)).trans hm')
      generalize (fun z => if z = Str.ofString "other" then some (Value.int b u2) else if z = Str.ofString "one" then some (.int a t2) else m' z) = m₂ at F2 hone hoth hcal
      clear hn₂
      have k₂ : Off [s.heap.objs.size, D, J] h' h₂ := fun x o hb e => hk₂ x o (fun q => hb (by rw [q]; exact List.mem_cons_self)) (hs₁.extBut x o (fun q => hb (by rw [q]; simp)) e)
      have hit₂ : h₂.IsListIter J l (i + 1) := hit₁.at fun o e => hk₂ J o hJL e
      have hD₂ : h₂.IsList D (rows.map Value.ref).toArray := hD'.at fun o e => hk₂ D o hDL (hs₁.extBut D o (Ne.symm hJD) e)
      have nt' : NoTup [s.heap.objs.size, D, J] h' := fun x hb => by
        simp only [List.mem_cons, List.not_mem_nil, or_false] at hb
        rcases hb with rfl | rfl | rfl
        · exact noTup_ns F'.ns
        · exact noTup_list hD'
        · exact noTup_iter hit'
      have hrow₂ : ∀ j d, rows[j]? = some d → d ∉ [s.heap.objs.size, D, J] ∧ (d == sysModules) = false ∧ RowOK w h₂ d (nb (T.take i) (j : Nat)) := fun j d hj => ⟨(hrow' j d hj).1, (hrow' j d hj).2.1, (hrow' j d hj).2.2.off nt' (hrow' j d hj).1 k₂⟩
      clear hrow' nt' k₂ hit₁ hs₁ hD' hk₂ hit' hvl' hp' hp₁ F1 F'
      obtain ⟨x, rfl⟩ : ∃ x : Nat, a = x := ⟨a.toNat, by omega⟩
      obtain ⟨y, rfl⟩ : ∃ y : Nat, b = y := ⟨b.toNat, by omega⟩
      have hxn : x < rows.length := by omega
      have hyn : y < rows.length := by omega
      have hxy : x ≠ y := by omega
      obtain ⟨dx1, dx2, dx3⟩ := hrow₂ x _ (List.getElem?_eq_getElem hxn)
      have lenx : ∀ z, (nb (T.take i) z).length ≤ 100 := fun z => Nat.le_trans (nb_length_le _ _) (by rw [List.length_take]; omega)
      have T2 := Tp.keeps F2.keep
      have NoD : ∀ {D' : Addr}, h₂.get? D' = none → D' ∉ [s.heap.objs.size, D, J] := fun {D'} e hb => by
        simp only [List.mem_cons, List.not_mem_nil, or_false] at hb
        rcases hb with rfl | rfl | rfl
        · obtain ⟨o, _, _, ho, _⟩ := F2.ns; rw [ho] at e; cases e
        · obtain ⟨o, ho, _⟩ := hD₂; rw [ho] at e; cases e
        · obtain ⟨o, ho, _⟩ := hit₂; rw [ho] at e; cases e
      refine wpAny_execs_cons (put_tie (rows := rows) (ks := nb (T.take i) x) (r'.less) T2 (by rfl) rfl rfl F2.ns rfl rfl rfl rfl (by decide) (by decide) hone hoth hcal hD₂ hDL hab.1 (by omega) (List.getElem?_eq_getElem hxn) dx3 dx2 fr1 (lenx _) ?_)
      intro D₃ h₃ tk₃ hk₃ hD₃ hn₃ hs₃ hr₃
      rw [Int.toNat_natCast] at hD₃
      have F3 : Fr s.heap s.heap.objs.size h₃ m₂ := frExt F2 hDL hDs fun z o hb e => hk₃ z o hb e
      have hit₃ : h₃.IsListIter J l (i + 1) := hit₂.at fun o e => hk₃ J o hJD e
      have T3 := Tp.keeps F3.keep
      have nt₂ : NoTup [D] h₂ := fun z hb => by rw [List.mem_singleton.mp hb]; exact noTup_list hD₂
      have offD : ∀ {z : Addr}, z ∉ [s.heap.objs.size, D, J] → z ∉ [D] := fun hz q => hz (by rw [List.mem_singleton.mp q]; simp)
      have o₃ : Off [D] h₂ h₃ := fun z o hb e => hk₃ z o (fun q => hb (by rw [q]; simp)) e
      obtain ⟨dy1, dy2, dy3⟩ := hrow₂ y _ (List.getElem?_eq_getElem hyn)
      refine wpAny_execs_cons (put_tie (rows := rows.set x D₃) (ks := nb (T.take i) y) (d := rows[y]) (r'.less) T3 (by rfl) rfl rfl F3.ns rfl rfl rfl rfl (by decide) (by decide) hoth hone hcal hD₃ hDL (by omega) (by omega) (by rw [Int.toNat_natCast, List.getElem?_set_ne hxy, List.getElem?_eq_getElem hyn]) (dy3.off nt₂ (offD dy1) o₃) dy2 fr2 (lenx _) ?_)
      intro D₄ h₄ tk₄ hk₄ hD₄ hn₄ hs₄ hr₄
      rw [Int.toNat_natCast] at hD₄
      have F4 : Fr s.heap s.heap.objs.size h₄ m₂ := frExt F3 hDL hDs fun z o hb e => hk₄ z o hb e
      have nt₃ : NoTup [D] h₃ := fun z hb => by rw [List.mem_singleton.mp hb]; exact noTup_list hD₃
      have o₄ : Off [D] h₃ h₄ := fun z o hb e => hk₄ z o (fun q => hb (by rw [q]; simp)) e
      have hT' : T.take (i + 1) = T.take i ++ [((x : Int), (y : Int))] := by rw [List.take_add_one, hT1]; rfl
      have hn₄' : h₂.get? D₄ = none := by
        cases e : h₂.get? D₄ with
        | none => rfl
        | some o =>
          by_cases q : D₄ = D
          · subst q; obtain ⟨o', ho', _⟩ := hD₃; rw [ho'] at hn₄; cases hn₄
          · rw [hk₃ _ _ q e] at hn₄; cases hn₄
      refine wpAny_execs_nil ⟨T.length + 1 - (i + 1), by omega, h₄, tk₄, m₂, i + 1, (rows.set x D₃).set y D₄, rfl, hit₃.at fun o e => hk₄ J o hJD e, F4, hcal, hD₄, by rw [List.length_set, List.length_set]; exact hrl, ?_, hlt, rfl⟩
      intro j d hj
      rw [hT', nb_snoc]
      by_cases jy : j = y
      · subst jy
        rw [List.getElem?_set_self (by rw [List.length_set]; omega)] at hj
        cases hj
        rw [if_neg (by dsimp only; omega), if_pos rfl]
        exact ⟨NoD hn₄', hs₄, hr₄⟩
      · rw [List.getElem?_set_ne (Ne.symm jy)] at hj
        by_cases jx : j = x
        · subst jx
          rw [List.getElem?_set_self (by omega)] at hj
          cases hj
          rw [if_pos rfl]
          exact ⟨NoD hn₃, hs₃, hr₃.off nt₃ (offD (NoD hn₃)) o₄⟩
        · rw [List.getElem?_set_ne (Ne.symm jx)] at hj
          rw [if_neg (by dsimp only; omega), if_neg (by dsimp only; omega), List.append_nil]
          obtain ⟨g1, g2, g3⟩ := hrow₂ j d hj
          exact ⟨g1, g2, (g3.off nt₂ (offD g1) o₃).off nt₃ (offD g1) o₄⟩
end
end Mine

namespace Mine

theorem bitAnd_nat (x y : Nat) : Builtin.bitAnd (x : Int) (y : Int) = ((x &&& y : Nat) : Int) := by
  unfold Builtin.bitAnd
  rw [show decide (0 ≤ (x : Int)) = true by simp, show decide (0 ≤ (y : Int)) = true by simp]
  simp
theorem bitOr_nat (x y : Nat) : Builtin.bitOr (x : Int) (y : Int) = ((x ||| y : Nat) : Int) := by
  unfold Builtin.bitOr Builtin.bitAnd Builtin.bitNot
  rw [show decide (0 ≤ -(x : Int) - 1) = false by simp; omega, show decide (0 ≤ -(y : Int) - 1) = false by simp; omega]
  dsimp only
  rw [show -(-(x : Int) - 1) - 1 = x by omega, show -(-(y : Int) - 1) - 1 = y by omega]
  simp
  omega
theorem bitXor_bound {x y : Int} (hx : 0 ≤ x) (hy : 0 ≤ y) (hx' : x < 2 ^ 16) (hy' : y < 2 ^ 16) : 0 ≤ Builtin.bitXor x y ∧ Builtin.bitXor x y < 2 ^ 16 := by
  obtain ⟨a, rfl⟩ : ∃ a : Nat, x = a := ⟨x.toNat, by omega⟩
  obtain ⟨b, rfl⟩ : ∃ b : Nat, y = b := ⟨y.toNat, by omega⟩
  unfold Builtin.bitXor
  rw [bitAnd_nat, bitOr_nat]
  have h1 : a ||| b < 2 ^ 16 := Nat.or_lt_two_pow (by omega) (by omega)
  have h2 : a &&& b ≤ a ||| b := Nat.le_trans Nat.and_le_left Nat.left_le_or
  omega

/-- the digits as the program's inner def lays them -/
def dig (n : Nat) : Nat → Nat → Int → List Int
  | 0, _, x => [x]
  | f + 1, k, x => if k ≤ 1 then [x] else
    dig n f (k / 2) (Builtin.bitXor x (x.fdiv (2 ^ (k / 2 * n)) * 2 ^ (k / 2 * n))) ++ dig n f (k - k / 2) (x.fdiv (2 ^ (k / 2 * n)))
theorem dig_length (n : Nat) : ∀ f k x, 1 ≤ k → k ≤ f + 1 → (dig n f k x).length = k
  | 0, k, x, h1, h2 => by rw [dig]; simp; omega
  | f + 1, k, x, h1, h2 => by
    rw [dig]
    split
    · simp; omega
    · rw [List.length_append, dig_length n f _ _ (by omega) (by omega), dig_length n f _ _ (by omega) (by omega)]; omega

section
variable {w : World} {A : Around} {s : Shared} {mg mb : Str → Option Value} {E : Value → Shared → Prop}

theorem Call_Name3 {env : Env} {x : Str} {p pos : Pos} {e₁ e₂ e₃ : PySem.Expr} {M : Model} {Q : Value → Shared → Prop}
    (h : wpAny M A (eval (.Name x p) env) (fun f s₁ => wpAny M A (callWith pos f [] [(false, eval e₁ env), (false, eval e₂ env), (false, eval e₃ env)] []) Q E s₁) E s)
    (hs : starEach [e₁, e₂, e₃] env = [(false, eval e₁ env), (false, eval e₂ env), (false, eval e₃ env)]) :
    wpAny M A (eval (.Call (.Name x p) [e₁, e₂, e₃] [] pos) env) Q E s := Call_Name (by rw [hs]; rfl) h

def BM (mg : Str → Option Value) (h : Heap) : Prop := ∃ bm ob, mg "__builtins__" = some (.ref bm) ∧ bm ≠ builtinsNs ∧ bm ≠ mainGlobals ∧ h.get? bm = some ob ∧ ob.cls = .type "module" ∧ ob.dict = some builtinsNs ∧ ob.data = .plain
theorem BM.at {h : Heap} {P : Addr} {ps : Array Value} (b : BM mg h) (hP : h.get? P = some (tabObj ps)) : h.BuiltinsAt mg P := by
  obtain ⟨bm, ob, a1, a2, a3, a4, a5, r⟩ := b
  refine ⟨bm, ob, a1, a2, a3, fun q => ?_, a4, a5, r⟩
  rw [q, hP] at a4; cases a4; cases a5
theorem BM.tab {h h' : Heap} {P : Addr} {ps : Array Value} (b : BM mg h) (hP : h.get? P = some (tabObj ps)) (k : ∀ b o, b ≠ P → h.get? b = some o → h'.get? b = some o) : BM mg h' := by
  obtain ⟨bm, ob, a1, a2, a3, a4, a5, r⟩ := b
  refine ⟨bm, ob, a1, a2, a3, k _ _ (fun q => ?_) a4, a5, r⟩
  rw [q, hP] at a4; cases a4; cases a5
theorem BM.keeps {h h' : Heap} (b : BM mg h) (k : ∀ b o, h.get? b = some o → h'.get? b = some o) : BM mg h' := by
  obtain ⟨bm, ob, a1, a2, a3, a4, a5, r⟩ := b
  exact ⟨bm, ob, a1, a2, a3, k _ _ a4, a5, r⟩
theorem ns_tab {h h' : Heap} {P a : Addr} {ps : Array Value} {m : Str → Option Value} (x : h.Ns a m) (hP : h.get? P = some (tabObj ps)) (k : ∀ b o, b ≠ P → h.get? b = some o → h'.get? b = some o) : h'.Ns a m :=
  x.at' fun o e => k a o (fun q => by
    obtain ⟨o', es, ep, ho, hd, _⟩ := x
    rw [q, hP] at ho; cases ho; cases hd) e
theorem noTabs_KF : noTabs (KF w) = true := by kernel_rfl
theorem TopAt.tab {h h' : Heap} {P : Addr} {ps : Array Value} (T : TopAt w mg mb h) (hP : h.get? P = some (tabObj ps)) (k : ∀ b o, b ≠ P → h.get? b = some o → h'.get? b = some o) : TopAt w mg mb h' := by
  refine ⟨fun a o e => k a o (fun q => ?_) (T.X a o e), ns_tab T.g hP k, ns_tab T.b hP k, ?_, T.builtins⟩
  · have e2 := T.X a o e
    rw [q, hP] at e2
    have h2 := List.all_eq_true.mp (noTabs_KF (w := w)) (a, o) (mem_of_lookupK e)
    cases e2
    exact absurd (show false = true from h2) Bool.false_ne_true
  · obtain ⟨mc, a, r⟩ := T.nolimit
    exact ⟨mc, ns_tab a hP k, r⟩

/-- a table of the code objects that a def has made: none, or the one at this place -/
def Tab (P : Addr) (qual : Str) (pos : Pos) (h : Heap) : Prop := ∃ ps, h.get? P = some (tabObj ps) ∧ (ps = #[] ∨ ∃ c', ps = #[rawInt pos.line, rawInt pos.col, .ref c'] ∧ h.CodeRec (.ref c') qual)

/-- a def inside a def: its function object -/
theorem make_inner {name qual : Str} {params : Arguments} {body : List Stmt} {scope : Scope} {env : Env} {c P : Addr} {pos : Pos} {firstLine : Nat} {clos : List (Str × Addr)} {Q : Value → Shared → Prop}
    (Tp : TopAt w mg mb s.heap) (hb : BM mg s.heap) (hcl : closureFor scope env = pure clos) (hge0 : env.globals = mainGlobals) (hcode : env.code = .ref c) (C : CodeHd s.heap c P) (ht : Tab P qual pos s.heap) (hgP : mainGlobals ≠ P)
    (h : ∀ c' ctv doc f h' tk, (∀ b o, b ≠ P → s.heap.get? b = some o → h'.get? b = some o) → Tab P qual pos h' → s.heap.get? f = none → h'.CodeRec (.ref c') qual →
      h'.get? f = some (fnMade name qual params body scope clos doc ((mg "__name__").getD .none) c' ctv) → Q (.ref f) { s with heap := h', toks := tk }) :
    wpAny (model Pr w) A (makeFunction name qual params (.stmts body) scope env [] [] [] pos firstLine) Q E s := by
  obtain ⟨ps, hP, hps⟩ := ht
  rcases hps with rfl | ⟨c₀, rfl, hc₀⟩
  · refine makeFunction_K (mg := mg) hcl hge0 Tp.g hcode C hP (by exact True.intro) rfl hgP (hb.at hP) fun c' ctv doc h' tk hx hge hlt hrec htb => ?_
    refine h c' ctv doc _ _ tk (fun b o hb e => Heap.get?_push_of_some _ (hx b o hb e)) ⟨_, Heap.get?_push_of_some _ htb, .inr ⟨c', by simp, hrec.push _⟩⟩ ?_ (hrec.push _) (Heap.get?_push_size _ rfl)
    exact fresh (Nat.le_trans hge (Nat.le_of_lt hlt))
  · refine makeFunction_hit (mg := mg) (cv := .ref c₀) hcl hge0 Tp.g hcode C hP (by simp [TriplesOk, rawInt]) (by simp [codeAmong, rawInt]) (hb.at hP) fun ctv doc h' tk hk hsz => ?_
    have k' : ∀ o' b o, s.heap.get? b = some o → (h'.push o').get? b = some o := fun o' b o e => Heap.get?_push_of_some _ (hk b o e)
    refine h c₀ ctv doc _ _ tk (fun b o _ e => k' _ b o e) ⟨_, k' _ _ _ hP, .inr ⟨c₀, rfl, hc₀.keeps (k' _)⟩⟩ (fresh hsz) (hc₀.keeps (k' _)) (Heap.get?_push_size _ rfl)

theorem mul_list' {prog : Program} {l : Addr} {items : Array Value} {k : Nat} {x : Int} {u : Tok} {Q : Value → Shared → Prop}
    (hl : s.heap.get? l = some { cls := .type "list", dict := none, data := .seq items k, slots := #[] })
    (hlo : -(2 ^ 63 : Int) ≤ x) (hhi : x < 2 ^ 63) (hsz : items.size * x.toNat ≤ 2 ^ 24)
    (h : Q (.ref s.heap.objs.size) { s with heap := s.heap.push { cls := .type "list", data := .seq (List.foldl (fun x1 x2 => x1 ++ x2) #[] (List.replicate (if items.isEmpty = true then 0 else x.toNat) items)) } }) :
    wpAny (model prog w) A (binaryOp .Mult (.ref l) (.int x u)) Q E s :=
  wpAny_binaryOp_repeat_ref (T := "list") (U := "int") (by decide) ⟨_, hl, rfl⟩ (fun s' => typeIs_int s' x u) noFill_list_mul F.fills_int_mul F.slot_int_rmul repeat_list F.slot_int_index.lookup
    (call_meets F.slot_int_rmul (typeIs_int s x u) F.entry_int_rmul (F.args_int_rmul_2 _ _) (int___rmul___int_list x u l items k)
      ⟨hl, rfl, ⟨_, hl, rfl⟩, call_meets F.slot_list_mul ⟨_, hl, rfl⟩ F.entry_list_mul (F.args_list_mul_2 _ _)
        (AutoListH.list___mul___list_int_3 l items k x u (by simp [Builtin.List.listFitsIndex]; omega) (by omega) (by simp [Builtin.List.listTooLong, sizeLine]; omega))
        ⟨hl, h⟩⟩)

/-- `[v] * k` -/
theorem mul_one {prog : Program} {l : Addr} {v : Value} {j k : Nat} {u : Tok} {Q : Value → Shared → Prop}
    (hl : s.heap.get? l = some { cls := .type "list", dict := none, data := .seq #[v] j, slots := #[] }) (hk : k ≤ 1000)
    (h : ∀ h', (∀ b o, s.heap.get? b = some o → h'.get? b = some o) → h'.PlainList s.heap.objs.size (List.replicate k v).toArray → Q (.ref s.heap.objs.size) { s with heap := h' }) :
    wpAny (model prog w) A (binaryOp .Mult (.ref l) (.int (k : Nat) u)) Q E s := by
  refine mul_list' hl (by omega) (by omega) (by simp; omega) ?_
  have e1 : (List.replicate k [v]).flatten = List.replicate k v := by
    clear h hk
    induction k with
    | zero => rfl
    | succ k ih => rw [List.replicate_succ, List.flatten_cons, ih, List.replicate_succ]; rfl
  rw [listMul_foldl_if, Int.toNat_natCast]
  show Q _ { s with heap := s.heap.push { cls := .type "list", data := .seq (List.replicate k [v]).flatten.toArray } }
  rw [e1]
  exact h _ (fun b o e => Heap.get?_push_of_some _ e) ⟨0, Heap.get?_push_size _ rfl⟩
end
end Mine

namespace Mine

theorem ne_new {h : Heap} {b : Addr} {o : Obj} (e : h.get? b = some o) (k : Nat) : b ≠ h.objs.size + k := Nat.ne_of_lt (Nat.lt_of_lt_of_le (Heap.lt_size e) (Nat.le_add_right _ _))
theorem ne_off (a : Nat) {j k : Nat} (e : j ≠ k) : a + j ≠ a + k := fun q => e (Nat.add_left_cancel q)

def q44 : Str := Str.ofString "_int2digits.<locals>.inner"
def pos44 : Pos := ⟨51, 4, 60, 28⟩

theorem bits64 {a : Int} (h : a.natAbs < 2 ^ 32) : Builtin.Int.intBits a ≤ 64 := by
  unfold Builtin.Int.intBits
  split
  · omega
  · rename_i q
    have h0 : a.natAbs ≠ 0 := by simpa using q
    have : a.natAbs.log2 < 32 := (Nat.log2_lt h0).mpr h
    omega
theorem mulOk {a b : Int} (h : a.natAbs < 2 ^ 32) : IntMulOk a b := .of_left (bits64 h)

theorem splice1 (vs : List Value) (Lo : Nat) (v : Value) (h : Lo + 1 ≤ vs.length) : vs.toArray.setIfInBounds Lo v = (vs.take Lo ++ [v] ++ vs.drop (Lo + 1)).toArray := by
  rw [List.setIfInBounds_toArray, List.set_eq_take_append_cons_drop, if_pos (Nat.lt_of_succ_le h)]
  simp
theorem splice2 (vs ys1 ys2 : List Value) {Lo m k : Nat} (h : Lo + k ≤ vs.length) (hm : m ≤ k) (h1 : ys1.length = m) :
    (vs.take Lo ++ ys1 ++ vs.drop (Lo + m)).take (Lo + m) ++ ys2 ++ (vs.take Lo ++ ys1 ++ vs.drop (Lo + m)).drop (Lo + m + (k - m)) = vs.take Lo ++ (ys1 ++ ys2) ++ vs.drop (Lo + k) := by
  have hl : (vs.take Lo ++ ys1).length = Lo + m := by rw [List.length_append, List.length_take, h1]; omega
  rw [List.take_left' hl, List.drop_append, hl, List.drop_of_length_le (by rw [hl]; omega), List.nil_append, List.drop_drop]
  rw [show Lo + m + (Lo + m + (k - m) - (Lo + m)) = Lo + k by omega]
  simp
theorem half_eq (Lo k : Nat) : (((Lo : Int)) + ((Lo + k : Nat) : Int)).fdiv (2 ^ (1 : Int).toNat) = ((Lo + k / 2 : Nat) : Int) := by
  rw [show (2 : Int) ^ (1 : Int).toNat = 2 from rfl, Int.fdiv_eq_ediv_of_nonneg _ (by decide)]
  omega
theorem fdiv_pow_le {x : Int} (hx : 0 ≤ x) (j : Nat) : 0 ≤ x.fdiv (2 ^ j) ∧ x.fdiv (2 ^ j) ≤ x ∧ x.fdiv (2 ^ j) * 2 ^ j ≤ x := by
  have hp : (0 : Int) < 2 ^ j := Int.pow_pos (by decide)
  rw [Int.fdiv_eq_ediv_of_nonneg _ (Int.le_of_lt hp)]
  exact ⟨Int.ediv_nonneg hx (Int.le_of_lt hp), Int.ediv_le_self _ hx, Int.ediv_mul_le _ (Int.ne_of_gt hp)⟩

section
variable {prog : Program} {w : World} {A : Around} {s : Shared} {E : Value → Shared → Prop} {a : Int} {j : Nat} {t u : Tok} {Q : Value → Shared → Prop}
theorem lshift_nat (hj : j ≤ 1000) (ha : a.natAbs < 2 ^ 64) (h : Q (.int (a * 2 ^ j) s.toks) { s with toks := s.toks + 1 }) : wpAny (model prog w) A (binaryOp .LShift (.int a t) (.int (j : Nat) u)) Q E s :=
  lshift_int_small (Int.natCast_nonneg _) (by omega) ha (by rw [Int.toNat_natCast]; exact h)
theorem rshift_nat (h : Q (.int (a.fdiv (2 ^ j)) s.toks) { s with toks := s.toks + 1 }) : wpAny (model prog w) A (binaryOp .RShift (.int a t) (.int (j : Nat) u)) Q E s :=
  rshift_int (Int.natCast_nonneg _) (by rw [Int.toNat_natCast]; exact h)
theorem half_int {Lo k : Nat} (h : Q (.int ((Lo + k / 2 : Nat) : Int) s.toks) { s with toks := s.toks + 1 }) : wpAny (model prog w) A (binaryOp .RShift (.int ((Lo : Int) + ((Lo + k : Nat) : Int)) t) (.int 1 u)) Q E s :=
  rshift_int (by decide) (by rw [half_eq]; exact h)
theorem sub_half {Lo k : Nat} (h : Q (.int ((k / 2 : Nat) : Int) s.toks) { s with toks := s.toks + 1 }) : wpAny (model prog w) A (binaryOp .Sub (.int ((Lo + k / 2 : Nat) : Int) t) (.int (Lo : Nat) u)) Q E s :=
  sub_int (by rw [show ((Lo + k / 2 : Nat) : Int) - (Lo : Nat) = ((k / 2 : Nat) : Int) by omega]; exact h)
theorem mul_nat {k n : Nat} (hk : k ≤ 1000) (h : Q (.int ((k * n : Nat) : Int) s.toks) { s with toks := s.toks + 1 }) : wpAny (model prog w) A (binaryOp .Mult (.int (k : Nat) t) (.int (n : Nat) u)) Q E s :=
  mul_int (by rw [show (k : Int) * (n : Nat) = ((k * n : Nat) : Int) by simp]; exact h) (mulOk (by omega))
end

theorem callWith_fn {prog : Program} {w : World} {A : Around} {s : Shared} {E : Value → Shared → Prop} {h₀ : Heap} {f : Addr} {o : Obj} {fd : FuncData} {pos : Pos} {args : List (Bool × Sem Value)} {Q : Value → Shared → Prop} (_ho : h₀.get? f = some o) (hd : o.data = .func fd)
    (h : wpAny (model prog w) A (evalArgs (.ref f) true args []) (fun x s₁ => s₁.heap.get? f = some o ∧ wpAny (model prog w) A (call (.ref f) x.pos x.kw) Q E s₁) E s) :
    wpAny (model prog w) A (callWith pos (.ref f) [] args []) Q E s :=
  callWith_function (o := o) (fd := fd) (wpAny_mono h (fun _ _ h₁ => ⟨⟨h₁.1, hd⟩, h₁.2⟩) fun _ _ e => e)

theorem len_list {prog : Program} {w : World} {A : Around} {s : Shared} {E : Value → Shared → Prop} {l : Addr} {vs : List Value} {n : Nat} {Q : Value → Shared → Prop} (hl : s.heap.IsList l vs.toArray) (hn : vs.length = n) (hs : n < 2 ^ 32) (h : ∀ t tk, Q (.int (n : Nat) t) { s with toks := tk }) :
    wpAny (model prog w) A (call (.builtin "len") [.ref l]) Q E s := by
  have e : vs.toArray.size = n := by rw [List.size_toArray, hn]
  refine call_len_list hl (by rw [e]; omega) ?_
  rw [e]
  exact h _ _
theorem ints_replicate (v : Int) (t : Tok) : ∀ K : Nat, IntsAre (List.replicate K (Value.int v t)) (List.replicate K v)
  | 0 => .nil
  | K + 1 => .cons _ _ (ints_replicate v t K)

section
variable {w : World} {A : Around} {s : Shared} {mg mb : Str → Option Value}

theorem int2digits_code {a : Int} {n K : Nat} {t u : Tok} {R : Result → Shared → Prop} (r : Room A 20) (Tp : TopAt w mg mb s.heap) (hb : BM mg s.heap) (ht : Tab 44 q44 pos44 s.heap)
    (ha : 0 ≤ a) (ha' : a < 2 ^ 16) (hn : 1 ≤ n) (hn' : n ≤ 8) (hK : (((Builtin.Int.intBits a : Nat) : Int) + (n : Nat) - 1).fdiv (n : Nat) = (K : Nat)) (hK1 : a ≠ 0 → 1 ≤ K) (hK2 : K ≤ 16)
    (hR : ∀ D h' tk vs, (∀ b o, b ≠ 44 → s.heap.get? b = some o → h'.get? b = some o) → Tab 44 q44 pos44 h' → h'.IsList D vs.toArray → s.heap.get? D = none → IntsAre vs (if a = 0 then List.replicate K 0 else dig n K K a) → R (.ok (.ret (.ref D))) { s with heap := h', toks := tk }) :
    codeAny (model Pr w) A (.call (.ref 49) ⟨[.int a t, .int (n : Nat) u], []⟩) R s := by
  refine codeAny_call_cells (fd := fnOf _ _ _ _ _ _ _ _ _ _ _ _) (o := _) r.depth (Tp.X 49 _ rfl) rfl Tp.nolimit (codeRec_of Tp.X rfl) rfl (binds := [(Str.ofString "a", .int a t), (Str.ofString "n", .int (n : Nat) u)]) rfl rfl ?_ ?_
  · intro x hx
    simp at hx
    rcases hx with rfl | rfl
    · exact .inl rfl
    · exact .inr ⟨rfl, rfl⟩
  intro s₁ x
  obtain ⟨h₁, tk₁, rfl, hk₁⟩ := x.done
  have hns := x.toInCall.ns
  have hcn := x.cell (Str.ofString "n") (s.heap.objs.size + 1) rfl
  have hca := x.cell (Str.ofString "a_digits") (s.heap.objs.size + 2) rfl
  have hci := x.cell (Str.ofString "inner") (s.heap.objs.size + 3) rfl
  clear x
  refine wpAny_execs_cons (wpAny_Assign_Name (wpAny_BinOp (List_ (args_cons (wpAny_Constant_int (args_nil (wpAny_newObj_type ?_)))))))
  have k₂ : ∀ d b o, h₁.get? b = some o → (h₁.push d).get? b = some o := fun d b o e => Heap.get?_push_of_some _ e
  have hn₂ := hns.push { cls := .type "list", data := .seq #[.int 0 tk₁] }
  have hl₂ := Heap.get?_push_size h₁ (o := { cls := .type "list", data := .seq #[.int 0 tk₁] }) rfl
  refine wpAny_BinOp (wpAny_BinOp (wpAny_BinOp (MethodCall_ (wpAny_Name (wpAny_loadName_local rfl rfl hn₂ rfl (getMethod_int_bit_length (callWith_method0 (call_int_bit_length ?_))))))))
  refine wpAny_Name (wpAny_loadName_cell rfl rfl rfl (hcn.keeps (k₂ _)) (add_int ?_))
  refine wpAny_Constant_int (sub_int ?_)
  refine wpAny_Name (wpAny_loadName_cell rfl rfl rfl (hcn.keeps (k₂ _)) (floordiv_int (by omega) ?_ ?_))
  · rw [hK]
    refine mul_one hl₂ (by omega) fun h₃ hk₃ hD₃ => ?_
    have base₃ : ∀ b o, h₁.get? b = some o → h₃.get? b = some o := fun b o e => hk₃ b o (k₂ _ b o e)
    obtain ⟨D, hD⟩ : ∃ D, D = (h₁.push { cls := .type "list", data := .seq #[.int 0 tk₁] }).objs.size := ⟨_, rfl⟩
    have hD0 : h₁.get? D = none := fresh (by rw [hD, Heap.size_push]; exact Nat.le_succ _)
    dsimp only at hD₃ ⊢
    rw [← hD] at hD₃ ⊢
    have hn₃ := hns.keeps base₃
    have hcn₃ := hcn.keeps base₃
    have hci₃ := hci.keeps base₃
    have hca₃ := hca.keeps base₃
    clear hn₂ hl₂ k₂ hk₃
    obtain ⟨L, hL⟩ : ∃ L, L = s.heap.objs.size := ⟨_, rfl⟩
    have hDs : s.heap.get? D = none := by
      cases e : s.heap.get? D with
      | none => rfl
      | some o => rw [hk₁ _ _ e] at hD0; cases hD0
    have hDca : D ≠ s.heap.objs.size + 2 := Ne.symm (by obtain ⟨o, ho, _⟩ := hca; exact ne_of_live ho hD0)
    have hDci : D ≠ s.heap.objs.size + 3 := Ne.symm (by obtain ⟨o, ho, _⟩ := hci; exact ne_of_live ho hD0)
    have hDcn : D ≠ s.heap.objs.size + 1 := Ne.symm (by obtain ⟨o, ho, _⟩ := hcn; exact ne_of_live ho hD0)
    have hDL : D ≠ s.heap.objs.size := Ne.symm (by obtain ⟨o, _, _, ho, _⟩ := id hns; exact ne_of_live ho hD0)
    obtain ⟨ps, hP, _⟩ := id ht
    have h44 := Heap.lt_size hP
    refine wpAny_storeName_cell rfl rfl rfl hca₃ fun h₄ hca₄ hs₄ => ?_
    have old₄ : ∀ b o, s.heap.get? b = some o → h₄.get? b = some o := fun b o e => hs₄.extBut b o (ne_new e 2) (base₃ b o (hk₁ b o e))
    refine wpAny_execs_cons (nestDef_K rfl rfl rfl (make_inner (c := 48) (P := 44) (Tp.keeps old₄) (hb.keeps old₄) rfl rfl rfl (codeHd_of_K (Tp.keeps old₄).X (by kernel_rfl)) ?_ (by decide) ?_))
    · obtain ⟨ps, g1, g2⟩ := ht
      refine ⟨ps, old₄ _ _ g1, ?_⟩
      rcases g2 with g2 | ⟨c', g2, g3⟩
      · exact .inl g2
      · exact .inr ⟨c', g2, g3.keeps old₄⟩
    intro c' ctv doc f h₅ tk₅ hk₅ ht₅ hf0 hrec hf
    have hci₅ : h₅.IsCell (s.heap.objs.size + 3) none := by
      obtain ⟨o, ho, hd⟩ := hci₃
      exact ⟨o, hk₅ _ _ (Ne.symm (ne_new hP 3)) (hs₄.extBut _ _ (ne_off (j := 3) (k := 2) _ (by decide)) ho), hd⟩
    refine wpAny_storeName_cell rfl rfl rfl hci₅ fun h₆ hci₆ hs₆ => ?_
    have hfn : ∀ b o, h₄.get? b = some o → b ≠ f := fun b o e => ne_of_live e hf0
    -- all that stands at h₆
    have up : ∀ b o, b ≠ s.heap.objs.size + 2 → b ≠ s.heap.objs.size + 3 → b ≠ 44 → h₃.get? b = some o → h₆.get? b = some o := fun b o n2 n3 n4 e => hs₆.extBut b o n3 (hk₅ b o n4 (hs₄.extBut b o n2 e))
    have base₆ : ∀ b o, b ≠ 44 → s.heap.get? b = some o → h₆.get? b = some o := fun b o n4 e => up b o (ne_new e 2) (ne_new e 3) n4 (base₃ b o (hk₁ b o e))
    have hns₆ := hn₃.at' fun o e => up _ o (ne_off (j := 0) (k := 2) _ (by decide)) (ne_off (j := 0) (k := 3) _ (by decide)) (Ne.symm (ne_new hP 0)) e
    have hcn₆ : h₆.IsCell (s.heap.objs.size + 1) (some (.int (n : Nat) u)) := by
      obtain ⟨o, ho, hd⟩ := hcn₃
      exact ⟨o, up _ o (ne_off (j := 1) (k := 2) _ (by decide)) (ne_off (j := 1) (k := 3) _ (by decide)) (Ne.symm (ne_new hP 1)) ho, hd⟩
    have hca₆ : h₆.IsCell (s.heap.objs.size + 2) (some (.ref D)) := by
      obtain ⟨o, ho, hd⟩ := hca₄
      exact ⟨o, hs₆.extBut _ _ (ne_off (j := 2) (k := 3) _ (by decide)) (hk₅ _ _ (Ne.symm (ne_new hP 2)) ho), hd⟩
    have hD44 : D ≠ 44 := fun q => by rw [q, hk₁ _ _ hP] at hD0; cases hD0
    have hD₆ : h₆.IsList D (List.replicate K (Value.int 0 tk₁)).toArray := by
      obtain ⟨o, ho, r⟩ := hD₃.isList
      exact ⟨o, up D o hDca hDci hD44 ho, r⟩
    have f3 : f ≠ s.heap.objs.size + 3 := Ne.symm (by
      obtain ⟨o, ho, hd⟩ := hci₃
      exact hfn _ o (hs₄.extBut _ _ (ne_off (j := 3) (k := 2) _ (by decide)) ho))
    have hf₆ := hs₆.extBut f _ f3 hf
    have hrec₆ : h₆.CodeRec (.ref c') q44 := by
      obtain ⟨c₀, o, vs, t, e, g, hd, r⟩ := hrec
      refine ⟨c₀, o, vs, t, e, hs₆.extBut _ _ (fun q => ?_) g, hd, r⟩
      obtain ⟨o', ho', hd'⟩ := hci₅
      rw [q, ho'] at g; cases g; rw [hd'] at hd; cases hd
    have ht₆ : Tab 44 q44 pos44 h₆ := by
      obtain ⟨ps, g1, g2⟩ := ht₅
      refine ⟨ps, hs₆.extBut _ _ (ne_new hP 3) g1, ?_⟩
      rcases g2 with g2 | ⟨c', g2, c₀, o, vs, t, e, g, hd, r⟩
      · exact .inl g2
      · refine .inr ⟨c', g2, c₀, o, vs, t, e, hs₆.extBut _ _ (fun q => ?_) g, hd, r⟩
        obtain ⟨o', ho', hd'⟩ := hci₅
        rw [q, ho'] at g; cases g; rw [hd'] at hd; cases hd
    have Tp₆ : TopAt w mg mb h₆ := Tp.tab hP base₆
    have hDf : D ≠ f := by
      obtain ⟨o, ho, _⟩ := hD₃.isList
      exact hfn D o (hs₄.extBut _ _ hDca ho)
    clear up hfn hs₆ hf hrec hci₅ ht₅ hk₅ hf0 old₄ hca₄ hs₄ hcn₃ hci₃ hca₃ hn₃ base₃ hD₃ hca hci hcn hns hk₁
    -- the inner def's contract
    have inner : ∀ fu k, 1 ≤ k → k ≤ fu + 1 → k ≤ 16 → ∀ (x : Int) (Lo : Nat) (tx tL tR : Tok) (A' : Around) (s' : Shared) (vs : List Value) (R' : Result → Shared → Prop), Room A' (fu + 1) → (∀ b o, b ≠ D → h₆.get? b = some o → s'.heap.get? b = some o) → s'.heap.IsList D vs.toArray → Lo + k ≤ vs.length → vs.length ≤ 16 → 0 ≤ x → x < 2 ^ 16 →
        (∀ h' tk ys, (∀ b o, b ≠ D → s'.heap.get? b = some o → h'.get? b = some o) → IntsAre ys (dig n fu k x) → h'.IsList D (vs.take Lo ++ ys ++ vs.drop (Lo + k)).toArray → R' (.ok (.ret .none)) { s' with heap := h', toks := tk }) →
        codeAny (model Pr w) A' (.call (.ref f) ⟨[.int x tx, .int (Lo : Nat) tL, .int ((Lo + k : Nat) : Int) tR], []⟩) R' s' := by
      intro fu
      induction fu using Nat.strongRecOn with
      | _ fu ih =>
        intro k h1 h2 h16 x Lo tx tL tR A' s' vs R' r₁ hk hl hlen h16' hx hx' hR'
        have base' : ∀ b o, b ≠ 44 → s.heap.get? b = some o → s'.heap.get? b = some o := fun b o n4 e => hk b o (ne_of_live e hDs) (base₆ b o n4 e)
        have T' := Tp.tab hP base'
        have hrec' : s'.heap.CodeRec (.ref c') q44 := by
          obtain ⟨c₀, o, vs, t, e, g, hd, r⟩ := hrec₆
          refine ⟨c₀, o, vs, t, e, hk _ _ (fun q => ?_) g, hd, r⟩
          obtain ⟨o', ho', _, n', hd'⟩ := hD₆
          rw [q, ho'] at g; cases g; rw [hd'] at hd; cases hd
        refine codeAny_call_def r₁.depth (hk f _ (Ne.symm hDf) hf₆) rfl T'.nolimit hrec' rfl (binds := [(Str.ofString "x", .int x tx), (Str.ofString "L", .int (Lo : Nat) tL), (Str.ofString "R", .int ((Lo + k : Nat) : Int) tR)]) (BindsTo.of_eq rfl) (of_decide_eq_true rfl) (by intro x hx; simp at hx; rcases hx with rfl | rfl | rfl <;> rfl) ?_
        intro h₇ hns₇ hk₇
        have F₇ : Fr s'.heap s'.heap.objs.size h₇ _ := ⟨hns₇, hk₇, Nat.le_refl _⟩
        have kF : ∀ {h : Heap} {m : Str → Option Value}, Fr s'.heap s'.heap.objs.size h m → ∀ b o, b ≠ D → h₆.get? b = some o → h.get? b = some o := fun F b o nb e => F.keep b o (hk b o nb e)
        have k₇ := kF F₇
        have cn₇ : ∀ {h : Heap}, (∀ b o, b ≠ D → h₆.get? b = some o → h.get? b = some o) → h.IsCell (s.heap.objs.size + 1) (some (.int (n : Nat) u)) := fun k => by
          obtain ⟨o, ho, hd⟩ := hcn₆; exact ⟨o, k _ _ (Ne.symm hDcn) ho, hd⟩
        have ca₇ : ∀ {h : Heap}, (∀ b o, b ≠ D → h₆.get? b = some o → h.get? b = some o) → h.IsCell (s.heap.objs.size + 2) (some (.ref D)) := fun k => by
          obtain ⟨o, ho, hd⟩ := hca₆; exact ⟨o, k _ _ (Ne.symm hDca) ho, hd⟩
        have ci₇ : ∀ {h : Heap}, (∀ b o, b ≠ D → h₆.get? b = some o → h.get? b = some o) → h.IsCell (s.heap.objs.size + 3) (some (.ref f)) := fun k => by
          obtain ⟨o, ho, hd⟩ := hci₆; exact ⟨o, k _ _ (Ne.symm hDci) ho, hd⟩
        refine wpAny_execs_cons (wpAny_If (wpAny_isTrue_Compare1 (wpAny_BinOp (wpAny_Name (wpAny_loadName_local rfl rfl hns₇ rfl (wpAny_Constant_int (add_int ?_)))))))
        refine wpAny_Name (wpAny_loadName_local rfl rfl hns₇ rfl (eq_int (wpAny_truthy_bool ?_)))
        by_cases hk1 : k = 1
        · subst hk1
          rw [show ((Lo : Int) + 1 == ((Lo + 1 : Nat) : Int)) = true by simp]
          simp only [if_true]
          refine wpAny_execs_cons (wpAny_Assign_Subscript (wpAny_Name (wpAny_loadName_local rfl rfl hns₇ rfl ?_)))
          refine wpAny_Name (wpAny_loadName_free rfl rfl rfl (ca₇ k₇) (wpAny_Name (wpAny_loadName_local rfl rfl hns₇ rfl ?_)))
          refine wpAny_setItem_list (hl.at fun o e => hk₇ _ o e) (by omega) (by omega) (by rw [List.size_toArray]; omega) fun h₈ hl₈ hs₈ => ?_
          refine wpAny_execs_cons (wpAny_Return_none ?_)
          refine hR' h₈ _ [.int x tx] (fun b o nb e => hs₈.extBut b o nb (hk₇ b o e)) ?_ ?_
          · cases fu with
            | zero => exact .cons _ _ .nil
            | succ fu => rw [dig, if_pos (Nat.le_refl 1)]; exact .cons _ _ .nil
          · rw [Int.toNat_natCast, splice1 vs Lo _ hlen] at hl₈
            exact hl₈
        · rw [show ((Lo : Int) + 1 == ((Lo + k : Nat) : Int)) = false by simp; omega]
          simp only [Bool.false_eq_true, if_false]
          refine wpAny_execs_nil ?_
          obtain ⟨fu, rfl⟩ : ∃ fu', fu = fu' + 1 := ⟨fu - 1, by omega⟩
          -- mid, shift, upper, lower
          refine wpAny_execs_cons (wpAny_Assign_Name (wpAny_BinOp (wpAny_BinOp ?_)))
          refine wpAny_Name (wpAny_loadName_local rfl rfl hns₇ rfl (wpAny_Name (wpAny_loadName_local rfl rfl hns₇ rfl (add_int ?_))))
          refine wpAny_Constant_int (half_int ?_)
          refine wpAny_storeName_local rfl hns₇ (fun h₈ hn₈ hs₈ => ?_) rfl
          refine wpAny_execs_cons (wpAny_Assign_Name (wpAny_BinOp (wpAny_BinOp ?_)))
          refine wpAny_Name (wpAny_loadName_local rfl rfl hn₈ (if_pos rfl) (wpAny_Name (wpAny_loadName_local rfl rfl hn₈ rfl (sub_half ?_))))
          have F₈ := F₇.set hn₈ hs₈
          refine wpAny_Name (wpAny_loadName_free rfl rfl rfl (cn₇ (kF F₈)) (mul_nat (by omega) ?_))
          refine wpAny_storeName_local rfl hn₈ (fun h₉ hn₉ hs₉ => ?_) rfl
          have F₉ := F₈.set hn₉ hs₉
          refine wpAny_execs_cons (wpAny_Assign_Name (wpAny_BinOp ?_))
          refine wpAny_Name (wpAny_loadName_local rfl rfl hn₉ rfl (wpAny_Name (wpAny_loadName_local rfl rfl hn₉ (if_pos rfl) (rshift_nat ?_))))
          refine wpAny_storeName_local rfl hn₉ (fun h₁₀ hn₁₀ hs₁₀ => ?_) rfl
          have F₁₀ := F₉.set hn₁₀ hs₁₀
          have u1 := (fdiv_pow_le hx (k / 2 * n)).1
          have u2 := (fdiv_pow_le hx (k / 2 * n)).2.1
          have u3 := (fdiv_pow_le hx (k / 2 * n)).2.2
          have u4 : x.fdiv (2 ^ (k / 2 * n)) < 2 ^ 16 := Int.lt_of_le_of_lt u2 hx'
          have hsh : k / 2 * n ≤ 64 := Nat.le_trans (Nat.mul_le_mul (show k / 2 ≤ 8 by omega) (show n ≤ 8 by omega)) (by decide)
          refine wpAny_execs_cons (wpAny_Assign_Name (wpAny_BinOp ?_))
          refine wpAny_Name (wpAny_loadName_local rfl rfl hn₁₀ rfl ?_)
          refine wpAny_BinOp (wpAny_Name (wpAny_loadName_local rfl rfl hn₁₀ (if_pos rfl) ?_))
          refine wpAny_Name (wpAny_loadName_local rfl rfl hn₁₀ rfl ?_)
          refine lshift_nat (by omega) (by omega) (xor_int ?_)
          refine wpAny_storeName_local rfl hn₁₀ (fun h₁₁ hn₁₁ hs₁₁ => ?_) rfl
          have F₁₁ := F₁₀.set hn₁₁ hs₁₁
          have u5 : 0 ≤ x.fdiv (2 ^ (k / 2 * n)) * 2 ^ (k / 2 * n) := Int.mul_nonneg u1 (Int.le_of_lt (Int.pow_pos (by decide)))
          have v1 := (bitXor_bound hx u5 hx' (Int.lt_of_le_of_lt u3 hx')).1
          have v2 := (bitXor_bound hx u5 hx' (Int.lt_of_le_of_lt u3 hx')).2
          -- inner(lower, L, mid)
          refine wpAny_execs_cons (wpAny_Expr (Call_Name3 (wpAny_Name (wpAny_loadName_free rfl rfl rfl (ci₇ (kF F₁₁)) ?_)) rfl))
          refine callWith_fn hf₆ rfl (Calls.evalArgs_plain (Calls.spliced_cons ?_))
          refine wpAny_Name (wpAny_loadName_local rfl rfl hn₁₁ (if_pos rfl) (Calls.spliced_cons ?_))
          refine wpAny_Name (wpAny_loadName_local rfl rfl hn₁₁ rfl (Calls.spliced_cons ?_))
          refine wpAny_Name (wpAny_loadName_local rfl rfl hn₁₁ rfl (Calls.spliced_nil ⟨kF F₁₁ f _ (Ne.symm hDf) hf₆, ?_⟩))
          refine wpAny_call (ih fu (Nat.lt_succ_self _) (k / 2) (by omega) (by omega) (by omega) _ Lo _ _ _ _ _ vs _ (r₁.deeper _) (kF F₁₁) (hl.at fun o e => F₁₁.keep _ o e) (by omega) h16' v1 v2 fun h₁₂ tk₁₂ ys1 hk₁₂ hy1 hl₁₂ => ?_)
          have hy1l : ys1.length = k / 2 := hy1.length.trans (dig_length n fu _ _ (by omega) (by omega))
          have kD : ∀ b o, b ≠ D → h₆.get? b = some o → h₁₂.get? b = some o := fun b o nb e => hk₁₂ b o nb (kF F₁₁ b o nb e)
          have hDL' : D ≠ s'.heap.objs.size := by
            obtain ⟨o, ho, _⟩ := hl
            exact ne_new ho 0
          have hn₁₂ := hn₁₁.at' fun o e => hk₁₂ _ o (Ne.symm hDL') e
          -- inner(upper, mid, R)
          refine wpAny_execs_cons (wpAny_Expr (Call_Name3 (wpAny_Name (wpAny_loadName_free rfl rfl rfl (ci₇ kD) ?_)) rfl))
          refine callWith_fn hf₆ rfl (Calls.evalArgs_plain (Calls.spliced_cons ?_))
          refine wpAny_Name (wpAny_loadName_local rfl rfl hn₁₂ rfl (Calls.spliced_cons ?_))
          refine wpAny_Name (wpAny_loadName_local rfl rfl hn₁₂ rfl (Calls.spliced_cons ?_))
          refine wpAny_Name (wpAny_loadName_local rfl rfl hn₁₂ rfl (Calls.spliced_nil ⟨kD f _ (Ne.symm hDf) hf₆, ?_⟩))
          have hR2 := ih fu (Nat.lt_succ_self _) (k - k / 2) (by omega) (by omega) (by omega) (x.fdiv (2 ^ (k / 2 * n))) (Lo + k / 2)
          rw [show Lo + k / 2 + (k - k / 2) = Lo + k by omega] at hR2
          have hlen2 : (vs.take Lo ++ ys1 ++ vs.drop (Lo + k / 2)).length = vs.length := by
            rw [List.length_append, List.length_append, List.length_take, List.length_drop, hy1l]; omega
          refine wpAny_call (hR2 _ _ _ _ _ (vs.take Lo ++ ys1 ++ vs.drop (Lo + k / 2)) _ (r₁.deeper _) kD hl₁₂ (by rw [hlen2]; exact hlen) (by rw [hlen2]; exact h16') u1 u4 fun h₁₃ tk₁₃ ys2 hk₁₃ hy2 hl₁₃ => ?_)
          refine wpAny_execs_nil ?_
          refine hR' h₁₃ _ (ys1 ++ ys2) (fun b o nb e => hk₁₃ b o nb (hk₁₂ b o nb (F₁₁.keep b o e))) ?_ ?_
          · rw [dig, if_neg (by omega)]
            exact hy1.append hy2
          · rw [show Lo + k = Lo + k / 2 + (k - k / 2) by omega, splice2 vs ys1 ys2 (k := k) hlen (by omega) hy1l] at hl₁₃
            exact hl₁₃
    refine wpAny_execs_cons (wpAny_If (wpAny_isTrue_value (wpAny_Name (wpAny_loadName_local rfl rfl hns₆ rfl (truthy_int ?_)))))
    by_cases ha0 : a = 0
    · subst ha0
      simp only [show ((0 : Int) != 0) = false by decide, Bool.false_eq_true, if_false]
      refine wpAny_execs_nil ?_
      refine wpAny_execs_cons (wpAny_Return_some (wpAny_Name (wpAny_loadName_cell rfl rfl rfl hca₆ ?_)))
      refine hR D h₆ _ _ base₆ ht₆ hD₆ hDs ?_
      rw [if_pos rfl]
      exact ints_replicate 0 _ K
    · rw [show (a != 0) = true by simpa using ha0]
      simp only [if_true]
      have hK1' := hK1 ha0
      refine wpAny_execs_cons (wpAny_Expr (Call_Name3 (wpAny_Name (wpAny_loadName_cell rfl rfl rfl hci₆ ?_)) rfl))
      refine callWith_fn hf₆ rfl (Calls.evalArgs_plain (Calls.spliced_cons ?_))
      refine wpAny_Name (wpAny_loadName_local rfl rfl hns₆ rfl (Calls.spliced_cons ?_))
      refine wpAny_Constant_int (Calls.spliced_cons ?_)
      refine Call_Name1 (name_builtin Tp₆ rfl rfl rfl rfl rfl boot_len (by decide) (by decide) ?_) rfl
      refine callWith_builtin rfl (Calls.evalArgs_plain (Calls.spliced_cons ?_))
      refine wpAny_Name (wpAny_loadName_cell rfl rfl rfl hca₆ (Calls.spliced_nil ?_))
      refine len_list hD₆ (n := 0 + K) (by rw [List.length_replicate, Nat.zero_add]) (by omega) fun t' tk' => ?_
      refine Calls.spliced_nil ⟨hf₆, ?_⟩
      refine wpAny_call (inner K K hK1' (by omega) hK2 a 0 _ _ _ _ _ (List.replicate K (Value.int 0 tk₁)) _ (r.deeper _ |> fun r => ⟨r.1, by have := r.2.1; omega, by have := r.2.2; omega⟩) (fun b o _ e => e) hD₆ (by rw [List.length_replicate]; omega) (by rw [List.length_replicate]; omega) ha ha' fun h₈ tk₈ ys hk₈ hy hl₈ => ?_)
      refine wpAny_execs_nil ?_
      refine wpAny_execs_cons (wpAny_Return_some (wpAny_Name (wpAny_loadName_cell rfl rfl rfl (c := s.heap.objs.size + 2) (v := .ref D) ?_ ?_)))
      · obtain ⟨o, ho, hd⟩ := hca₆
        exact ⟨o, hk₈ _ _ (Ne.symm hDca) ho, hd⟩
      rw [List.take_zero, List.nil_append, List.drop_of_length_le (by rw [List.length_replicate]; omega), List.append_nil] at hl₈
      refine hR D h₈ _ ys (fun b o n4 e => hk₈ b o (ne_of_live e hDs) (base₆ b o n4 e)) ?_ hl₈ hDs ?_
      · obtain ⟨ps, g1, g2⟩ := ht₆
        refine ⟨ps, hk₈ _ _ (Ne.symm hD44) g1, ?_⟩
        rcases g2 with g2 | ⟨c', g2, c₀, o, vs, t, e, g, hd, r⟩
        · exact .inl g2
        · refine .inr ⟨c', g2, c₀, o, vs, t, e, hk₈ _ _ (fun q => ?_) g, hd, r⟩
          obtain ⟨o', ho', _, n', hd'⟩ := hD₆
          rw [q, ho'] at g; cases g; rw [hd'] at hd; cases hd
      · rw [if_neg ha0]; exact hy
  · exact Or.inl (PyProof.noPylong_small (by have := bits64 (a := a) (by omega); omega))
end
end Mine

namespace Mine

def q51 : Str := Str.ofString "_digits2int.<locals>.inner"
def pos51 : Pos := ⟨66, 4, 71, 55⟩

/-- one or two digits, as the program's inner def joins them -/
def d2 (ds : List Int) (n k L : Nat) : Int := if k ≤ 1 then ds.getD L 0 else ds.getD (L + 1) 0 * 2 ^ n + ds.getD L 0

theorem getD_at {vs : List Value} {ds : List Int} (h : IntsAre vs ds) {i : Nat} (hi : i < ds.length) : ∃ t, vs[i]? = some (.int (ds.getD i 0) t) := by
  have hv : i < vs.length := by rw [h.length]; exact hi
  obtain ⟨m, t, e, q⟩ := h.at i vs[i] (List.getElem?_eq_getElem hv)
  refine ⟨t, ?_⟩
  rw [List.getElem?_eq_getElem hv, e, List.getD_eq_getElem?_getD, q]
  rfl

theorem d2_one (ds : List Int) (n L : Nat) : d2 ds n 1 L = ds.getD L 0 := if_pos (Nat.le_refl 1)
theorem d2_two (ds : List Int) (n L : Nat) : d2 ds n 2 L = ds.getD (L + 1) 0 * 2 ^ n + ds.getD L 0 := if_neg (by decide)
theorem notEmpty {vs : List Value} {k : Nat} (h : vs.length = k) (hk : 1 ≤ k) : (!vs.toArray.isEmpty) = true := by
  cases vs with
  | nil => exact absurd h (by rw [List.length_nil]; omega)
  | cons => rfl

section
variable {w : World} {A : Around} {s : Shared} {mg mb : Str → Option Value}

theorem tab_keeps {P : Addr} {q : Str} {pos : Pos} {h h' : Heap} (x : Tab P q pos h) (k : ∀ b o, h.get? b = some o → h'.get? b = some o) : Tab P q pos h' := by
  obtain ⟨ps, g1, g2⟩ := x
  refine ⟨ps, k _ _ g1, ?_⟩
  rcases g2 with g2 | ⟨c', g2, g3⟩
  · exact .inl g2
  · exact .inr ⟨c', g2, g3.keeps k⟩
theorem tab_but {P a : Addr} {q : Str} {pos : Pos} {h h' : Heap} (x : Tab P q pos h) (ha : P ≠ a) (hf : ∀ o, h.get? a = some o → ∀ vs, o.data ≠ .fields vs) (k : ∀ b o, b ≠ a → h.get? b = some o → h'.get? b = some o) : Tab P q pos h' := by
  obtain ⟨ps, g1, g2⟩ := x
  refine ⟨ps, k _ _ ha g1, ?_⟩
  rcases g2 with g2 | ⟨c', g2, c₀, o, vs, t, e, g, hd, r⟩
  · exact .inl g2
  · exact .inr ⟨c', g2, c₀, o, vs, t, e, k _ _ (fun z => hf o (z ▸ g) vs hd) g, hd, r⟩

theorem digits2int_code {l : Addr} {vs : List Value} {ds : List Int} {n : Nat} {u : Tok} {R : Result → Shared → Prop} (r : Room A 20) (Tp : TopAt w mg mb s.heap) (hb : BM mg s.heap) (ht : Tab 51 q51 pos51 s.heap)
    (hl : s.heap.IsList l vs.toArray) (hi : IntsAre vs ds) (hd1 : 1 ≤ ds.length) (hd2 : ds.length ≤ 2) (hsm : ∀ i, (ds.getD i 0).natAbs < 2 ^ 64) (hn : n ≤ 8)
    (hR : ∀ h' tk t v, v = d2 ds n ds.length 0 → (∀ b o, b ≠ 51 → s.heap.get? b = some o → h'.get? b = some o) → Tab 51 q51 pos51 h' → R (.ok (.ret (.int v t))) { s with heap := h', toks := tk }) :
    codeAny (model Pr w) A (.call (.ref 56) ⟨[.ref l, .int (n : Nat) u], []⟩) R s := by
  refine codeAny_call_cells (fd := fnOf _ _ _ _ _ _ _ _ _ _ _ _) (o := _) r.depth (Tp.X 56 _ rfl) rfl Tp.nolimit (codeRec_of Tp.X rfl) rfl (binds := [(Str.ofString "digits", .ref l), (Str.ofString "n", .int (n : Nat) u)]) rfl rfl ?_ ?_
  · intro x hx
    simp at hx
    rcases hx with rfl | rfl
    · exact .inr ⟨rfl, rfl⟩
    · exact .inr ⟨rfl, rfl⟩
  intro s₁ x
  obtain ⟨h₁, tk₁, rfl, hk₁⟩ := x.done
  have hns := x.toInCall.ns
  have hcd : h₁.IsCell (s.heap.objs.size + 1) (some (.ref l)) := x.cell (Str.ofString "digits") (s.heap.objs.size + 1) rfl
  have hcn : h₁.IsCell (s.heap.objs.size + 2) (some (.int (n : Nat) u)) := x.cell (Str.ofString "n") (s.heap.objs.size + 2) rfl
  have hci := x.cell (Str.ofString "inner") (s.heap.objs.size + 3) rfl
  clear x
  obtain ⟨ps, hP, _⟩ := id ht
  have hl51 : l ≠ 51 := fun q => by
    obtain ⟨o, ho, hc, _⟩ := hl
    rw [q, hP] at ho; cases ho; cases hc
  refine wpAny_execs_cons (nestDef_K rfl rfl rfl (make_inner (c := 55) (P := 51) (Tp.keeps hk₁) (hb.keeps hk₁) rfl rfl rfl (codeHd_of_K (Tp.keeps hk₁).X (by kernel_rfl)) (tab_keeps ht hk₁) (by decide) ?_))
  intro c' ctv doc f h₅ tk₅ hk₅ ht₅ hf0 hrec hf
  have hci₅ : h₅.IsCell (s.heap.objs.size + 3) none := by
    obtain ⟨o, ho, hd⟩ := hci
    exact ⟨o, hk₅ _ _ (Ne.symm (ne_new hP 3)) ho, hd⟩
  refine wpAny_storeName_cell rfl rfl rfl hci₅ fun h₆ hci₆ hs₆ => ?_
  have up : ∀ b o, b ≠ s.heap.objs.size + 3 → b ≠ 51 → h₁.get? b = some o → h₆.get? b = some o := fun b o n3 n4 e => hs₆.extBut b o n3 (hk₅ b o n4 e)
  have base₆ : ∀ b o, b ≠ 51 → s.heap.get? b = some o → h₆.get? b = some o := fun b o n4 e => up b o (ne_new e 3) n4 (hk₁ b o e)
  have hns₆ := hns.at' fun o e => up _ o (ne_off (j := 0) (k := 3) _ (by decide)) (Ne.symm (ne_new hP 0)) e
  have hcn₆ : h₆.IsCell (s.heap.objs.size + 2) (some (.int (n : Nat) u)) := by
    obtain ⟨o, ho, hd⟩ := hcn
    exact ⟨o, up _ o (ne_off (j := 2) (k := 3) _ (by decide)) (Ne.symm (ne_new hP 2)) ho, hd⟩
  have hcd₆ : h₆.IsCell (s.heap.objs.size + 1) (some (.ref l)) := by
    obtain ⟨o, ho, hd⟩ := hcd
    exact ⟨o, up _ o (ne_off (j := 1) (k := 3) _ (by decide)) (Ne.symm (ne_new hP 1)) ho, hd⟩
  have hl₆ : h₆.IsList l vs.toArray := hl.at fun o e => base₆ _ o hl51 e
  have f3 : f ≠ s.heap.objs.size + 3 := Ne.symm (by
    obtain ⟨o, ho, hd⟩ := hci
    exact ne_of_live ho hf0)
  have hf₆ := hs₆.extBut f _ f3 hf
  have hcell : ∀ o, h₅.get? (s.heap.objs.size + 3) = some o → ∀ vs, o.data ≠ .fields vs := fun o e vs hd => by
    obtain ⟨o', ho', hd'⟩ := hci₅
    rw [ho'] at e; cases e; rw [hd'] at hd; cases hd
  have hrec₆ : h₆.CodeRec (.ref c') q51 := by
    obtain ⟨c₀, o, vs, t, e, g, hd, r⟩ := hrec
    exact ⟨c₀, o, vs, t, e, hs₆.extBut _ _ (fun q => hcell o (q ▸ g) vs hd) g, hd, r⟩
  have ht₆ : Tab 51 q51 pos51 h₆ := tab_but ht₅ (ne_new hP 3) hcell fun b o nb e => hs₆.extBut b o nb e
  have Tp₆ : TopAt w mg mb h₆ := Tp.tab hP base₆
  clear up hs₆ hf hrec hci₅ ht₅ hk₅ hf0 hcn hci hcd hns hk₁ hcell
  have inner : ∀ k, 1 ≤ k → k ≤ 2 → ∀ (Lo : Nat) (tL tR : Tok) (A' : Around) (s' : Shared) (R' : Result → Shared → Prop), Room A' (k + 1) → (∀ b o, h₆.get? b = some o → s'.heap.get? b = some o) → Lo + k ≤ ds.length →
      (∀ h' tk t v, v = d2 ds n k Lo → (∀ b o, s'.heap.get? b = some o → h'.get? b = some o) → R' (.ok (.ret (.int v t))) { s' with heap := h', toks := tk }) →
      codeAny (model Pr w) A' (.call (.ref f) ⟨[.int (Lo : Nat) tL, .int ((Lo + k : Nat) : Int) tR], []⟩) R' s' := by
    intro k
    induction k using Nat.strongRecOn with
    | _ k ih =>
      intro h1 h2 Lo tL tR A' s' R' r₁ hk hlen hR'
      have T' := Tp₆.keeps hk
      refine codeAny_call_def r₁.depth (hk f _ hf₆) rfl T'.nolimit (hrec₆.keeps hk) rfl (binds := [(Str.ofString "L", .int (Lo : Nat) tL), (Str.ofString "R", .int ((Lo + k : Nat) : Int) tR)]) (BindsTo.of_eq rfl) (of_decide_eq_true rfl) (by intro x hx; simp at hx; rcases hx with rfl | rfl <;> rfl) ?_
      intro h₇ hns₇ hk₇
      have F₇ : Fr s'.heap s'.heap.objs.size h₇ _ := ⟨hns₇, hk₇, Nat.le_refl _⟩
      have kF : ∀ {h : Heap} {m : Str → Option Value}, Fr s'.heap s'.heap.objs.size h m → ∀ b o, h₆.get? b = some o → h.get? b = some o := fun F b o e => F.keep b o (hk b o e)
      refine wpAny_execs_cons (wpAny_If (wpAny_isTrue_Compare1 (wpAny_BinOp (wpAny_Name (wpAny_loadName_local rfl rfl hns₇ rfl (wpAny_Constant_int (add_int ?_)))))))
      refine wpAny_Name (wpAny_loadName_local rfl rfl hns₇ rfl (eq_int (wpAny_truthy_bool ?_)))
      by_cases hk1 : k = 1
      · subst hk1
        rw [show ((Lo : Int) + 1 == ((Lo + 1 : Nat) : Int)) = true by simp]
        simp only [if_true]
        obtain ⟨t₀, hv⟩ := getD_at hi (i := Lo) (by omega)
        refine wpAny_execs_cons (wpAny_Return_some (wpAny_Subscript_Name slot_list_getitem.lookup ?_))
        refine wpAny_Name (wpAny_loadName_free rfl rfl rfl (hcd₆.keeps (kF F₇)) (wpAny_Name (wpAny_loadName_local rfl rfl hns₇ rfl ?_)))
        have hl₇ := hl₆.at fun o e => kF F₇ _ o e
        refine ⟨hl₇.typeIs, wpAny_getItem_list hl₇ (by omega) (by omega) (by rw [Int.toNat_natCast, List.getElem?_toArray]; exact hv) ?_⟩
        exact hR' h₇ _ t₀ _ (d2_one _ _ _).symm hk₇
      · obtain rfl : k = 2 := by omega
        rw [show ((Lo : Int) + 1 == ((Lo + 2 : Nat) : Int)) = false from beq_false_of_ne (by omega)]
        simp only [Bool.false_eq_true, if_false]
        refine wpAny_execs_nil ?_
        refine wpAny_execs_cons (wpAny_Assign_Name (wpAny_BinOp (wpAny_BinOp ?_)))
        refine wpAny_Name (wpAny_loadName_local rfl rfl hns₇ rfl (wpAny_Name (wpAny_loadName_local rfl rfl hns₇ rfl (add_int ?_))))
        refine wpAny_Constant_int (half_int (k := 2) ?_)
        refine wpAny_storeName_local rfl hns₇ (fun h₈ hn₈ hs₈ => ?_) rfl
        have F₈ := F₇.set hn₈ hs₈
        refine wpAny_execs_cons (wpAny_Assign_Name (wpAny_BinOp (wpAny_BinOp ?_)))
        refine wpAny_Name (wpAny_loadName_local rfl rfl hn₈ (if_pos rfl) (wpAny_Name (wpAny_loadName_local rfl rfl hn₈ rfl (sub_half (k := 2) ?_))))
        refine wpAny_Name (wpAny_loadName_free rfl rfl rfl (hcn₆.keeps (kF F₈)) (mul_nat (by omega) ?_))
        refine wpAny_storeName_local rfl hn₈ (fun h₉ hn₉ hs₉ => ?_) rfl
        have F₉ := F₈.set hn₉ hs₉
        refine wpAny_execs_cons (wpAny_Return_some (wpAny_BinOp (wpAny_BinOp ?_)))
        refine Call_Name2 (wpAny_Name (wpAny_loadName_free rfl rfl rfl (hci₆.keeps (kF F₉)) ?_)) rfl
        refine callWith_fn hf₆ rfl (Calls.evalArgs_plain (Calls.spliced_cons ?_))
        refine wpAny_Name (wpAny_loadName_local rfl rfl hn₉ rfl (Calls.spliced_cons ?_))
        refine wpAny_Name (wpAny_loadName_local rfl rfl hn₉ rfl (Calls.spliced_nil ⟨kF F₉ f _ hf₆, ?_⟩))
        refine wpAny_call (ih 1 (by omega) (by omega) (by omega) (Lo + 1) _ _ _ _ _ (r₁.deeper _) (kF F₉) hlen fun h₁₀ tk₁₀ t₁₀ v1 e1 hk₁₀ => ?_)
        have hn₁₀ := hn₉.keeps hk₁₀
        have k₁₀ : ∀ b o, h₆.get? b = some o → h₁₀.get? b = some o := fun b o e => hk₁₀ b o (kF F₉ b o e)
        refine wpAny_Name (wpAny_loadName_local rfl rfl hn₁₀ (if_pos rfl) (lshift_nat (by omega) (by rw [e1, d2_one]; exact hsm _) ?_))
        refine Call_Name2 (wpAny_Name (wpAny_loadName_free rfl rfl rfl (hci₆.keeps k₁₀) ?_)) rfl
        refine callWith_fn hf₆ rfl (Calls.evalArgs_plain (Calls.spliced_cons ?_))
        refine wpAny_Name (wpAny_loadName_local rfl rfl hn₁₀ rfl (Calls.spliced_cons ?_))
        refine wpAny_Name (wpAny_loadName_local rfl rfl hn₁₀ rfl (Calls.spliced_nil ⟨k₁₀ f _ hf₆, ?_⟩))
        refine wpAny_call (ih 1 (by omega) (by omega) (by omega) Lo _ _ _ _ _ (r₁.deeper _) k₁₀ (by omega) fun h₁₁ tk₁₁ t₁₁ v0 e0 hk₁₁ => add_int ?_)
        exact hR' h₁₁ _ _ _ (by rw [e0, e1, d2_one, d2_one, d2_two, show 2 / 2 * n = n by omega]) fun b o e => hk₁₁ b o (hk₁₀ b o (F₉.keep b o e))
  have hvl : vs.length = ds.length := hi.length
  refine wpAny_execs_cons (wpAny_Return_some (IfExp_ (wpAny_isTrue_value (wpAny_Name (wpAny_loadName_cell rfl rfl rfl hcd₆ (wpAny_truthy_list hl₆ (by rw [List.size_toArray]; omega) ?_))))))
  rw [notEmpty hvl hd1]
  simp only [if_true]
  refine Call_Name2 (wpAny_Name (wpAny_loadName_cell rfl rfl rfl hci₆ ?_)) rfl
  refine callWith_fn hf₆ rfl (Calls.evalArgs_plain (Calls.spliced_cons ?_))
  refine wpAny_Constant_int (Calls.spliced_cons ?_)
  refine Call_Name1 (name_builtin Tp₆ rfl rfl rfl rfl rfl boot_len (by decide) (by decide) ?_) rfl
  refine callWith_builtin rfl (Calls.evalArgs_plain (Calls.spliced_cons ?_))
  refine wpAny_Name (wpAny_loadName_cell rfl rfl rfl hcd₆ (Calls.spliced_nil ?_))
  refine len_list hl₆ (n := 0 + ds.length) (by rw [hvl, Nat.zero_add]) (by omega) fun t' tk' => ?_
  refine Calls.spliced_nil ⟨hf₆, ?_⟩
  refine wpAny_call (inner ds.length hd1 hd2 0 _ _ _ _ _ (r.deeper _ |> fun r => ⟨r.1, by have := r.2.1; omega, by have := r.2.2; omega⟩) (fun b o e => e) (by omega) fun h₈ tk₈ t₈ v8 e8 hk₈ => ?_)
  exact hR h₈ _ _ v8 e8 (fun b o n4 e => hk₈ b o (base₆ b o n4 e)) (tab_keeps ht₆ hk₈)
end
end Mine

namespace Mine

theorem Room.down {A : Around} {j k : Nat} (r : Room A k) (h : j ≤ k) : Room A j := ⟨r.1, by have := r.2.1; omega, by have := r.2.2; omega⟩

theorem ns_not_fields {h : Heap} {L : Addr} {m : Str → Option Value} (x : h.Ns L m) : ∀ o, h.get? L = some o → ∀ vs, o.data ≠ .fields vs := fun o e vs hd => by
  obtain ⟨o', es, ep, ho', hd', _⟩ := x
  rw [ho'] at e; cases e; rw [hd'] at hd; cases hd
theorem tab_tab {P P' : Addr} {q q' : Str} {pos pos' : Pos} {h h' : Heap} (x : Tab P q pos h) (y : Tab P' q' pos' h) (hne : P ≠ P') (k : ∀ b o, b ≠ P' → h.get? b = some o → h'.get? b = some o) : Tab P q pos h' := by
  obtain ⟨ps, g1, g2⟩ := x
  refine ⟨ps, k _ _ hne g1, ?_⟩
  rcases g2 with g2 | ⟨c', g2, c₀, o, vs, t, e, g, hd, r⟩
  · exact .inl g2
  · refine .inr ⟨c', g2, c₀, o, vs, t, e, k _ _ (fun z => ?_) g, hd, r⟩
    obtain ⟨ps', p1, p2⟩ := y
    rw [z, p1] at g
    cases g
    cases hd
    rcases p2 with rfl | ⟨c2, rfl, _⟩
    · simp at r
    · simp [rawInt] at r

section
variable {w : World} {A : Around} {s : Shared} {mg mb : Str → Option Value} {E : Value → Shared → Prop}

theorem ns_tabs {h h' : Heap} {Ps : List Addr} {a : Addr} {m : Str → Option Value} (x : h.Ns a m) (hP : ∀ P ∈ Ps, ∃ ps, h.get? P = some (tabObj ps)) (k : ∀ b o, b ∉ Ps → h.get? b = some o → h'.get? b = some o) : h'.Ns a m :=
  x.at' fun o e => k a o (fun q => by
    obtain ⟨ps, hp⟩ := hP a q
    obtain ⟨o', es, ep, ho, hd, _⟩ := x
    rw [hp] at ho; cases ho; cases hd) e
theorem TopAt.tabs {h h' : Heap} {Ps : List Addr} (T : TopAt w mg mb h) (hP : ∀ P ∈ Ps, ∃ ps, h.get? P = some (tabObj ps)) (k : ∀ b o, b ∉ Ps → h.get? b = some o → h'.get? b = some o) : TopAt w mg mb h' := by
  refine ⟨fun a o e => k a o (fun q => ?_) (T.X a o e), ns_tabs T.g hP k, ns_tabs T.b hP k, ?_, T.builtins⟩
  · have e2 := T.X a o e
    obtain ⟨ps, hp⟩ := hP a q
    rw [hp] at e2
    have h2 := List.all_eq_true.mp (noTabs_KF (w := w)) (a, o) (mem_of_lookupK e)
    cases e2
    exact absurd (show false = true from h2) Bool.false_ne_true
  · obtain ⟨mc, a, r⟩ := T.nolimit
    exact ⟨mc, ns_tabs a hP k, r⟩
theorem BM.tabs {h h' : Heap} {Ps : List Addr} (b : BM mg h) (hP : ∀ P ∈ Ps, ∃ ps, h.get? P = some (tabObj ps)) (k : ∀ b o, b ∉ Ps → h.get? b = some o → h'.get? b = some o) : BM mg h' := by
  obtain ⟨bm, ob, a1, a2, a3, a4, a5, r⟩ := b
  refine ⟨bm, ob, a1, a2, a3, k _ _ (fun q => ?_) a4, a5, r⟩
  obtain ⟨ps, hp⟩ := hP bm q
  rw [hp] at a4; cases a4; cases a5

theorem div2n1n_code {a b n : Int} {t u v : Tok} {R : Result → Shared → Prop} (r : Room A 2) (Tp : TopAt w mg mb s.heap) (ha : a.natAbs < 2 ^ 32) (hn : 0 ≤ n) (hb : b ≠ 0) (hb' : b.natAbs < 1073741824)
    (hR : ∀ T h' tk, (∀ b o, s.heap.get? b = some o → h'.get? b = some o) → pairOf h' (.ref T) = some (a.fdiv b, a.fmod b) → R (.ok (.ret (.ref T))) { s with heap := h', toks := tk }) :
    codeAny (model Pr w) A (.call (.ref 35) ⟨[.int a t, .int b u, .int n v], []⟩) R s := by
  refine codeAny_call_def (fd := fnOf _ _ _ _ _ _ _ _ _ _ _ _) (o := _) r.depth (Tp.X 35 _ rfl) rfl Tp.nolimit (codeRec_of Tp.X rfl) rfl (binds := [(Str.ofString "a", .int a t), (Str.ofString "b", .int b u), (Str.ofString "n", .int n v)]) (BindsTo.of_eq rfl) (by decide) (by intro x hx; simp at hx; rcases hx with rfl | rfl | rfl <;> rfl) ?_
  intro h₁ hns hk₁
  have T1 := Tp.keeps hk₁
  refine wpAny_execs_cons (wpAny_If (wpAny_isTrue_Compare1 (wpAny_BinOp (MethodCall_ (wpAny_Name (wpAny_loadName_local rfl rfl hns rfl (getMethod_int_bit_length (callWith_method0 (call_int_bit_length ?_)))))))))
  refine wpAny_Name (wpAny_loadName_local rfl rfl hns rfl (sub_int ?_))
  refine name_top T1 rfl rfl rfl rfl (by decide) (le_int (wpAny_truthy_bool ?_))
  rw [show decide (((Builtin.Int.intBits a : Nat) : Int) - n ≤ 4000) = true from decide_eq_true (by have := bits64 ha; omega)]
  simp only [if_true]
  refine wpAny_execs_cons (wpAny_Return_some (Call_Name2 (name_builtin T1 rfl rfl rfl rfl rfl boot_divmod (by decide) (by decide) ?_) rfl))
  refine callWith_builtin rfl (Calls.evalArgs_plain (Calls.spliced_cons ?_))
  refine wpAny_Name (wpAny_loadName_local rfl rfl hns rfl (Calls.spliced_cons ?_))
  refine wpAny_Name (wpAny_loadName_local rfl rfl hns rfl (Calls.spliced_nil ?_))
  refine divmod_int hb ?_ (Or.inl (PyProof.noPylong_small hb'))
  refine hR _ _ _ (fun b o e => Heap.get?_push_of_some _ (hk₁ b o e)) (pairOf_of (Heap.get?_push_size _ rfl) rfl rfl)

theorem reverse_plain {prog : Program} {D : Addr} {its : Array Value} {Q : Value → Shared → Prop} (hl : s.heap.PlainList D its) (hsz : its.size ≤ sizeLine) (h : ∀ h', h'.PlainList D its.toList.reverse.toArray → Heap.SameBut D s.heap h' → Q .none { s with heap := h' }) :
    wpAny (model prog w) A (call (.builtin "list.reverse") [.ref D]) Q E s := by
  obtain ⟨n, ho⟩ := hl
  refine call_meets PySem.F.slot_list_reverse ⟨_, ho, rfl⟩ PySem.F.entry_list_reverse (PySem.F.args_list_reverse_1 _) (AutoSeq1.list_reverse_list_0 D its n hsz) ⟨ho, ?_⟩
  refine h _ ⟨n, ?_⟩ (Heap.SameBut.update ..)
  rw [Heap.get?_update_self _ ho (by rw [mapSeq_reverse]; rfl), mapSeq_reverse]

/-- the quotient's digits, most significant first, and the rest -/
def qf : List Int → Int → List Int × Int
  | [], r => ([], r)
  | d :: l, r => ((r * 2 ^ 3 + d).fdiv 4 :: (qf l ((r * 2 ^ 3 + d).fmod 4)).1, (qf l ((r * 2 ^ 3 + d).fmod 4)).2)

theorem qf_bound : ∀ (l : List Int) (r : Int), (∀ d ∈ l, 0 ≤ d ∧ d < 8) → 0 ≤ r → r < 4 → ∀ q ∈ (qf l r).1, 0 ≤ q ∧ q < 8
  | [], r, _, _, _, q, hq => by simp [qf] at hq
  | d :: l, r, hd, h0, h4, q, hq => by
    have hd1 := hd d List.mem_cons_self
    have e1 : (r * 2 ^ 3 + d).fdiv 4 = (r * 8 + d) / 4 := by rw [Int.fdiv_eq_ediv_of_nonneg _ (by decide)]; rfl
    have e2 : (r * 2 ^ 3 + d).fmod 4 = (r * 8 + d) % 4 := by rw [Int.fmod_eq_emod_of_nonneg _ (by decide)]; rfl
    rw [qf, e1, e2] at hq
    rcases List.mem_cons.mp hq with rfl | hq
    · omega
    · exact qf_bound l _ (fun x hx => hd x (List.mem_cons_of_mem _ hx)) (by omega) (by omega) q hq
theorem qf_length : ∀ (l : List Int) (r : Int), (qf l r).1.length = l.length
  | [], _ => rfl
  | d :: l, r => by rw [qf, List.length_cons, qf_length l, List.length_cons]

theorem plain_of_off {h h' : Heap} {D : Addr} {its : Array Value} (x : h.PlainList D its) (k : ∀ o, h.get? D = some o → h'.get? D = some o) : h'.PlainList D its := x.at k

/-- what the division of a by 4 needs to know -/
def DivOK (a : Int) (K : Nat) : Prop := a ≠ 0 ∧ 0 ≤ a ∧ a < 2 ^ 16 ∧ (((Builtin.Int.intBits a : Nat) : Int) + ((3 : Nat) : Int) - 1).fdiv ((3 : Nat) : Int) = (K : Nat) ∧ 1 ≤ K ∧ K ≤ 2 ∧ (∀ d ∈ dig 3 K K a, 0 ≤ d ∧ d < 8) ∧ (dig 3 K K a).length = K ∧ d2 (qf (dig 3 K K a).reverse 0).1.reverse 3 K 0 = a.fdiv 4

set_option linter.unusedVariables false in
theorem divmod_pos_code {a : Int} {K : Nat} {t u : Tok} {R : Result → Shared → Prop} (r : Room A 25) (Tp : TopAt w mg mb s.heap) (hb : BM mg s.heap) (ht : Tab 44 q44 pos44 s.heap) (ht2 : Tab 51 q51 pos51 s.heap) (hD : DivOK a K)
    (hR : ∀ T h' tk z, (∀ b o, b ≠ 44 → b ≠ 51 → s.heap.get? b = some o → h'.get? b = some o) → Tab 44 q44 pos44 h' → Tab 51 q51 pos51 h' → pairOf h' (.ref T) = some (a.fdiv 4, z) → R (.ok (.ret (.ref T))) { s with heap := h', toks := tk }) :
    codeAny (model Pr w) A (.call (.ref 63) ⟨[.int a t, .int 4 u], []⟩) R s := by
  refine codeAny_call_def (fd := fnOf _ _ _ _ _ _ _ _ _ _ _ _) (o := _) r.depth (Tp.X 63 _ rfl) rfl Tp.nolimit (codeRec_of Tp.X rfl) rfl (binds := [(Str.ofString "a", .int a t), (Str.ofString "b", .int 4 u)]) (BindsTo.of_eq rfl) (by decide) (by intro x hx; simp at hx; rcases hx with rfl | rfl <;> rfl) ?_
  intro h₁ hns hk₁
  have T1 := Tp.keeps hk₁
  -- n = b.bit_length()
  refine wpAny_execs_cons (wpAny_Assign_Name (MethodCall_ (wpAny_Name (wpAny_loadName_local rfl rfl hns rfl (getMethod_int_bit_length (callWith_method0 (call_int_bit_length ?_)))))))
  refine wpAny_storeName_local rfl hns (fun h₂ hn₂ hs₂ => ?_) rfl
  have F0 : Fr s.heap s.heap.objs.size h₁ _ := ⟨hns, hk₁, Nat.le_refl _⟩
  have F2 := F0.set hn₂ hs₂
  have T2 := Tp.keeps F2.keep
  obtain ⟨a1, a2, a3, a4, a5, a6, a7, a8, a9⟩ := id hD
  -- a_digits = _int2digits(a, n)
  refine wpAny_execs_cons (wpAny_Assign_Name (Call_Name2 (name_top T2 rfl rfl rfl rfl (by decide) ?_) rfl))
  refine callWith_top ⟨_, _, _, _, rfl⟩ (Calls.evalArgs_plain (Calls.spliced_cons (wpAny_Name (wpAny_loadName_local rfl rfl hn₂ rfl (Calls.spliced_cons ?_)))))
  refine wpAny_Name (wpAny_loadName_local rfl rfl hn₂ (if_pos rfl) (Calls.spliced_nil ⟨T2.X, ?_⟩))
  have r1 := r.deeper (callEnv (fnOf (Str.ofString "_divmod_pos") (Str.ofString "_divmod_pos") default [] default .none .none .none .none none .none .none) 0 0)
  refine wpAny_call (int2digits_code (n := 3) (K := K) (r1.less.less.less.less) T2 (hb.keeps F2.keep) (tab_keeps ht F2.keep) a2 a3 (by decide) (by decide) a4 (fun _ => a5) (by omega) ?_)
  intro D h₃ tk₃ vs hk₃ ht₃ hD₃ hD0 hvs
  rw [if_neg a1] at hvs
  obtain ⟨ps, hP, _⟩ := id ht
  obtain ⟨ps2, hP2, _⟩ := id ht2
  have hL44 : s.heap.objs.size ≠ 44 := Ne.symm (ne_new hP 0)
  have hn₃ := hn₂.at' fun o e => hk₃ _ o hL44 e
  refine wpAny_storeName_local rfl hn₃ (fun h₄ hn₄ hs₄ => ?_) rfl
  refine wpAny_execs_cons (wpAny_Assign_Name (wpAny_Constant_int ?_))
  refine wpAny_storeName_local rfl hn₄ (fun h₅ hn₅ hs₅ => ?_) rfl
  refine wpAny_execs_cons (wpAny_Assign_Name (List_ (args_nil (wpAny_newObj_type ?_))))
  have o₅ : ∀ b o, b ≠ s.heap.objs.size → h₃.get? b = some o → h₅.get? b = some o := fun b o nb e => hs₅.extBut b o nb (hs₄.extBut b o nb e)
  obtain ⟨Q, hQ⟩ : ∃ Q, Q = h₅.objs.size := ⟨_, rfl⟩
  have hQ₅ : h₅.get? Q = none := fresh (Nat.le_of_eq hQ.symm)
  have hq₆ : (h₅.push { cls := .type "list", data := .seq ([] : List Value).toArray }).PlainList Q #[] := ⟨0, by rw [hQ]; exact Heap.get?_push_size _ rfl⟩
  have k₆ : ∀ b o, h₅.get? b = some o → (h₅.push { cls := .type "list", data := .seq ([] : List Value).toArray }).get? b = some o := fun b o e => Heap.get?_push_of_some _ e
  dsimp only
  rw [← hQ]
  generalize h₅.push { cls := .type "list", data := .seq ([] : List Value).toArray } = h₆ at hq₆ k₆ ⊢
  refine wpAny_storeName_local rfl (hn₅.keeps k₆) (fun h₇ hn₇ hs₇ => ?_) rfl
  have hQL : Q ≠ s.heap.objs.size := by
    obtain ⟨o, _, _, ho, _⟩ := id hn₅
    exact Ne.symm (ne_of_live ho hQ₅)
  have o₇ : ∀ b o, b ≠ s.heap.objs.size → h₃.get? b = some o → h₇.get? b = some o := fun b o nb e => hs₇.extBut b o nb (k₆ b o (o₅ b o nb e))
  have hq₇ : h₇.PlainList Q #[] := hq₆.at fun o e => hs₇.extBut Q o hQL e
  have hQ3 : ∀ b o, b ≠ s.heap.objs.size → h₃.get? b = some o → b ≠ Q := fun b o nb e => ne_of_live (o₅ b o nb e) hQ₅
  have hDL : D ≠ s.heap.objs.size := by
    obtain ⟨o, _, _, ho, _⟩ := id hn₂
    exact Ne.symm (ne_of_live ho hD0)
  have hD₇ : h₇.IsList D vs.toArray := hD₃.at fun o e => o₇ D o hDL e
  have base₇ : ∀ b o, b ≠ 44 → s.heap.get? b = some o → h₇.get? b = some o := fun b o n4 e => o₇ b o (ne_new e 0) (hk₃ b o n4 (F2.keep b o e))
  have T7 : TopAt w mg mb h₇ := Tp.tab hP base₇
  have m7 : True := trivial
  refine wpAny_execs_cons (wpAny_For (Call_Name1 (name_builtin T7 rfl rfl rfl rfl rfl boot_reversed (by decide) (by decide) ?_) rfl))
  refine PySem.callWith_type rfl (Calls.evalArgs_plain (Calls.spliced_cons (wpAny_Name (wpAny_loadName_local rfl rfl hn₇ rfl (Calls.spliced_nil ?_)))))
  refine call_reversed_list hD₇ ?_
  obtain ⟨I, hI⟩ : ∃ I, I = h₇.objs.size := ⟨_, rfl⟩
  have hI₇ : h₇.get? I = none := fresh (Nat.le_of_eq hI.symm)
  have hlen : vs.length = K := by rw [hvs.length]; exact a8
  have hit₈ : (h₇.push (revObj D ((vs.toArray.size : Int) - 1))).IsRevIter I D ((K : Int) - 1) := ⟨_, by rw [hI]; exact Heap.get?_push_size _ rfl, rfl, by show Data.fields _ = _; rw [List.size_toArray, hlen]⟩
  have k₈ : ∀ b o, h₇.get? b = some o → (h₇.push (revObj D ((vs.toArray.size : Int) - 1))).get? b = some o := fun b o e => Heap.get?_push_of_some _ e
  dsimp only
  rw [← hI]
  generalize h₇.push (revObj D ((vs.toArray.size : Int) - 1)) = h₈ at hit₈ k₈ ⊢
  refine wpAny_pyIter_revIter hit₈ ?_
  have hn₈ := hn₇.keeps k₈
  obtain ⟨m₈, hm₈, fn, fb, fr, fq⟩ : ∃ m₈, h₈.Ns s.heap.objs.size m₈ ∧ (∃ t, m₈ (Str.ofString "n") = some (.int ((3 : Nat) : Int) t)) ∧ (∃ t, m₈ (Str.ofString "b") = some (.int 4 t)) ∧ (∃ t, m₈ (Str.ofString "r") = some (.int 0 t)) ∧ m₈ (Str.ofString "q_digits") = some (.ref Q) :=
    ⟨_, hn₈, ⟨_, rfl⟩, ⟨_, rfl⟩, ⟨_, rfl⟩, rfl⟩
  have o₈ : ∀ b o, b ≠ s.heap.objs.size → h₃.get? b = some o → h₈.get? b = some o := fun b o nb e => k₈ b o (o₇ b o nb e)
  have hI3 : ∀ b o, b ≠ s.heap.objs.size → h₃.get? b = some o → b ≠ I := fun b o nb e => ne_of_live (o₇ b o nb e) hI₇
  have hq₈ : h₈.PlainList Q #[] := hq₇.at fun o e => k₈ Q o e
  have hIL : I ≠ s.heap.objs.size := by
    obtain ⟨o, _, _, ho, _⟩ := id hn₇
    exact Ne.symm (ne_of_live ho hI₇)
  have hIQ : I ≠ Q := by
    obtain ⟨o, ho⟩ := hq₇
    exact Ne.symm (ne_of_live ho hI₇)
  obtain ⟨oD, hoD, hoD'⟩ := id hD₃
  have hDI : D ≠ I := hI3 D oD hDL hoD
  have hDQ : D ≠ Q := hQ3 D oD hDL hoD
  clear hn₈ hn₇ hs₇ k₈ k₆ hq₆ hq₇ o₇ hD₇ base₇ T7 m7 hI hI₇ hQ hQ₅ o₅ hn₅ hs₅ hn₄ hs₄ hn₃
  -- for a_digit in reversed(a_digits)
  refine codeAny_forLoop_any (fun k s' => ∃ h' tk m' j vq qs rr tr, s' = { s with heap := h', toks := tk } ∧ h'.IsRevIter I D ((j : Nat) - 1) ∧ h'.Ns s.heap.objs.size m' ∧ (∀ b o, b ≠ s.heap.objs.size → b ≠ I → b ≠ Q → h₃.get? b = some o → h'.get? b = some o) ∧
      (∃ t, m' (Str.ofString "n") = some (.int ((3 : Nat) : Int) t)) ∧ (∃ t, m' (Str.ofString "b") = some (.int 4 t)) ∧ m' (Str.ofString "r") = some (.int rr tr) ∧ m' (Str.ofString "q_digits") = some (.ref Q) ∧ h'.PlainList Q (vq : List Value).toArray ∧ IntsAre vq qs ∧ qs.length + j = K ∧ 0 ≤ rr ∧ rr < 4 ∧
      qf (dig 3 K K a).reverse 0 = (qs ++ (qf ((dig 3 K K a).take j).reverse rr).1, (qf ((dig 3 K K a).take j).reverse rr).2) ∧ j ≤ K ∧ k = j + 1) ?_ (K + 1)
    (by
      obtain ⟨tr, fr⟩ := fr
      exact ⟨h₈, _, m₈, K, [], [], 0, tr, rfl, hit₈, hm₈, fun b o nb _ _ e => o₈ b o nb e, fn, fb, fr, fq, hq₈, .nil, by simp, by decide, by decide, by rw [List.take_of_length_le (Nat.le_of_eq a8)]; rfl, Nat.le_refl _, rfl⟩)
  clear fn fb fr fq hm₈ hq₈ hit₈ o₈
  rintro k s' ⟨h', tk, m', j, vq, qs, rr, tr, rfl, hit', hn', hoff', ⟨tn, fn⟩, ⟨tb, fb⟩, fr, fq, hq', hvq, hjl, hr0, hr4, hqf, hj, rfl⟩
  have hD' : h'.IsList D vs.toArray := hD₃.at fun o e => hoff' D o hDL hDI hDQ e
  have base' : ∀ b o, b ≠ 44 → s.heap.get? b = some o → h'.get? b = some o := fun b o n4 e => by
    have e3 := hk₃ b o n4 (F2.keep b o e)
    exact hoff' b o (ne_new e 0) (hI3 b o (ne_new e 0) e3) (hQ3 b o (ne_new e 0) e3) e3
  have T' : TopAt w mg mb h' := Tp.tab hP base'
  cases j with
  | zero =>
    have hit0 : h'.IsRevIter I D (-1) := hit'
    refine wpAny_pyNext_rev_end r1.1 hit0 fun h₉ he₉ => wpAny_execs_nil ?_
    have hn₉ := hn'.at' fun o e => he₉ _ o (Ne.symm hIL) e
    have hq₉ : h₉.PlainList Q vq.toArray := hq'.at fun o e => he₉ Q o (Ne.symm hIQ) e
    have hqf' : qs = (qf (dig 3 K K a).reverse 0).1 := by rw [hqf]; simp [qf]
    obtain ⟨nQ, hoQ⟩ := id hq₉
    refine wpAny_execs_cons (wpAny_Expr (MethodCall_ (wpAny_Name (wpAny_loadName_local rfl rfl hn₉ fq (getMethod_list_of PySem.F.slot_list_reverse PySem.F.type_list_reverse hq₉.isList ⟨_, hoQ, rfl⟩ ?_)))))
    refine callWith_method0 (reverse_plain hq₉ (by rw [List.size_toArray, hvq.length, sizeLine_eq]; omega) fun h₁₀ hq₁₀ hs₁₀ => ?_)
    have hn₁₀ := hn₉.sameBut hs₁₀ (Ne.symm hQL)
    have k₁₀ : ∀ b o, b ≠ I → b ≠ Q → h'.get? b = some o → h₁₀.get? b = some o := fun b o n1 n2 e => hs₁₀.extBut b o n2 (he₉ b o n1 e)
    have base₁₀ : ∀ b o, b ≠ 44 → s.heap.get? b = some o → h₁₀.get? b = some o := fun b o n4 e => by
      have e3 := hk₃ b o n4 (F2.keep b o e)
      exact k₁₀ b o (hI3 b o (ne_new e 0) e3) (hQ3 b o (ne_new e 0) e3) (base' b o n4 e)
    have T₁₀ : TopAt w mg mb h₁₀ := Tp.tab hP base₁₀
    have off₁₀ : ∀ b o, b ≠ s.heap.objs.size → b ≠ I → b ≠ Q → h₃.get? b = some o → h₁₀.get? b = some o := fun b o n1 n2 n3 e => k₁₀ b o n2 n3 (hoff' b o n1 n2 n3 e)
    -- the tables, at the loop's end
    have tabEnd : ∀ {P : Addr} {q : Str} {pos : Pos} {o : Obj}, s.heap.get? P = some o → Tab P q pos h₃ → Tab P q pos h₁₀ := fun {P q pos o} hPo x => by
      obtain ⟨ps, g1, g2⟩ := x
      refine ⟨ps, off₁₀ _ _ (ne_new hPo 0) (hI3 _ _ (ne_new hPo 0) g1) (hQ3 _ _ (ne_new hPo 0) g1) g1, ?_⟩
      rcases g2 with g2 | ⟨c', g2, c₀, o, vs, t, e, g, hd, r⟩
      · exact .inl g2
      · have cL : c₀ ≠ s.heap.objs.size := fun z => ns_not_fields (hn₂.at' fun o e => hk₃ _ o hL44 e) o (z ▸ g) vs hd
        exact .inr ⟨c', g2, c₀, o, vs, t, e, off₁₀ _ _ cL (hI3 _ _ cL g) (hQ3 _ _ cL g) g, hd, r⟩
    have ht51 : Tab 51 q51 pos51 h₁₀ := tabEnd hP2 (tab_tab (tab_keeps ht2 F2.keep) (tab_keeps ht F2.keep) (by decide) fun b o nb e => hk₃ b o nb e)
    have ht44 : Tab 44 q44 pos44 h₁₀ := tabEnd hP ht₃
    have hrev : IntsAre vq.reverse qs.reverse := hvq.reverse
    have hlq : qs.reverse.length = K := by rw [List.length_reverse]; omega
    have hsmall : ∀ i, (qs.reverse.getD i 0).natAbs < 2 ^ 64 := fun i => by
      rw [List.getD_eq_getElem?_getD]
      cases e : qs.reverse[i]? with
      | none => decide
      | some q =>
        have hm : q ∈ qs := List.mem_reverse.mp (List.mem_of_getElem? e)
        rw [hqf'] at hm
        have b := qf_bound _ 0 (fun d hd => a7 d (List.mem_reverse.mp hd)) (by decide) (by decide) q hm
        show q.natAbs < 2 ^ 64
        omega
    have hq₁₀' : h₁₀.IsList Q vq.reverse.toArray := by simpa using hq₁₀.isList
    refine wpAny_execs_cons (wpAny_Assign_Name (Call_Name2 (name_top T₁₀ rfl rfl rfl rfl (by decide) ?_) rfl))
    refine callWith_top ⟨_, _, _, _, rfl⟩ (Calls.evalArgs_plain (Calls.spliced_cons (wpAny_Name (wpAny_loadName_local rfl rfl hn₁₀ fq (Calls.spliced_cons ?_)))))
    refine wpAny_Name (wpAny_loadName_local rfl rfl hn₁₀ fn (Calls.spliced_nil ⟨T₁₀.X, ?_⟩))
    refine wpAny_call (digits2int_code (n := 3) (ds := qs.reverse) (r1.down (by decide)) T₁₀ (hb.tab hP base₁₀) ht51 hq₁₀' hrev (by omega) (by omega) hsmall (by decide) ?_)
    intro h₁₁ tk₁₁ t₁₁ v₁₁ ev₁₁ hk₁₁ ht51'
    have hL51 : s.heap.objs.size ≠ 51 := Ne.symm (ne_new hP2 0)
    have hn₁₁ := hn₁₀.at' fun o e => hk₁₁ _ o hL51 e
    have ht44' : Tab 44 q44 pos44 h₁₁ := tab_tab ht44 ht51 (by decide) hk₁₁
    refine wpAny_storeName_local rfl hn₁₁ (fun h₁₂ hn₁₂ hs₁₂ => ?_) rfl
    have hLf := ns_not_fields hn₁₁
    have ht44₂ : Tab 44 q44 pos44 h₁₂ := tab_but ht44' (Ne.symm hL44) hLf fun b o nb e => hs₁₂.extBut b o nb e
    have ht51₂ : Tab 51 q51 pos51 h₁₂ := tab_but ht51' (Ne.symm hL51) hLf fun b o nb e => hs₁₂.extBut b o nb e
    refine wpAny_execs_cons (wpAny_Return_some (Tuple_ (Calls.spliced_cons (wpAny_Name (wpAny_loadName_local rfl rfl hn₁₂ (if_pos rfl) (Calls.spliced_cons ?_))))))
    refine wpAny_Name (wpAny_loadName_local rfl rfl hn₁₂ ((if_neg (by decide)).trans fr) (Calls.spliced_nil (wpAny_newTuple ?_)))
    have kk : ∀ (x : Obj) b o, h₁₂.get? b = some o → (h₁₂.push x).get? b = some o := fun x b o e => Heap.get?_push_of_some _ e
    refine hR _ _ _ rr (fun b o n4 n5 e => kk _ b o (hs₁₂.extBut b o (ne_new e 0) (hk₁₁ b o n5 (base₁₀ b o n4 e)))) (tab_keeps ht44₂ (kk _)) (tab_keeps ht51₂ (kk _)) ?_
    rw [← a9, ← hqf', ← hlq, ← ev₁₁]
    exact pairOf_of (Heap.get?_push_size _ rfl) rfl rfl
  | succ j =>
    have hjv : j < vs.length := by omega
    have e0 : (((j + 1 : Nat) : Int) - 1) = (j : Int) := by omega
    rw [e0] at hit'
    obtain ⟨d, td, ev, ed⟩ := hvs.at j vs[j] (List.getElem?_eq_getElem hjv)
    have hdm : 0 ≤ d ∧ d < 8 := a7 d (List.mem_of_getElem? ed)
    refine wpAny_pyNext_rev_item hit' hD' (x := .int d td) (by rw [List.getElem?_toArray, List.getElem?_eq_getElem hjv, ev]) fun h₉ hit₉ hs₉ => ?_
    have hn₉ := hn'.sameBut hs₉ (Ne.symm hIL)
    refine wpAny_pure (wpAny_assign_Name (wpAny_storeName_local rfl hn₉ (fun h₁₀ hn₁₀ hs₁₀ => ?_) rfl))
    have k₁₀ : ∀ b o, b ≠ s.heap.objs.size → b ≠ I → h'.get? b = some o → h₁₀.get? b = some o := fun b o n1 n2 e => hs₁₀.extBut b o n1 (hs₉.extBut b o n2 e)
    have hit₁₀ : h₁₀.IsRevIter I D ((j : Int) - 1) := hit₉.at fun o e => hs₁₀.extBut I o hIL e
    obtain ⟨m₁₀, hm₁₀, gn, gb, gr, gq, gd⟩ : ∃ m₁₀, h₁₀.Ns s.heap.objs.size m₁₀ ∧ m₁₀ (Str.ofString "n") = some (.int ((3 : Nat) : Int) tn) ∧ m₁₀ (Str.ofString "b") = some (.int 4 tb) ∧ m₁₀ (Str.ofString "r") = some (.int rr tr) ∧ m₁₀ (Str.ofString "q_digits") = some (.ref Q) ∧ (∃ t, m₁₀ (Str.ofString "a_digit") = some (.int d t)) :=
      ⟨_, hn₁₀, (if_neg (by decide)).trans fn, (if_neg (by decide)).trans fb, (if_neg (by decide)).trans fr, (if_neg (by decide)).trans fq, ⟨_, if_pos rfl⟩⟩
    obtain ⟨td', gd⟩ := gd
    have base₁₀ : ∀ b o, b ≠ 44 → s.heap.get? b = some o → h₁₀.get? b = some o := fun b o n4 e =>
      k₁₀ b o (ne_new e 0) (hI3 b o (ne_new e 0) (hk₃ b o n4 (F2.keep b o e))) (base' b o n4 e)
    have T₁₀ : TopAt w mg mb h₁₀ := Tp.tab hP base₁₀
    refine wpAny_execs_cons (Assign_Tuple (Call_Name3 (name_top T₁₀ rfl rfl rfl rfl (by decide) ?_) rfl))
    refine callWith_top ⟨_, _, _, _, rfl⟩ (Calls.evalArgs_plain (Calls.spliced_cons ?_))
    refine wpAny_BinOp (wpAny_BinOp (wpAny_Name (wpAny_loadName_local rfl rfl hm₁₀ gr ?_)))
    refine wpAny_Name (wpAny_loadName_local rfl rfl hm₁₀ gn (lshift_nat (by omega) (by omega) ?_))
    refine wpAny_Name (wpAny_loadName_local rfl rfl hm₁₀ gd (add_int (Calls.spliced_cons ?_)))
    refine wpAny_Name (wpAny_loadName_local rfl rfl hm₁₀ gb (Calls.spliced_cons ?_))
    refine wpAny_Name (wpAny_loadName_local rfl rfl hm₁₀ gn (Calls.spliced_nil ⟨T₁₀.X, ?_⟩))
    refine wpAny_call (div2n1n_code (r1.down (by decide)) T₁₀ (by omega) (by decide) (by decide) (by decide) fun T h₁₁ tk₁₁ hk₁₁ hT => ?_)
    have hm₁₁ := hm₁₀.keeps hk₁₁
    refine assign_pair r1.1 rfl rfl rfl hm₁₁ hT fun h₁₂ tk₁₂ t1 t2 hn₁₂ hk₁₂ => ?_
    obtain ⟨m₁₂, hm₁₂, gn, gb, gr, gq, gd⟩ : ∃ m₁₂, h₁₂.Ns s.heap.objs.size m₁₂ ∧ m₁₂ (Str.ofString "n") = some (.int ((3 : Nat) : Int) tn) ∧ m₁₂ (Str.ofString "b") = some (.int 4 tb) ∧ m₁₂ (Str.ofString "r") = some (.int ((rr * 2 ^ 3 + d).fmod 4) t2) ∧ m₁₂ (Str.ofString "q_digits") = some (.ref Q) ∧ m₁₂ (Str.ofString "q_digit") = some (.int ((rr * 2 ^ 3 + d).fdiv 4) t1) :=
      ⟨_, hn₁₂, (if_neg (by decide)).trans ((if_neg (by decide)).trans gn), (if_neg (by decide)).trans ((if_neg (by decide)).trans gb), if_pos rfl, (if_neg (by decide)).trans ((if_neg (by decide)).trans gq), (if_neg (by decide)).trans (if_pos rfl)⟩
    have k₁₂ : ∀ b o, b ≠ s.heap.objs.size → b ≠ I → h'.get? b = some o → h₁₂.get? b = some o := fun b o n1 n2 e => hk₁₂ b o n1 (hk₁₁ b o (k₁₀ b o n1 n2 e))
    have hq₁₂ : h₁₂.PlainList Q vq.toArray := hq'.at fun o e => k₁₂ Q o hQL (Ne.symm hIQ) e
    have hit₁₂ : h₁₂.IsRevIter I D ((j : Int) - 1) := hit₁₀.at fun o e => hk₁₂ I o hIL (hk₁₁ I o e)
    clear hn₁₂ hn₁₀ hm₁₀ hm₁₁ hT hk₁₂ hk₁₁ k₁₀ hs₁₀ hs₉ hit₉ hit₁₀ hn₉
    obtain ⟨nQ, hoQ⟩ := id hq₁₂
    refine wpAny_execs_cons (wpAny_Expr (MethodCall_ (wpAny_Name (wpAny_loadName_local rfl rfl hm₁₂ gq (Calls.getMethod_list_append hoQ rfl rfl ?_)))))
    refine callWith_method1 (args_cons (wpAny_Name (wpAny_loadName_local rfl rfl hm₁₂ gd (args_nil ?_))))
    refine wpAny_list_append_plain hq₁₂ (fun h₁₃ hq₁₃ hs₁₃ => ?_) (by rw [List.size_toArray, hvq.length, sizeLine_eq]; omega)
    have hqf2 : (dig 3 K K a).take (j + 1) = (dig 3 K K a).take j ++ [d] := by rw [List.take_add_one, ed]; rfl
    rw [hqf2, List.reverse_append, List.reverse_singleton, List.singleton_append] at hqf
    refine wpAny_execs_nil ⟨j + 1, by omega, h₁₃, _, m₁₂, j, vq ++ [.int ((rr * 2 ^ 3 + d).fdiv 4) t1], qs ++ [(rr * 2 ^ 3 + d).fdiv 4], (rr * 2 ^ 3 + d).fmod 4, t2, rfl, hit₁₂.at fun o e => hs₁₃.extBut I o hIQ e, hm₁₂.sameBut hs₁₃ (Ne.symm hQL), ?_, ⟨tn, gn⟩, ⟨tb, gb⟩, gr, gq, ?_, hvq.append (.cons _ _ .nil), ?_, ?_, ?_, ?_, by omega, rfl⟩
    · exact fun b o n1 n2 n3 e => hs₁₃.extBut b o n3 (k₁₂ b o n1 n2 (hoff' b o n1 n2 n3 e))
    · simpa using hq₁₃
    · rw [List.length_append, List.length_singleton]; omega
    · rw [Int.fmod_eq_emod_of_nonneg _ (by decide)]; exact Int.emod_nonneg _ (by decide)
    · rw [Int.fmod_eq_emod_of_nonneg _ (by decide)]; exact Int.emod_lt_of_pos _ (by decide)
    · rw [hqf, qf, List.append_assoc]; rfl
end
end Mine

namespace Mine
section
variable {w : World} {A : Around} {s : Shared} {mg mb : Str → Option Value} {E : Value → Shared → Prop}

theorem int_divmod_code {a : Int} {K : Nat} {t u : Tok} {R : Result → Shared → Prop} (r : Room A 26) (Tp : TopAt w mg mb s.heap) (hb : BM mg s.heap) (ht : Tab 44 q44 pos44 s.heap) (ht2 : Tab 51 q51 pos51 s.heap) (hD : DivOK a K)
    (hR : ∀ T h' tk z, (∀ b o, b ≠ 44 → b ≠ 51 → s.heap.get? b = some o → h'.get? b = some o) → Tab 44 q44 pos44 h' → Tab 51 q51 pos51 h' → pairOf h' (.ref T) = some (a.fdiv 4, z) → R (.ok (.ret (.ref T))) { s with heap := h', toks := tk }) :
    codeAny (model Pr w) A (.call (.ref 70) ⟨[.int a t, .int 4 u], []⟩) R s := by
  refine codeAny_call_def (fd := fnOf _ _ _ _ _ _ _ _ _ _ _ _) (o := _) r.depth (Tp.X 70 _ rfl) rfl Tp.nolimit (codeRec_of Tp.X rfl) rfl (binds := [(Str.ofString "a", .int a t), (Str.ofString "b", .int 4 u)]) (BindsTo.of_eq rfl) (by decide) (by intro x hx; simp at hx; rcases hx with rfl | rfl <;> rfl) ?_
  intro h₁ hns hk₁
  have T1 := Tp.keeps hk₁
  have a2 := hD.2.1
  refine wpAny_execs_cons (wpAny_If (wpAny_isTrue_Compare1 (wpAny_Name (wpAny_loadName_local rfl rfl hns rfl (wpAny_Constant_int (eq_int (wpAny_truthy_bool ?_)))))))
  rw [show ((4 : Int) == 0) = false from rfl]
  simp only [Bool.false_eq_true, if_false]
  refine wpAny_execs_cons (wpAny_If (wpAny_isTrue_Compare1 (wpAny_Name (wpAny_loadName_local rfl rfl hns rfl (wpAny_Constant_int (wpAny_lt_int (wpAny_truthy_bool ?_)))))))
  rw [show decide ((4 : Int) < 0) = false from rfl]
  simp only [Bool.false_eq_true, if_false]
  refine wpAny_execs_cons (wpAny_If (wpAny_isTrue_Compare1 (wpAny_Name (wpAny_loadName_local rfl rfl hns rfl (wpAny_Constant_int (wpAny_lt_int (wpAny_truthy_bool ?_)))))))
  rw [show decide (a < 0) = false from decide_eq_false (by omega)]
  simp only [Bool.false_eq_true, if_false]
  refine wpAny_execs_cons (wpAny_Return_some (Call_Name2 (name_top T1 rfl rfl rfl rfl (by decide) ?_) rfl))
  refine callWith_top ⟨_, _, _, _, rfl⟩ (Calls.evalArgs_plain (Calls.spliced_cons (wpAny_Name (wpAny_loadName_local rfl rfl hns rfl (Calls.spliced_cons ?_)))))
  refine wpAny_Name (wpAny_loadName_local rfl rfl hns rfl (Calls.spliced_nil ⟨T1.X, ?_⟩))
  refine wpAny_call (divmod_pos_code (r.deeper _) T1 (hb.keeps hk₁) (tab_keeps ht hk₁) (tab_keeps ht2 hk₁) hD fun T h' tk z k t4 t5 hp => ?_)
  exact hR T h' _ z (fun b o n4 n5 e => k b o n4 n5 (hk₁ b o e)) t4 t5 hp

theorem divOK_all : DivOK 4 1 ∧ DivOK 9 2 ∧ DivOK 16 2 ∧ DivOK 25 2 ∧ DivOK 36 2 := by
  unfold DivOK
  decide +kernel
end
end Mine

namespace Mine

/-- the places that the law's own body writes to: its frame, its five cells and the two tables -/
def XS (L : Addr) : List Addr := [L, L + 1, L + 2, L + 3, L + 4, L + 5, 44, 51]

/-- the law's own state -/
structure LS (w : World) (mg mb : Str → Option Value) (G : Heap) (L : Addr) (h : Heap) (m : Str → Option Value) (c1 c2 c3 c4 c5 : Option Value) : Prop where
  top : TopAt w mg mb h
  bm : BM mg h
  keep : ∀ b o, G.get? b = some o → h.get? b = some o
  ns : h.Ns L m
  c1 : h.IsCell (L + 1) c1
  c2 : h.IsCell (L + 2) c2
  c3 : h.IsCell (L + 3) c3
  c4 : h.IsCell (L + 4) c4
  c5 : h.IsCell (L + 5) c5
  t44 : Tab 44 q44 pos44 h
  t51 : Tab 51 q51 pos51 h
  hL : 51 < L

def NoSeq (X : List Addr) (h : Heap) : Prop := ∀ b ∈ X, ∀ o, h.get? b = some o → ∀ it n, o.data ≠ .seq it n

section
variable {w : World} {mg mb : Str → Option Value} {G h h' : Heap} {L : Addr} {m m' : Str → Option Value} {c1 c2 c3 c4 c5 c' : Option Value}

theorem LS.ext (S : LS w mg mb G L h m c1 c2 c3 c4 c5) (k : ∀ b o, h.get? b = some o → h'.get? b = some o) : LS w mg mb G L h' m c1 c2 c3 c4 c5 :=
  ⟨S.top.keeps k, S.bm.keeps k, fun b o e => k b o (S.keep b o e), S.ns.keeps k, S.c1.keeps k, S.c2.keeps k, S.c3.keeps k, S.c4.keeps k, S.c5.keeps k, tab_keeps S.t44 k, tab_keeps S.t51 k, S.hL⟩
theorem cell_noseq {a : Addr} {v : Option Value} (x : h.IsCell a v) : ∀ o, h.get? a = some o → ∀ it n, o.data ≠ .seq it n := fun o e it n hd => by
  obtain ⟨o', ho', hd'⟩ := x; rw [ho'] at e; cases e; rw [hd'] at hd; cases hd
theorem cell_nofields {a : Addr} {v : Option Value} (x : h.IsCell a v) : ∀ o, h.get? a = some o → ∀ vs, o.data ≠ .fields vs := fun o e vs hd => by
  obtain ⟨o', ho', hd'⟩ := x; rw [ho'] at e; cases e; rw [hd'] at hd; cases hd
theorem tab_noseq {P : Addr} {q : Str} {pos : Pos} (x : Tab P q pos h) : ∀ o, h.get? P = some o → ∀ it n, o.data ≠ .seq it n := fun o e it n hd => by
  obtain ⟨ps, g, _⟩ := x; rw [g] at e; cases e; cases hd
theorem LS.noSeq (S : LS w mg mb G L h m c1 c2 c3 c4 c5) : NoSeq (XS L) h := fun b hb => by
  simp only [XS, List.mem_cons, List.not_mem_nil, or_false] at hb
  rcases hb with rfl | rfl | rfl | rfl | rfl | rfl | rfl | rfl
  · intro o e it n hd
    obtain ⟨o', es, ep, ho', hd', _⟩ := S.ns
    rw [ho'] at e; cases e; rw [hd'] at hd; cases hd
  · exact cell_noseq S.c1
  · exact cell_noseq S.c2
  · exact cell_noseq S.c3
  · exact cell_noseq S.c4
  · exact cell_noseq S.c5
  · exact tab_noseq S.t44
  · exact tab_noseq S.t51

theorem list_offX {X : List Addr} {l : Addr} {vs : Array Value} (N : NoSeq X h) (o : Off X h h') (x : h.IsList l vs) : h'.IsList l vs := by
  obtain ⟨ob, ho, hc, n, hd⟩ := x
  exact ⟨ob, o _ _ (fun q => N _ q _ ho _ _ hd) ho, hc, n, hd⟩
theorem pair_offX {X : List Addr} {v : Value} {p : Int × Int} (N : NoSeq X h) (o : Off X h h') (x : pairOf h v = some p) : pairOf h' v = some p := by
  obtain ⟨a, ob, n, t, u, rfl, ho, hc, hd⟩ := pairOf_some x
  exact pairOf_of (o _ _ (fun q => N _ q _ ho _ _ hd) ho) hc hd
theorem pairVals_offX {X : List Addr} {vs : List Value} {T : List (Int × Int)} (N : NoSeq X h) (o : Off X h h') (x : PairVals h vs T) : PairVals h' vs T := by
  unfold PairVals at x ⊢
  rw [← x]
  refine List.map_congr_left fun v hv => ?_
  obtain ⟨i, hi⟩ := List.mem_iff_getElem?.mp hv
  obtain ⟨p, _, hp⟩ := PairVals.get x hi
  rw [hp, pair_offX N o hp]
theorem pairs_offX {X : List Addr} {l : Addr} {T : List (Int × Int)} (N : NoSeq X h) (o : Off X h h') (x : PairsL h l T) : PairsL h' l T := by
  obtain ⟨vs, hl, hv⟩ := x
  exact ⟨vs, list_offX N o hl, pairVals_offX N o hv⟩

/-- G holds nothing at the places that the body writes to -/
def Clear (G : Heap) (L : Addr) : Prop := ∀ b ∈ XS L, G.get? b = none

theorem base_but {a : Addr} (C : Clear G L) (ha : a ∈ XS L) (S : ∀ b o, G.get? b = some o → h.get? b = some o) (k : ∀ b o, b ≠ a → h.get? b = some o → h'.get? b = some o) : ∀ b o, G.get? b = some o → h'.get? b = some o :=
  fun b o e => k b o (fun q => by rw [q, C a ha] at e; cases e) (S b o e)
theorem offX_of {a : Addr} (ha : a ∈ XS L) (k : ∀ b o, b ≠ a → h.get? b = some o → h'.get? b = some o) : Off (XS L) h h' := fun b o hb e => k b o (fun q => hb (q ▸ ha)) e
theorem offX_ext {X : List Addr} (k : ∀ b o, h.get? b = some o → h'.get? b = some o) : Off X h h' := fun b o _ e => k b o e

theorem cell_but {a b : Addr} {v : Option Value} (x : h.IsCell b v) (hne : b ≠ a) (k : ∀ b o, b ≠ a → h.get? b = some o → h'.get? b = some o) : h'.IsCell b v := by
  obtain ⟨o, ho, hd⟩ := x; exact ⟨o, k _ _ hne ho, hd⟩
theorem adj {L : Nat} {j k : Nat} (h : j ≠ k) : L + j ≠ L + k := fun q => h (Nat.add_left_cancel q)
theorem gt44 {L : Nat} (h : 51 < L) (j : Nat) : (44 : Nat) ≠ L + j := by omega
theorem gt51 {L : Nat} (h : 51 < L) (j : Nat) : (51 : Nat) ≠ L + j := by omega

variable {Gt : TopAt w mg mb G} {Gb : BM mg G}

/-- a store into the frame -/
theorem LS.setL (S : LS w mg mb G L h m c1 c2 c3 c4 c5) (Gt : TopAt w mg mb G) (Gb : BM mg G) (C : Clear G L) (hn : h'.Ns L m') (hs : Heap.SameBut L h h') : LS w mg mb G L h' m' c1 c2 c3 c4 c5 := by
  have k : ∀ b o, b ≠ L → h.get? b = some o → h'.get? b = some o := fun b o nb e => hs.extBut b o nb e
  have base := base_but C (a := L) (by simp [XS]) S.keep k
  exact ⟨Gt.keeps base, Gb.keeps base, base, hn, cell_but S.c1 (adj (j := 1) (k := 0) (by decide)) k, cell_but S.c2 (adj (j := 2) (k := 0) (by decide)) k, cell_but S.c3 (adj (j := 3) (k := 0) (by decide)) k, cell_but S.c4 (adj (j := 4) (k := 0) (by decide)) k, cell_but S.c5 (adj (j := 5) (k := 0) (by decide)) k,
    tab_but S.t44 (gt44 S.hL 0) (ns_not_fields S.ns) k, tab_but S.t51 (gt51 S.hL 0) (ns_not_fields S.ns) k, S.hL⟩
theorem offL (hs : Heap.SameBut L h h') : Off (XS L) h h' := offX_of (a := L) (by simp [XS]) fun b o nb e => hs.extBut b o nb e

theorem LS.set1 (S : LS w mg mb G L h m c1 c2 c3 c4 c5) (Gt : TopAt w mg mb G) (Gb : BM mg G) (C : Clear G L) (hc : h'.IsCell (L + 1) c') (hs : Heap.SameBut (L + 1) h h') : LS w mg mb G L h' m c' c2 c3 c4 c5 := by
  have k : ∀ b o, b ≠ L + 1 → h.get? b = some o → h'.get? b = some o := fun b o nb e => hs.extBut b o nb e
  have base := base_but C (a := L + 1) (by simp [XS]) S.keep k
  exact ⟨Gt.keeps base, Gb.keeps base, base, S.ns.at' fun o e => k L o (adj (j := 0) (k := 1) (by decide)) e, hc, cell_but S.c2 (adj (by decide)) k, cell_but S.c3 (adj (by decide)) k, cell_but S.c4 (adj (by decide)) k, cell_but S.c5 (adj (by decide)) k,
    tab_but S.t44 (gt44 S.hL 1) (cell_nofields S.c1) k, tab_but S.t51 (gt51 S.hL 1) (cell_nofields S.c1) k, S.hL⟩
theorem LS.set2 (S : LS w mg mb G L h m c1 c2 c3 c4 c5) (Gt : TopAt w mg mb G) (Gb : BM mg G) (C : Clear G L) (hc : h'.IsCell (L + 2) c') (hs : Heap.SameBut (L + 2) h h') : LS w mg mb G L h' m c1 c' c3 c4 c5 := by
  have k : ∀ b o, b ≠ L + 2 → h.get? b = some o → h'.get? b = some o := fun b o nb e => hs.extBut b o nb e
  have base := base_but C (a := L + 2) (by simp [XS]) S.keep k
  exact ⟨Gt.keeps base, Gb.keeps base, base, S.ns.at' fun o e => k L o (adj (j := 0) (k := 2) (by decide)) e, cell_but S.c1 (adj (by decide)) k, hc, cell_but S.c3 (adj (by decide)) k, cell_but S.c4 (adj (by decide)) k, cell_but S.c5 (adj (by decide)) k,
    tab_but S.t44 (gt44 S.hL 2) (cell_nofields S.c2) k, tab_but S.t51 (gt51 S.hL 2) (cell_nofields S.c2) k, S.hL⟩
theorem LS.set3 (S : LS w mg mb G L h m c1 c2 c3 c4 c5) (Gt : TopAt w mg mb G) (Gb : BM mg G) (C : Clear G L) (hc : h'.IsCell (L + 3) c') (hs : Heap.SameBut (L + 3) h h') : LS w mg mb G L h' m c1 c2 c' c4 c5 := by
  have k : ∀ b o, b ≠ L + 3 → h.get? b = some o → h'.get? b = some o := fun b o nb e => hs.extBut b o nb e
  have base := base_but C (a := L + 3) (by simp [XS]) S.keep k
  exact ⟨Gt.keeps base, Gb.keeps base, base, S.ns.at' fun o e => k L o (adj (j := 0) (k := 3) (by decide)) e, cell_but S.c1 (adj (by decide)) k, cell_but S.c2 (adj (by decide)) k, hc, cell_but S.c4 (adj (by decide)) k, cell_but S.c5 (adj (by decide)) k,
    tab_but S.t44 (gt44 S.hL 3) (cell_nofields S.c3) k, tab_but S.t51 (gt51 S.hL 3) (cell_nofields S.c3) k, S.hL⟩
theorem LS.set4 (S : LS w mg mb G L h m c1 c2 c3 c4 c5) (Gt : TopAt w mg mb G) (Gb : BM mg G) (C : Clear G L) (hc : h'.IsCell (L + 4) c') (hs : Heap.SameBut (L + 4) h h') : LS w mg mb G L h' m c1 c2 c3 c' c5 := by
  have k : ∀ b o, b ≠ L + 4 → h.get? b = some o → h'.get? b = some o := fun b o nb e => hs.extBut b o nb e
  have base := base_but C (a := L + 4) (by simp [XS]) S.keep k
  exact ⟨Gt.keeps base, Gb.keeps base, base, S.ns.at' fun o e => k L o (adj (j := 0) (k := 4) (by decide)) e, cell_but S.c1 (adj (by decide)) k, cell_but S.c2 (adj (by decide)) k, cell_but S.c3 (adj (by decide)) k, hc, cell_but S.c5 (adj (by decide)) k,
    tab_but S.t44 (gt44 S.hL 4) (cell_nofields S.c4) k, tab_but S.t51 (gt51 S.hL 4) (cell_nofields S.c4) k, S.hL⟩
theorem LS.set5 (S : LS w mg mb G L h m c1 c2 c3 c4 c5) (Gt : TopAt w mg mb G) (Gb : BM mg G) (C : Clear G L) (hc : h'.IsCell (L + 5) c') (hs : Heap.SameBut (L + 5) h h') : LS w mg mb G L h' m c1 c2 c3 c4 c' := by
  have k : ∀ b o, b ≠ L + 5 → h.get? b = some o → h'.get? b = some o := fun b o nb e => hs.extBut b o nb e
  have base := base_but C (a := L + 5) (by simp [XS]) S.keep k
  exact ⟨Gt.keeps base, Gb.keeps base, base, S.ns.at' fun o e => k L o (adj (j := 0) (k := 5) (by decide)) e, cell_but S.c1 (adj (by decide)) k, cell_but S.c2 (adj (by decide)) k, cell_but S.c3 (adj (by decide)) k, cell_but S.c4 (adj (by decide)) k, hc,
    tab_but S.t44 (gt44 S.hL 5) (cell_nofields S.c5) k, tab_but S.t51 (gt51 S.hL 5) (cell_nofields S.c5) k, S.hL⟩
theorem offC {j : Nat} (hj : L + j ∈ XS L) (hs : Heap.SameBut (L + j) h h') : Off (XS L) h h' := offX_of hj fun b o nb e => hs.extBut b o nb e

/-- a call that may write to the tables -/
theorem LS.tabs (S : LS w mg mb G L h m c1 c2 c3 c4 c5) (Gt : TopAt w mg mb G) (Gb : BM mg G) (C : Clear G L) (h4 : Tab 44 q44 pos44 h') (h5 : Tab 51 q51 pos51 h') (k : ∀ b o, b ≠ 44 → b ≠ 51 → h.get? b = some o → h'.get? b = some o) : LS w mg mb G L h' m c1 c2 c3 c4 c5 := by
  have base : ∀ b o, G.get? b = some o → h'.get? b = some o := fun b o e =>
    k b o (fun q => by rw [q, C 44 (by simp [XS])] at e; cases e) (fun q => by rw [q, C 51 (by simp [XS])] at e; cases e) (S.keep b o e)
  have cc : ∀ {j : Nat} {v : Option Value}, h.IsCell (L + j) v → h'.IsCell (L + j) v := fun {j v} x => by
    obtain ⟨o, ho, hd⟩ := x; exact ⟨o, k _ _ (Ne.symm (gt44 S.hL j)) (Ne.symm (gt51 S.hL j)) ho, hd⟩
  exact ⟨Gt.keeps base, Gb.keeps base, base, S.ns.at' fun o e => k L o (Ne.symm (gt44 S.hL 0)) (Ne.symm (gt51 S.hL 0)) e, cc S.c1, cc S.c2, cc S.c3, cc S.c4, cc S.c5, h4, h5, S.hL⟩
theorem offT (k : ∀ b o, b ≠ 44 → b ≠ 51 → h.get? b = some o → h'.get? b = some o) : Off (XS L) h h' := fun b o hb e =>
  k b o (fun q => hb (by rw [q]; simp [XS])) (fun q => hb (by rw [q]; simp [XS])) e
end

section
variable {prog : Program} {w : World} {A : Around} {E : Value → Shared → Prop} {s : Shared}

theorem sum_ints {l : Addr} {vs : List Value} {ns : List Int} {Q : Value → Shared → Prop} (hh : A.handled = none) (hl : s.heap.IsList l vs.toArray) (hi : IntsAre vs ns)
    (h : ∀ h' tk t, (∀ b o, s.heap.get? b = some o → h'.get? b = some o) → Q (.int ns.sum t) { s with heap := h', toks := tk }) :
    wpAny (model prog w) A (call (.builtin "sum") [.ref l]) Q E s := by
  have hn : numsOf vs = ns := hi.numsOf
  obtain ⟨xs, hx⟩ := hi.allInts.items
  rw [hx] at hl
  refine sum_intListG hh hl fun h' tk t' hk => ?_
  have e2 := nums_intItems xs
  rw [← hx] at e2
  have e3 : numsOf vs.toArray.toList = numsOf vs := rfl
  rw [preSum_eq, List.take_of_length_le (by simp)]
  have := h h' tk t' hk
  rw [← hn, ← e3, e2] at this
  exact this

theorem add_lists {l b : Addr} {xs ys : List Value} {Q : Value → Shared → Prop} (hl : s.heap.IsList l xs.toArray) (hb : s.heap.IsList b ys.toArray) (hsz : xs.length + ys.length ≤ sizeLine)
    (h : Q (.ref s.heap.objs.size) { s with heap := s.heap.push { cls := .type "list", data := .seq (xs ++ ys).toArray } }) : wpAny (model prog w) A (binaryOp .Add (.ref l) (.ref b)) Q E s := by
  obtain ⟨⟨cls, dd, data, sl⟩, ho, hc, n, hd⟩ := id hl
  obtain ⟨⟨cls2, dd2, data2, sl2⟩, ho2, hc2, n2, hd2⟩ := id hb
  simp only at hc hd hc2 hd2
  subst hc hd hc2 hd2
  have e : xs.toArray ++ ys.toArray = (xs ++ ys).toArray := by simp
  refine concat_meets ⟨_, ho, rfl⟩ ⟨_, ho2, rfl⟩ noFill_list_add seq_list_add F.slot_list_add F.entry_list_add (F.args_list_add_2 _ _) (list_addW l b xs.toArray ys.toArray n n2 dd dd2 sl sl2 (by simpa using hsz)) ⟨ho, ho2, ?_⟩
  rw [e]; exact h

theorem eq_nil {l b : Addr} {ys : List Value} {Q : Value → Shared → Prop} (hl : s.heap.IsList l ys.toArray) (hb : s.heap.IsList b ([] : List Value).toArray) (hu : A.units + 64 < cLine) (h : Q (.bool ys.isEmpty) s) :
    wpAny (model prog w) A (compareOp .Eq (.ref l) (.ref b)) Q E s := by
  cases ys with
  | nil => exact ke_eq_ints hl hb .nil .nil hu h
  | cons y ys => exact eq_list_lengthsAt hl hb (by simp) (by omega) h
theorem ne_nil {l b : Addr} {Q : Value → Shared → Prop} (hl : s.heap.IsList l ([] : List Value).toArray) (hb : s.heap.IsList b ([] : List Value).toArray) (hu : A.units + 64 < cLine) (h : Q (.bool false) s) :
    wpAny (model prog w) A (compareOp .NotEq (.ref l) (.ref b)) Q E s := ke_ne_ints hl hb .nil .nil hu h

/-- `v[0]` and `v[1]`, v a tuple of two ints -/
theorem item_pair {value slice : PySem.Expr} {v : Value} {p : Int × Int} {k : Nat} {u : Tok} {Q : Value → Shared → Prop} (hv : pairOf s.heap v = some p) (hk : k ≤ 1) (h : ∀ t, Q (.int (if k = 0 then p.1 else p.2) t) s)
    (hs : ∀ a, subscripted slice false (.ref a) (.int (k : Nat) u) = operate [.ref a, .int (k : Nat) u] (getItem (.ref a) (.int (k : Nat) u))) (hg : ∀ a r, letTemporaryGo value (.ref a) r = pure ()) :
    wpAny (model prog w) A (subscriptTail value slice v (.int (k : Nat) u)) Q E s := by
  obtain ⟨a, o, n, t, u', rfl, ho, hc, hd⟩ := pairOf_some hv
  have ht : IsTup s.heap a [Value.int p.1 t, .int p.2 u'].toArray := ⟨o, ho, hc, n, hd⟩
  rcases Nat.le_one_iff_eq_zero_or_eq_one.mp hk with rfl | rfl
  · exact item_tupleL (j := 0) ht (by decide) (by decide) rfl rfl (h t) (hs a) (hg a)
  · exact item_tupleL (j := 1) ht (by decide) (by decide) rfl rfl (h u') (hs a) (hg a)
end
end Mine

namespace Mine

section
variable {prog : Program} {w : World} {A : Around} {E : Value → Shared → Prop} {s : Shared}

theorem newEnv1 {scope : Scope} {globals : Addr} {cl : List (Str × Addr)} {y : Str} {qual : Str} {outer : Env} {Q : Env → Shared → Prop} (hpush : ∀ h, pushCells h scope.names = h.push { cls := .type "cell", data := .cell none }) (hcells : ∀ n, cellsFrom n scope.names cl = (y, n) :: cl)
    (h : Q (newEnv scope s.heap.objs.size globals ((y, s.heap.objs.size + 1) :: cl) qual none .none (some outer) builtinsNs) { s with heap := (s.heap.push { cls := .type "dict", data := .dict #[] }).push { cls := .type "cell", data := .cell none } }) :
    wpAny (model prog w) A (newFunctionEnv scope globals cl [] qual none .none (some outer)) Q E s := by
  simp only [newFunctionEnv, Option.isSome_some, if_true]
  refine wpAny_bind (wpAny_alloc ?_)
  refine wpAny_bind (wpAny_layCells _ (fun name kind cells => by cases hkc : kind == NameKind.cell <;> simp [hkc]) _ _ _ _ ?_)
  rw [hpush, hcells]
  refine wpAny_bind (wpAny_pure (wpAny_pure ?_))
  rw [show ({ s with heap := s.heap.push { cls := .type "dict", data := .dict #[] } } : Shared).heap.objs.size = s.heap.objs.size + 1 from Heap.size_push ..]
  exact h

/-- `[elt for y in range(n)]`, y a cell of the comprehension's own -/
theorem comp_range_cell {elt iter : PySem.Expr} {scope : Scope} {pos py : Pos} {y : Str} {cl : List (Str × Addr)} {env : Env} {Q : Value → Shared → Prop}
    (hclos : closureFor scope env = pure cl) (hpush : ∀ h, pushCells h scope.names = h.push { cls := .type "cell", data := .cell none }) (hcells : ∀ n, cellsFrom n scope.names cl = (y, n) :: cl) (hkind : scope.kind = .function)
    (hnames : ∀ y ∈ scope.names, y.2 = .local → scope.names.lookup y.1 = some .local) (hs : ∀ x, foldedSetIterable iter env x = pure x) (hyk : (relabel scope env).names.lookup y = some .cell) (hA : A.handled = none)
    (h : wpAny (model prog w) A (eval iter env) (fun xv s₁ => wpAny (model prog w) A (pyIter xv) (fun it s₂ => ∃ (n : Nat) (I : Addr) (Φ : Nat → List Value → Prop), it = .ref I ∧ IsRangeIter s₂.heap I 0 n 1 ∧ n ≤ sizeLine ∧ Φ 0 [] ∧
      (∀ C i ys t s₁ E, i < n → Φ i ys → s₁.heap.IsCell (C + 1) (some (.int (i : Nat) t)) → s₁.heap.Ns C (fun _ => none) → (∀ b o, b ≠ I → s₂.heap.get? b = some o → s₁.heap.get? b = some o) → wpAny (model prog w) A (eval elt (compEnvC scope ((y, C + 1) :: cl) C env)) (fun v s₄ => Keeps s₁ s₄ ∧ Φ (i + 1) (ys ++ [v])) E s₁) ∧
      (∀ D h' tk ys, Φ n ys → h'.PlainList D ys.toArray → (∀ b o, b ≠ I → s₂.heap.get? b = some o → h'.get? b = some o) → Q (.ref D) { s₂ with heap := h', toks := tk })) E s₁) E s) :
    wpAny (model prog w) A (eval (.ListComp elt [⟨.Name y py, iter, [], 0⟩] scope pos) env) Q E s := by
  rw [eval_ListComp]
  refine wpAny_comprehension_free (use := none) rfl hs hclos hkind hnames (wpAny_mono h (fun xv s₁ h₁ => wpAny_mono h₁ (fun it s₂ h₂ => ?_) fun _ _ e => e) fun _ _ e => e)
  obtain ⟨n, I, Φ, rfl, hit, hn, h0, turn, done⟩ := h₂
  refine wpAny_newObj_type (newEnv1 hpush hcells ?_)
  dsimp only
  obtain ⟨H, hH⟩ : ∃ H, H = s₂.heap.push { cls := .type "list", dict := none, data := .seq ([] : List Value).toArray } := ⟨_, rfl⟩
  rw [← hH]
  have hD : H.get? s₂.heap.objs.size = some { cls := .type "list", dict := none, data := .seq ([] : List Value).toArray } := hH ▸ Heap.get?_push_size _ rfl
  have hHs : H.objs.size = s₂.heap.objs.size + 1 := by rw [hH, Heap.size_push]
  have kH : ∀ b o, s₂.heap.get? b = some o → H.get? b = some o := fun b o e => hH ▸ Heap.get?_push_of_some _ e
  obtain ⟨D, hDe⟩ : ∃ D, D = s₂.heap.objs.size := ⟨_, rfl⟩
  obtain ⟨C, hCe⟩ : ∃ C, C = H.objs.size := ⟨_, rfl⟩
  rw [← hDe] at hD hHs ⊢
  rw [← hCe]
  have hC1 := Heap.get?_push_size H (o := { cls := .type "dict", data := .dict #[] }) rfl
  have nsC : (H.push { cls := .type "dict", data := .dict #[] }).Ns C (fun _ => none) := hCe ▸ Heap.Ns.new H (.type "dict")
  have hsz : (H.push { cls := .type "dict", data := .dict #[] }).objs.size = C + 1 := by rw [Heap.size_push, hCe]
  have hX := Heap.get?_push_size (H.push { cls := .type "dict", data := .dict #[] }) (o := { cls := .type "cell", data := .cell none }) rfl
  rw [hsz] at hX
  have kk : ∀ b o, H.get? b = some o → ((H.push { cls := .type "dict", data := .dict #[] }).push { cls := .type "cell", data := .cell none }).get? b = some o := fun b o e => Heap.get?_push_of_some _ (Heap.get?_push_of_some _ e)
  have ns1 : ((H.push { cls := .type "dict", data := .dict #[] }).push { cls := .type "cell", data := .cell none }).Ns C (fun _ => none) := nsC.push _
  generalize (H.push { cls := .type "dict", data := .dict #[] }).push { cls := .type "cell", data := .cell none } = h₁ at hX kk ns1 ⊢
  have hCD : C = D + 1 := by rw [hCe, hHs]
  have hIlt : I < D := by rw [hDe]; exact Heap.lt_size hit
  have old : ∀ b, (∃ o, s₂.heap.get? b = some o) → b < D := fun b ⟨o, e⟩ => by rw [hDe]; exact Heap.lt_size e
  have base₁ : ∀ b o, s₂.heap.get? b = some o → h₁.get? b = some o := fun b o e => kk b o (kH b o e)
  refine start_at (d := 0) rfl ?_ (fun E Q q => wpAny_pyIter_rangeiter (base₁ _ _ hit) q)
  have W := turns_range (prog := prog) (w := w) (A := A) (x := y) (px := py) hA I n
  refine loop_last (ifs := []) rfl rfl (fun k s' => ∃ h' tk ys i v, s' = { s₂ with heap := h', toks := tk } ∧ IsRangeIter h' I (0 + (i : Nat) * 1) ((n : Int) - (i : Nat)) 1 ∧ h'.PlainList D (ys : List Value).toArray ∧ h'.Ns C (fun _ => none) ∧ h'.IsCell (C + 1) v ∧ Φ i ys ∧ (∀ b o, b ≠ I → s₂.heap.get? b = some o → h'.get? b = some o) ∧ i ≤ n ∧ ys.length = i ∧ k = n + 1 - i) ?_ (n + 1)
    ⟨h₁, _, [], 0, none, rfl, by simpa using base₁ _ _ hit, ⟨_, kk _ _ hD⟩, ns1, ⟨_, hX, rfl⟩, h0, fun b o _ e => base₁ b o e, Nat.zero_le _, rfl, rfl⟩
  rintro k s' E' ⟨h', tk, ys, i, v, rfl, hit', hacc', hn', hc', hΦ, hoff, hi, hyl, rfl⟩
  have hDltC : D < C := by rw [hCD]; exact Nat.lt_succ_self _
  have hIC : I ≠ C := Nat.ne_of_lt (Nat.lt_trans hIlt hDltC)
  have hIX : I ≠ C + 1 := Nat.ne_of_lt (Nat.lt_succ_of_lt (Nat.lt_trans hIlt hDltC))
  have hID : I ≠ D := Nat.ne_of_lt hIlt
  have hDC : D ≠ C := Nat.ne_of_lt hDltC
  have hDX : D ≠ C + 1 := Nat.ne_of_lt (Nat.lt_succ_of_lt hDltC)
  have hXC : C + 1 ≠ C := Nat.succ_ne_self _
  by_cases hlt : i < n
  · refine W.item i _ _ _ hlt hit' fun v h₂ tk₂ hMd hk₂ => ?_
    refine W.go i v _ _ _ hMd fun h₃ hP hst₃ hk₃ => ?_
    obtain ⟨t, rfl⟩ := hP
    have k₃ : ∀ b o, b ≠ I → h'.get? b = some o → h₃.get? b = some o := fun b o nb e => hk₃ b o (fun q => nb (List.mem_singleton.mp q)) (hk₂ b o (fun q => nb (List.mem_singleton.mp q)) e)
    have hc₃ : h₃.IsCell (C + 1) v := cell_but hc' (Ne.symm hIX) k₃
    refine wpAny_assign_Name (wpAny_storeName_cell hkind hyk (by show List.lookup y ((y, C + 1) :: cl) = _; rw [List.lookup_cons]; simp) hc₃ fun h₄ hc₄ hs₄ => ?_)
    refine wpAny_tests_nil ?_
    simp only [if_true]
    have k₄ : ∀ b o, b ≠ I → b ≠ C + 1 → h'.get? b = some o → h₄.get? b = some o := fun b o n1 n2 e => hs₄.extBut b o n2 (k₃ b o n1 e)
    have hn₄ : h₄.Ns C (fun _ => none) := hn'.at' fun o e => k₄ C o (Ne.symm hIC) (Ne.symm hXC) e
    have e0 : (0 + (i : Int) * 1) = (i : Int) := by omega
    rw [e0] at hc₄
    have base₄ : ∀ b o, b ≠ I → s₂.heap.get? b = some o → h₄.get? b = some o := fun b o n1 e => k₄ b o n1 (Nat.ne_of_lt (Nat.lt_succ_of_lt (Nat.lt_trans (old b ⟨o, e⟩) hDltC))) (hoff b o n1 e)
    refine wpAny_mono (turn C i ys t _ E' hlt hΦ hc₄ hn₄ base₄) (fun x s₅ h₅ => ?_) fun _ _ e => e
    obtain ⟨⟨h₅, tk₅, rfl, hk₅⟩, hΦ₅⟩ := h₅
    have hacc₅ : h₅.PlainList D ys.toArray := hacc'.at fun o e => hk₅ D o (k₄ D o (Ne.symm hID) hDX e)
    refine wpAny_list_append_plain (hsz := by rw [List.size_toArray]; omega) hacc₅ fun h₆ hl₆ hs₆ => ?_
    refine ⟨n + 1 - (i + 1), by omega, h₆, tk₅, ys ++ [x], i + 1, some (.int (i : Nat) t), rfl, ?_, by simpa using hl₆, (hn₄.keeps hk₅).sameBut hs₆ (Ne.symm hDC), ?_, hΦ₅, ?_, hlt, by rw [List.length_append, List.length_singleton, hyl], rfl⟩
    · exact hs₆.extBut I _ hID (hk₅ _ _ (hs₄.extBut I _ hIX hst₃))
    · exact cell_but (hc₄.keeps hk₅) (Ne.symm hDX) fun b o nb e => hs₆.extBut b o nb e
    · exact fun b o n1 e => hs₆.extBut b o (Nat.ne_of_lt (old b ⟨o, e⟩)) (hk₅ b o (base₄ b o n1 e))
  · have hin : i = n := by omega
    subst hin
    refine W.done _ _ _ hit' fun h₂ tk₂ hk₂ => ?_
    have k₂ : ∀ b o, b ≠ I → h'.get? b = some o → h₂.get? b = some o := fun b o nb e => hk₂ b o (fun q => nb (List.mem_singleton.mp q)) e
    show compPost (model prog w) A E none Q (.ref D) C (.ok .next) _
    refine ⟨_, hn'.at' fun o e => k₂ C o (Ne.symm hIC) e, fun h'' hs'' => ?_⟩
    exact done D h'' _ ys hΦ (hacc'.at fun o e => hs''.extBut D o hDC (k₂ D o (Ne.symm hID) e)) fun b o nb e => hs''.extBut b o (Nat.ne_of_lt (Nat.lt_trans (old b ⟨o, e⟩) hDltC)) (k₂ b o nb (hoff b o nb e))

/-- over `enumerate(l)`, a list that stands -/
theorem comp_enum {elt target iter : PySem.Expr} {elts : List PySem.Expr} {kk : Nat} {tp : Pos} {ifs : List PySem.Expr} {scope : Scope} {pos : Pos} {cl : List (Str × Addr)} {env : Env} {l : Addr} {vs : List Value} {fin : Addr → Addr → Result → Shared → Prop → Prop}
    (ht : target = .Tuple elts kk tp) (hh : A.handled = none) (hl : s.heap.IsList l vs.toArray) (hn : vs.length ≤ sizeLine)
    (Φ : List Addr → Nat → List Value → Heap → Prop) (stab : ∀ bad i ys h h', Φ bad i ys h → Off bad h h' → Φ bad i ys h') (h0 : ∀ bad h, Φ bad 0 [] h)
    (turn : ∀ C D I J i T t x ys m s₁ E, i < vs.length → vs[i]? = some x → s₁.heap.IsTuple T #[.int (i : Nat) t, x] → Φ [C, D, I, J] i ys s₁.heap → s₁.heap.Ns C m → (∀ b ∈ [C, D, I, J], ∃ o, s₁.heap.get? b = some o) → (∀ b o, s.heap.get? b = some o → s₁.heap.get? b = some o) → (∀ b ∈ [C, D, I, J], s.heap.get? b = none) →
      wpAny (model prog w) A (assign target (compEnvC scope cl C env) (.ref T)) (fun _ s₂ => ∃ m₂, Bound C s₁ m₂ s₂ ∧
        wpAny (model prog w) A (tests ifs (compEnvC scope cl C env)) (fun ok s₃ => Keeps s₂ s₃ ∧ if ok = true then wpAny (model prog w) A (eval elt (compEnvC scope cl C env)) (fun y s₄ => Keeps s₃ s₄ ∧ Φ [C, D, I, J] (i + 1) (ys ++ [y]) s₄.heap) E s₃ else Φ [C, D, I, J] (i + 1) ys s₃.heap) E s₂) E s₁)
    (done : ∀ C D I J h' tk m ys r, Φ [C, D, I, J] vs.length ys h' → h'.PlainList D ys.toArray → h'.Ns C m → (∀ b o, s.heap.get? b = some o → h'.get? b = some o) → s.heap.get? D = none → s.heap.get? C = none → D ≠ C → fin D C (.ok .next) { s with heap := h', toks := tk } r → r) :
    wpAny (model prog w) A (call (.type "enumerate") [.ref l]) (fun xv s₁ => wpAny (model prog w) A (pyIter xv) (fun it s₂ => CompGoal prog w A scope cl env elt [⟨target, iter, ifs, 0⟩] pos it s₂ fin) E s₁) E s := by
  subst ht
  refine call_enumerate_list hl fun h' hE hI hsz hk => ?_
  refine wpAny_pyIter_enum hE ?_
  have hll : l < s.heap.objs.size := by obtain ⟨o, ho, _⟩ := hl; exact Heap.lt_size ho
  have W := KTurns.ofWalksU (elts := elts) (k := kk) (pos := tp) (WalksT.enumerate (prog := prog) (w := w) hh (s.heap.objs.size + 1) s.heap.objs.size l (Nat.succ_ne_self _) (Nat.ne_of_lt (Nat.lt_succ_of_lt hll)) (Nat.ne_of_lt hll) vs.toArray).toU
  rw [List.size_toArray] at W
  have i0 : s.heap.get? (s.heap.objs.size + 1) = none := fresh (Nat.le_succ _)
  have j0 : s.heap.get? s.heap.objs.size = none := fresh (Nat.le_refl _)
  refine comp_one (s := { s with heap := h' }) (hb := s.heap) W (fun i h st b hb => ?_) ⟨⟨_, hE⟩, hI, hl.at fun o e => hk _ o e⟩ (fun b hb => ?_) (fun b hb => ?_) hk hn (fun s Q E st q => ?_) Φ stab h0 ?_ (fun C D h'' tk m ys r => done C D (s.heap.objs.size + 1) s.heap.objs.size h'' tk m ys r)
  · obtain ⟨⟨old, he⟩, ⟨o, ho, _⟩, _⟩ := st
    simp only [List.mem_cons, List.not_mem_nil, or_false] at hb
    rcases hb with rfl | rfl
    · exact ⟨_, he⟩
    · exact ⟨o, ho⟩
  · simp only [List.mem_cons, List.not_mem_nil, or_false] at hb
    show b < h'.objs.size
    rw [hsz]
    rcases hb with rfl | rfl | rfl
    · exact Nat.lt_succ_self _
    · exact Nat.lt_succ_of_lt (Nat.lt_succ_self _)
    · exact Nat.lt_succ_of_lt (Nat.lt_succ_of_lt hll)
  · simp only [List.mem_cons, List.not_mem_nil, or_false] at hb
    rcases hb with rfl | rfl
    · exact i0
    · exact j0
  · obtain ⟨⟨old, he⟩, _⟩ := st
    exact wpAny_pyIter_enum he q
  · rintro C D i v ys m s₁ E' hi ⟨T, vals, rfl, ⟨t, x, hx, rfl⟩, hT⟩ hΦ hns hlv base hall
    exact turn C D (s.heap.objs.size + 1) s.heap.objs.size i T t x ys m s₁ E' hi (by simpa using hx) hT hΦ hns hlv base hall

theorem pow_nat {j : Nat} {t u : Tok} {Q : Value → Shared → Prop} (hj : j ≤ 1000) (h : Q (.int (2 ^ j) s.toks) { s with toks := s.toks + 1 }) : wpAny (model prog w) A (binaryOp .Pow (.int 2 t) (.int (j : Nat) u)) Q E s :=
  pow_int_small (Int.natCast_nonneg _) (by omega) (by decide) (by rw [Int.toNat_natCast]; exact h)
theorem add_to {a b v : Int} {t u : Tok} {Q : Value → Shared → Prop} (hv : a + b = v) (h : Q (.int v s.toks) { s with toks := s.toks + 1 }) : wpAny (model prog w) A (binaryOp .Add (.int a t) (.int b u)) Q E s :=
  add_int (by rw [hv]; exact h)
theorem mul_to {a b v : Int} {t u : Tok} {Q : Value → Shared → Prop} (ha : a.natAbs < 2 ^ 32) (hv : a * b = v) (h : Q (.int v s.toks) { s with toks := s.toks + 1 }) : wpAny (model prog w) A (binaryOp .Mult (.int a t) (.int b u)) Q E s :=
  mul_int (by rw [hv]; exact h) (mulOk ha)
theorem mod_to {a b v : Int} {t u : Tok} {Q : Value → Shared → Prop} (hb : b ≠ 0) (hv : a.fmod b = v) (h : Q (.int v s.toks) { s with toks := s.toks + 1 }) : wpAny (model prog w) A (binaryOp .Mod (.int a t) (.int b u)) Q E s :=
  PyProof.Rows.mod_int hb (by rw [hv]; exact h)
theorem ne_same {a b : Int} {t u : Tok} {Q : Value → Shared → Prop} (hv : a = b) (h : Q (.bool false) s) : wpAny (model prog w) A (compareOp .NotEq (.int a t) (.int b u)) Q E s :=
  PyProof.Rows.ne_int (by rw [show (a != b) = false by simpa using hv]; exact h)
theorem eq_same {a b : Int} {t u : Tok} {Q : Value → Shared → Prop} (hv : a = b) (h : Q (.bool true) s) : wpAny (model prog w) A (compareOp .Eq (.int a t) (.int b u)) Q E s :=
  PyProof.Rows.eq_int (by rw [show (a == b) = true by simpa using hv]; exact h)
theorem gt_not {a b : Int} {t u : Tok} {Q : Value → Shared → Prop} (hv : ¬ b < a) (h : Q (.bool false) s) : wpAny (model prog w) A (compareOp .Gt (.int a t) (.int b u)) Q E s :=
  PyProof.Rows.gt_int (by rw [decide_eq_false hv]; exact h)
end

/-- what the figures pick -/
def pick {α : Type} : List α → List Int → List α
  | x :: xs, f :: fs => if f = 1 then x :: pick xs fs else pick xs fs
  | _, _ => []
theorem pick_snoc {α : Type} : ∀ (xs : List α) (fs : List Int) (i : Nat) (x : α) (f : Int), xs[i]? = some x → fs[i]? = some f → pick (xs.take (i + 1)) fs = pick (xs.take i) fs ++ (if f = 1 then [x] else [])
  | [], _, i, x, f, h, _ => by simp at h
  | _ :: _, [], i, x, f, _, h => by simp at h
  | y :: xs, g :: fs, 0, x, f, h, h' => by
    simp at h h'
    subst h h'
    simp [pick]
  | y :: xs, g :: fs, i + 1, x, f, h, h' => by
    simp at h h'
    have := pick_snoc xs fs i x f h h'
    simp only [List.take_succ_cons, pick, this]
    split <;> simp
theorem pick_sub {α : Type} : ∀ (xs : List α) (fs : List Int), (pick xs fs).Sublist xs
  | [], fs => by cases fs <;> simp [pick]
  | x :: xs, [] => by simp [pick]
  | x :: xs, f :: fs => by
    rw [pick]
    split
    · exact (pick_sub xs fs).cons_cons x
    · exact (pick_sub xs fs).cons x
theorem pick_pairs {h : Heap} : ∀ {vs : List Value} {P : List (Int × Int)} (fs : List Int), PairVals h vs P → PairVals h (pick vs fs) (pick P fs)
  | [], [], fs, _ => by cases fs <;> rfl
  | [], _ :: _, _, x => by cases x
  | _ :: _, [], _, x => by cases x
  | v :: vs, p :: P, [], _ => rfl
  | v :: vs, p :: P, f :: fs, x => by
    unfold PairVals at x
    rw [List.map_cons, List.map_cons] at x
    injection x with x1 x2
    have ih := pick_pairs fs (h := h) (vs := vs) (P := P) x2
    rw [pick, pick]
    split
    · unfold PairVals at ih ⊢; rw [List.map_cons, List.map_cons, x1, ih]
    · exact ih
end Mine

namespace Mine

/-- the pairs (i, j), i < j < n, as the law lists them -/
def PP : Nat → List (Int × Int)
  | 0 => []
  | j + 1 => PP j ++ (List.range j).map fun i => (((i : Nat) : Int), ((j : Nat) : Int))
def Ev (n : Nat) : List (Int × Int) := (PP n).filter fun p => (p.1 + p.2).fmod 2 == 1
/-- how many ties a point has -/
def dg (T : List (Int × Int)) (i : Int) : Int := ((nb T i).length : Int)
def cs (T : List (Int × Int)) (n : Nat) : List Int := (List.range n).map fun i => ((nb T (i : Nat)).length : Int)

theorem PP_mem : ∀ {n : Nat} {p : Int × Int}, p ∈ PP n → 0 ≤ p.1 ∧ p.1 < p.2 ∧ p.2 < (n : Int)
  | 0, p, h => by simp [PP] at h
  | n + 1, p, h => by
    rw [PP, List.mem_append] at h
    rcases h with h | h
    · have := PP_mem h; omega
    · obtain ⟨i, hi, rfl⟩ := List.mem_map.mp h
      have := List.mem_range.mp hi
      dsimp only; omega
theorem PP_nodup : ∀ n : Nat, (PP n).Nodup
  | 0 => List.nodup_nil
  | n + 1 => by
    rw [PP, List.nodup_append]
    refine ⟨PP_nodup n, ?_, fun a ha b hb => ?_⟩
    · have hr : (List.range n).Nodup := List.nodup_range
      rw [List.nodup_iff_pairwise_ne] at hr ⊢
      rw [List.pairwise_map]
      refine hr.imp fun h q => h ?_
      have := congrArg Prod.fst q
      dsimp only at this; omega
    · obtain ⟨i, hi, rfl⟩ := List.mem_map.mp hb
      have := PP_mem ha
      intro q
      rw [q] at this
      dsimp only at this; omega
theorem PP_length : ∀ {n : Nat}, n ≤ 6 → (PP n).length ≤ 15
  | 0, _ => by decide
  | 1, _ => by decide
  | 2, _ => by decide
  | 3, _ => by decide
  | 4, _ => by decide
  | 5, _ => by decide
  | 6, _ => by decide
theorem good_sub {T : List (Int × Int)} {n : Nat} (h : T.Sublist (PP n)) : Good T n := ⟨(PP_nodup n).sublist h, fun p hp => PP_mem (h.subset hp)⟩

theorem sum_add : ∀ (l : List Nat) (f g : Nat → Int), (l.map fun i => f i + g i).sum = (l.map f).sum + (l.map g).sum
  | [], _, _ => rfl
  | x :: l, f, g => by simp only [List.map_cons, List.sum_cons, sum_add l f g]; omega
theorem sum_zero : ∀ l : List Nat, (l.map fun _ => (0 : Int)).sum = 0
  | [] => rfl
  | x :: l => by simp [sum_zero l]
theorem sum_ind (g : Int → Int) (a : Int) : ∀ n : Nat, (((List.range n).map fun i => if a = ((i : Nat) : Int) then g i else 0).sum) = if 0 ≤ a ∧ a < n then g a else 0
  | 0 => by simp; omega
  | n + 1 => by
    rw [List.range_succ, List.map_append, List.sum_append, sum_ind g a n]
    simp only [List.map_cons, List.map_nil, List.sum_cons, List.sum_nil]
    by_cases h : a = (n : Int)
    · subst h
      rw [if_neg (by omega), if_pos rfl, if_pos (by omega)]; omega
    · rw [if_neg h]
      by_cases h2 : 0 ≤ a ∧ a < (n : Int)
      · rw [if_pos h2, if_pos (by omega)]; omega
      · rw [if_neg h2, if_neg (by omega)]; omega
theorem dg_cons (p : Int × Int) (T : List (Int × Int)) (i : Int) (h : p.1 < p.2) : dg (p :: T) i = (if p.1 = i then 1 else 0) + ((if p.2 = i then 1 else 0) + dg T i) := by
  unfold dg nb
  rw [List.filterMap_cons]
  by_cases h1 : p.1 = i
  · rw [if_pos h1, if_pos h1, if_neg (by omega)]
    simp; omega
  · by_cases h2 : p.2 = i
    · rw [if_neg h1, if_pos h2, if_neg h1, if_pos h2]
      simp; omega
    · rw [if_neg h1, if_neg h2, if_neg h1, if_neg h2]
      simp
theorem sum_dg (f : Int → Int) (n : Nat) : ∀ T : List (Int × Int), (∀ p ∈ T, 0 ≤ p.1 ∧ p.1 < p.2 ∧ p.2 < (n : Int)) → ((List.range n).map fun i => dg T ((i : Nat) : Int) * f ((i : Nat) : Int)).sum = (T.map fun p => f p.1 + f p.2).sum
  | [], _ => by
    have : ((List.range n).map fun i => dg [] ((i : Nat) : Int) * f ((i : Nat) : Int)) = (List.range n).map fun _ => (0 : Int) := List.map_congr_left fun i _ => by simp [dg, nb]
    rw [this, sum_zero]; rfl
  | p :: T, h => by
    have hp := h p List.mem_cons_self
    have e : ((List.range n).map fun i => dg (p :: T) ((i : Nat) : Int) * f ((i : Nat) : Int)) = (List.range n).map fun i => (if p.1 = ((i : Nat) : Int) then f i else 0) + ((if p.2 = ((i : Nat) : Int) then f i else 0) + dg T ((i : Nat) : Int) * f ((i : Nat) : Int)) :=
      List.map_congr_left fun i _ => by
        rw [dg_cons p T _ hp.2.1, Int.add_mul, Int.add_mul]
        congr 1
        · split <;> simp
        · congr 1
          split <;> simp
    rw [e, sum_add _ (fun i => if p.1 = ((i : Nat) : Int) then f i else 0) (fun i => (if p.2 = ((i : Nat) : Int) then f i else 0) + dg T ((i : Nat) : Int) * f ((i : Nat) : Int)), sum_add _ (fun i => if p.2 = ((i : Nat) : Int) then f i else 0) (fun i => dg T ((i : Nat) : Int) * f ((i : Nat) : Int)),
      sum_ind f p.1 n, sum_ind f p.2 n, if_pos (by omega), if_pos (by omega), sum_dg f n T fun q hq => h q (List.mem_cons_of_mem _ hq)]
    simp only [List.map_cons, List.sum_cons]
    omega

theorem sum_const (c : Int) : ∀ T : List (Int × Int), (T.map fun _ => c).sum = c * (T.length : Int)
  | [] => by simp
  | p :: T => by rw [List.map_cons, List.sum_cons, sum_const c T, List.length_cons]; rw [Int.natCast_add, Int.mul_add]; simp; omega
theorem sum_le (f : Int × Int → Int) (c : Int) : ∀ T : List (Int × Int), (∀ p ∈ T, f p ≤ c) → (T.map f).sum ≤ c * (T.length : Int)
  | [], _ => by simp
  | p :: T, h => by
    have h1 := h p List.mem_cons_self
    have h2 := sum_le f c T fun q hq => h q (List.mem_cons_of_mem _ hq)
    rw [List.map_cons, List.sum_cons, List.length_cons, Int.natCast_add, Int.mul_add]
    simp; omega

/-- F3: the counts' sum -/
theorem cs_sum {T : List (Int × Int)} {n : Nat} (h : Good T n) : (cs T n).sum = 2 * (T.length : Int) := by
  have := sum_dg (fun _ => 1) n T h.2
  simp only [Int.mul_one] at this
  have e : (cs T n) = (List.range n).map fun i => dg T ((i : Nat) : Int) := rfl
  rw [e, this]
  exact sum_const 2 T
/-- F4: the counts, counted the other way -/
theorem nb_filter (T : List (Int × Int)) (i : Int) : (nb T i).length = (T.filter fun p => p.1 == i || p.2 == i).length := by
  induction T with
  | nil => rfl
  | cons p T ih =>
    unfold nb at ih ⊢
    rw [List.filterMap_cons, List.filter_cons]
    by_cases h1 : p.1 = i
    · simp [h1, ih]
    · by_cases h2 : p.2 = i
      · simp [h1, h2, ih]
      · simp [h1, h2, ih]

theorem triB_has {T : List (Int × Int)} {n : Nat} {a b c : Int} (h : Good T n) (h1 : (a, b) ∈ T) (h2 : (a, c) ∈ T) (h3 : (b, c) ∈ T) : hasTri T n = true := by
  have g1 : 0 ≤ a ∧ a < b ∧ b < (n : Int) := h.2 _ h1
  have g3 : 0 ≤ b ∧ b < c ∧ c < (n : Int) := h.2 _ h3
  obtain ⟨x, rfl⟩ : ∃ x : Nat, a = x := ⟨a.toNat, by omega⟩
  obtain ⟨y, rfl⟩ : ∃ y : Nat, b = y := ⟨b.toNat, by omega⟩
  obtain ⟨z, rfl⟩ : ∃ z : Nat, c = z := ⟨c.toNat, by omega⟩
  unfold hasTri
  rw [List.any_eq_true]
  refine ⟨z, List.mem_range.mpr (by omega), ?_⟩
  unfold fC
  rw [List.any_eq_true]
  refine ⟨y, List.mem_range.mpr (by omega), ?_⟩
  unfold fB
  rw [List.any_eq_true]
  refine ⟨x, List.mem_range.mpr (by omega), ?_⟩
  unfold triB
  rw [decide_eq_true h1, decide_eq_true h2, decide_eq_true h3]; rfl
theorem nb_nodup {T : List (Int × Int)} {n : Nat} (h : Good T n) (i : Int) : (nb T i).Nodup := by
  obtain ⟨hn, hb⟩ := h
  induction T with
  | nil => exact List.nodup_nil
  | cons p T ih =>
    rw [List.nodup_cons] at hn
    have ih' := ih hn.2 fun q hq => hb q (List.mem_cons_of_mem _ hq)
    have hp := hb p List.mem_cons_self
    have mem := fun {j : Int} (q : j ∈ nb T i) => mem_nb q
    unfold nb at ih' mem ⊢
    rw [List.filterMap_cons]
    obtain ⟨a, b⟩ := p
    dsimp only at hp ⊢
    by_cases h1 : a = i
    · rw [if_pos h1]
      refine List.nodup_cons.mpr ⟨fun q => ?_, ih'⟩
      subst h1
      rcases mem q with m | m
      · exact hn.1 m
      · have := hb _ (List.mem_cons_of_mem _ m); dsimp only at this; omega
    · by_cases h2 : b = i
      · rw [if_neg h1, if_pos h2]
        refine List.nodup_cons.mpr ⟨fun q => ?_, ih'⟩
        subst h2
        rcases mem q with m | m
        · have := hb _ (List.mem_cons_of_mem _ m); dsimp only at this; omega
        · exact hn.1 m
      · rw [if_neg h1, if_neg h2]
        exact ih'
theorem len_le_range : ∀ (n : Nat) (l : List Int), l.Nodup → (∀ x ∈ l, 0 ≤ x ∧ x < (n : Int)) → l.length ≤ n
  | 0, [], _, _ => Nat.le_refl _
  | 0, x :: l, _, h => by have := h x List.mem_cons_self; omega
  | n + 1, l, hn, h => by
    have h2 := len_le_range n (l.filter fun x => !(x == (n : Int))) (hn.sublist List.filter_sublist) fun x hx => by
      obtain ⟨m1, m2⟩ := List.mem_filter.mp hx
      have := h x m1
      have m3 : x ≠ (n : Int) := by simpa using m2
      omega
    have h3 : (l.filter fun x => x == (n : Int)).length ≤ 1 := by
      have : (l.filter fun x => x == (n : Int)).Nodup := hn.sublist List.filter_sublist
      match e : (l.filter fun x => x == (n : Int)) with
      | [] => simp
      | [_] => simp
      | x :: y :: r =>
        rw [e] at this
        have hx : x ∈ l.filter fun x => x == (n : Int) := by rw [e]; exact List.mem_cons_self
        have hy : y ∈ l.filter fun x => x == (n : Int) := by rw [e]; exact List.mem_cons_of_mem _ List.mem_cons_self
        have ex : x = (n : Int) := by simpa using (List.mem_filter.mp hx).2
        have ey : y = (n : Int) := by simpa using (List.mem_filter.mp hy).2
        rw [List.nodup_cons] at this
        exact absurd (by rw [ex, ey]; exact List.mem_cons_self) this.1
    have h4 : l.length = (l.filter fun x => x == (n : Int)).length + (l.filter fun x => !(x == (n : Int))).length := by
      clear h2 h3 hn h
      induction l with
      | nil => rfl
      | cons y l ih =>
        simp only [List.filter_cons]
        cases (y == (n : Int)) <;> simp <;> omega
    omega

/-- F6: two tied points of a graph without a triangle have no neighbour in common -/
theorem edge_sum {T : List (Int × Int)} {n : Nat} (h : Good T n) (ht : hasTri T n = false) {p : Int × Int} (hp : p ∈ T) : dg T p.1 + dg T p.2 ≤ (n : Int) := by
  obtain ⟨a, b⟩ := p
  have hab : 0 ≤ a ∧ a < b ∧ b < (n : Int) := h.2 _ hp
  have no : ∀ x, x ∈ nb T a → x ∈ nb T b → False := fun x h1 h2 => by
    have tri : ∀ {u v z : Int}, (u, v) ∈ T → (u, z) ∈ T → (v, z) ∈ T → False := fun m1 m2 m3 => by
      have := triB_has h m1 m2 m3
      rw [ht] at this; cases this
    rcases mem_nb h1 with m1 | m1 <;> rcases mem_nb h2 with m2 | m2
    · exact tri hp m1 m2
    · exact tri m1 hp m2
    · have q1 : x < a := (h.2 _ m1).2.1
      have q2 : b < x := (h.2 _ m2).2.1
      omega
    · exact tri m1 m2 hp
  have hl := len_le_range n (nb T a ++ nb T b) (by
    rw [List.nodup_append]
    exact ⟨nb_nodup h a, nb_nodup h b, fun x h1 y h2 q => no x h1 (q ▸ h2)⟩) (fun x hx => by
    have inr : ∀ {i : Int}, x ∈ nb T i → 0 ≤ x ∧ x < (n : Int) := fun q => by
      rcases mem_nb q with m | m
      · have := h.2 _ m; dsimp only at this; omega
      · have := h.2 _ m; dsimp only at this; omega
    rcases List.mem_append.mp hx with q | q
    · exact inr q
    · exact inr q)
  rw [List.length_append] at hl
  show ((nb T a).length : Int) + ((nb T b).length : Int) ≤ (n : Int)
  omega
/-- F7 -/
theorem sq_sum {T : List (Int × Int)} {n : Nat} (h : Good T n) (ht : hasTri T n = false) : ((cs T n).map fun c => c * c).sum ≤ (n : Int) * (T.length : Int) := by
  have e : ((cs T n).map fun c => c * c) = (List.range n).map fun i => dg T ((i : Nat) : Int) * dg T ((i : Nat) : Int) := by
    unfold cs; rw [List.map_map]; rfl
  rw [e, sum_dg (dg T) n T h.2]
  exact sum_le _ _ T fun p hp => edge_sum h ht hp

theorem cauchy (n : Int) (S : Int) : ∀ l : List Int, (l.map fun x => (n * x - S) * (n * x - S)).sum = n * n * (l.map fun x => x * x).sum - 2 * n * S * l.sum + (l.length : Int) * (S * S)
  | [] => by simp
  | x :: l => by
    simp only [List.map_cons, List.sum_cons, cauchy n S l, List.length_cons]
    rw [Int.natCast_add]
    grind
theorem sq_nonneg : ∀ (f : Int → Int) (l : List Int), 0 ≤ (l.map fun x => f x * f x).sum
  | _, [] => Int.le_refl _
  | f, x :: l => by
    rw [List.map_cons, List.sum_cons]
    have h1 : 0 ≤ f x * f x := by
      rcases Int.le_total 0 (f x) with h | h
      · exact Int.mul_nonneg h h
      · exact Int.mul_nonneg_of_nonpos_of_nonpos h h
    have := sq_nonneg f l
    omega
/-- F5: Mantel -/
theorem mantel {T : List (Int × Int)} {n : Nat} (hn : 2 ≤ n) (h : Good T n) (ht : hasTri T n = false) : (T.length : Int) ≤ ((n : Int) * (n : Int)).fdiv 4 := by
  have h1 := sq_sum h ht
  have h2 := sq_nonneg (fun x => (n : Int) * x - (cs T n).sum) (cs T n)
  have h3 := cauchy (n : Int) (cs T n).sum (cs T n)
  have hl : ((cs T n).length : Int) = (n : Int) := by unfold cs; rw [List.length_map, List.length_range]
  rw [hl, cs_sum h] at h3
  rw [cs_sum h] at h2
  rw [h3] at h2
  clear h3 hl
  generalize ((cs T n).map fun c => c * c).sum = S2 at h1 h2
  generalize hm : (T.length : Int) = m at h1 h2
  have hm0 : 0 ≤ m := by omega
  clear hm
  rw [Int.fdiv_eq_ediv_of_nonneg _ (by decide)]
  obtain ⟨N, hN⟩ : ∃ N : Int, N = (n : Int) := ⟨_, rfl⟩
  rw [← hN] at h1 h2 ⊢
  have hN2 : 2 ≤ N := by omega
  have e1 : N * N * S2 ≤ N * N * (N * m) := Int.mul_le_mul_of_nonneg_left h1 (Int.mul_nonneg (by omega) (by omega))
  have e2 : 0 ≤ N * m * (N * N - 4 * m) := by
    have : N * N * S2 - 2 * N * (2 * m) * (2 * m) + N * (2 * m * (2 * m)) = N * N * S2 - N * (4 * (m * m)) := by grind
    have t : N * m * (N * N - 4 * m) = N * N * (N * m) - N * (4 * (m * m)) := by grind
    omega
  by_cases hz : m = 0
  · subst hz
    exact Int.ediv_nonneg (Int.mul_nonneg (by omega) (by omega)) (by decide)
  · have hpos : 0 < N * m := Int.mul_pos (by omega) (by omega)
    have : 0 ≤ N * N - 4 * m := by
      rcases Int.lt_or_le (N * N - 4 * m) 0 with q | q
      · have := Int.mul_neg_of_pos_of_neg hpos q
        omega
      · exact q
    omega

/-- what is asked of the even graph, for the few n that there are -/
def EvenOK (n : Nat) : Bool := decide (((Ev n).length : Int) = ((n : Int) * (n : Int)).fdiv 4) && (!hasTri (Ev n) n) && ((PP n).all fun p => decide (p ∈ Ev n) || hasTri (Ev n ++ [p]) n) && decide (((cs (Ev n) n).map fun c => c * c).sum = (n : Int) * ((n : Int) * (n : Int)).fdiv 4)
theorem even_all : (EvenOK 2 && EvenOK 3 && EvenOK 4 && EvenOK 5 && EvenOK 6) = true := by decide +kernel
theorem even_ok {n : Nat} (h2 : 2 ≤ n) (h6 : n ≤ 6) : EvenOK n = true := by
  have h := even_all
  simp only [Bool.and_eq_true] at h
  obtain ⟨⟨⟨⟨a, b⟩, c⟩, d⟩, e⟩ := h
  have : n = 2 ∨ n = 3 ∨ n = 4 ∨ n = 5 ∨ n = 6 := by omega
  rcases this with rfl | rfl | rfl | rfl | rfl <;> assumption
theorem even_length {n : Nat} (h2 : 2 ≤ n) (h6 : n ≤ 6) : ((Ev n).length : Int) = ((n : Int) * (n : Int)).fdiv 4 := by
  have h := even_ok h2 h6
  unfold EvenOK at h
  simp only [Bool.and_eq_true, decide_eq_true_eq] at h
  exact h.1.1.1
theorem even_free {n : Nat} (h2 : 2 ≤ n) (h6 : n ≤ 6) : hasTri (Ev n) n = false := by
  have h := even_ok h2 h6
  unfold EvenOK at h
  simp only [Bool.and_eq_true, Bool.not_eq_true'] at h
  exact h.1.1.2
theorem even_full {n : Nat} (h2 : 2 ≤ n) (h6 : n ≤ 6) {p : Int × Int} (hp : p ∈ PP n) (hn : p ∉ Ev n) : hasTri (Ev n ++ [p]) n = true := by
  have h := even_ok h2 h6
  unfold EvenOK at h
  simp only [Bool.and_eq_true] at h
  have h3 := List.all_eq_true.mp h.1.2 p hp
  rw [decide_eq_false hn, Bool.false_or] at h3
  exact h3
theorem even_sq {n : Nat} (h2 : 2 ≤ n) (h6 : n ≤ 6) : ((cs (Ev n) n).map fun c => c * c).sum = (n : Int) * ((n : Int) * (n : Int)).fdiv 4 := by
  have h := even_ok h2 h6
  unfold EvenOK at h
  simp only [Bool.and_eq_true, decide_eq_true_eq] at h
  exact h.2
theorem divOK_n {n : Nat} (h2 : 2 ≤ n) (h6 : n ≤ 6) : ∃ K, DivOK ((n : Int) * (n : Int)) K := by
  obtain ⟨a, b, c, d, e⟩ := divOK_all
  have : n = 2 ∨ n = 3 ∨ n = 4 ∨ n = 5 ∨ n = 6 := by omega
  rcases this with rfl | rfl | rfl | rfl | rfl
  · exact ⟨_, a⟩
  · exact ⟨_, b⟩
  · exact ⟨_, c⟩
  · exact ⟨_, d⟩
  · exact ⟨_, e⟩
end Mine

namespace Mine

theorem bits15 {a : Int} (h0 : 0 ≤ a) (h : a < 2 ^ 15) : Builtin.Int.intBits a ≤ 15 ∧ (a ≠ 0 → 1 ≤ Builtin.Int.intBits a) := by
  unfold Builtin.Int.intBits
  constructor
  · split
    · omega
    · rename_i q
      have h1 : a.natAbs ≠ 0 := by simpa using q
      have : a.natAbs.log2 < 15 := (Nat.log2_lt h1).mpr (by omega)
      omega
  · intro hne
    rw [if_neg (by simpa using hne)]
    omega
theorem figure_of (S : Int) {k : Nat} (hk : k ≤ 15) : ∃ a : Int, (if S < 0 then -S else S).fmod (2 ^ k) = a ∧ 0 ≤ a ∧ a < 2 ^ 15 := by
  have hp : (0 : Int) < 2 ^ k := Int.pow_pos (by decide)
  have hle : (2 : Int) ^ k ≤ 2 ^ 15 := by
    have : (2 : Nat) ^ k ≤ 2 ^ 15 := Nat.pow_le_pow_right (by decide) hk
    exact_mod_cast this
  refine ⟨_, rfl, ?_, ?_⟩
  · rw [Int.fmod_eq_emod_of_nonneg _ (Int.le_of_lt hp)]; exact Int.emod_nonneg _ (Int.ne_of_gt hp)
  · rw [Int.fmod_eq_emod_of_nonneg _ (Int.le_of_lt hp)]; exact Int.lt_of_lt_of_le (Int.emod_lt_of_pos _ hp) hle
theorem kOne (a : Nat) : ((a : Int) + ((1 : Nat) : Int) - 1).fdiv ((1 : Nat) : Int) = (a : Nat) := by
  rw [Int.fdiv_eq_ediv_of_nonneg _ (by decide)]
  omega

theorem fig_exists {a : Int} {fv : List Value} (ha0 : 0 ≤ a) (ha15 : a < 2 ^ 15) (hfv : IntsAre fv (if a = 0 then List.replicate (Builtin.Int.intBits a) 0 else dig 1 (Builtin.Int.intBits a) (Builtin.Int.intBits a) a)) : ∃ fs, IntsAre fv fs ∧ fs.length ≤ 15 := by
  refine ⟨_, hfv, ?_⟩
  have hb15 := (bits15 ha0 ha15).1
  split
  · rw [List.length_replicate]; exact hb15
  · rename_i q
    rw [dig_length 1 _ _ _ ((bits15 ha0 ha15).2 q) (Nat.le_succ _)]; exact hb15
theorem assign_two {w : World} {A : Around} {s : Shared} {env : Env} {x y : Str} {px py pos : Pos} {j : Nat} {T : Addr} {v1 v2 : Value} {m : Str → Option Value} {E : Value → Shared → Prop} {Q : Unit → Shared → Prop} (hh : A.handled = none)
    (hx : env.kindOf x = some .local) (hy : env.kindOf y = some .local) (hp : (env.scope.kind == .class || (env.scope.kind == .module && env.locals != env.globals)) = false) (hn : s.heap.Ns env.locals m) (ht : s.heap.IsTuple T #[v1, v2])
    (hQ : ∀ h' tk, h'.Ns env.locals (fun z => if z = y then some v2 else if z = x then some v1 else m z) → (∀ b o, b ≠ env.locals → s.heap.get? b = some o → h'.get? b = some o) → Q () { s with heap := h', toks := tk }) :
    wpAny (model Pr w) A (assign (.Tuple [.Name x px, .Name y py] j pos) env (.ref T)) Q E s := by
  refine wpAny_assign_Tuple hh ht rfl rfl fun h₁ hx₁ => ?_
  show wpAny _ _ (do holding [v2] (assign (.Name x px) env v1); do holding [] (assign (.Name y py) env v2); pure ()) _ _ _
  have k₁ : ∀ b o, s.heap.get? b = some o → h₁.get? b = some o := fun b o e => hx₁ b o (Nat.ne_of_lt (Heap.lt_size e)) e
  refine wpAny_bind (wpAny_holding (wpAny_assign_Name (wpAny_storeName_local hx (hn.keeps k₁) (fun h₂ hn₂ hs₂ => ?_) hp)))
  refine wpAny_bind (wpAny_holding (wpAny_assign_Name (wpAny_storeName_local hy hn₂ (fun h₃ hn₃ hs₃ => wpAny_pure ?_) hp)))
  exact hQ h₃ _ hn₃ fun b o hb e => hs₃.extBut b o hb (hs₂.extBut b o hb (k₁ b o e))
theorem assign_lc {w : World} {A : Around} {s : Shared} {env : Env} {x y : Str} {px py pos : Pos} {j : Nat} {T c : Addr} {v1 v2 : Value} {m : Str → Option Value} {c0 : Option Value} {E : Value → Shared → Prop} {Q : Unit → Shared → Prop} (hh : A.handled = none) (hk : env.scope.kind = .function)
    (hx : env.kindOf x = some .local) (hy : env.kindOf y = some .cell) (hc : env.cells.lookup y = some c) (hn : s.heap.Ns env.locals m) (hcell : s.heap.IsCell c c0) (hne : c ≠ env.locals) (ht : s.heap.IsTuple T #[v1, v2])
    (hQ : ∀ h₁ h₂ h₃ tk, (∀ b o, s.heap.get? b = some o → h₁.get? b = some o) → h₂.Ns env.locals (fun z => if z = x then some v1 else m z) → Heap.SameBut env.locals h₁ h₂ → h₃.IsCell c (some v2) → Heap.SameBut c h₂ h₃ → Q () { s with heap := h₃, toks := tk }) :
    wpAny (model Pr w) A (assign (.Tuple [.Name x px, .Name y py] j pos) env (.ref T)) Q E s := by
  refine wpAny_assign_Tuple hh ht rfl rfl fun h₁ hx₁ => ?_
  show wpAny _ _ (do holding [v2] (assign (.Name x px) env v1); do holding [] (assign (.Name y py) env v2); pure ()) _ _ _
  have k₁ : ∀ b o, s.heap.get? b = some o → h₁.get? b = some o := fun b o e => hx₁ b o (Nat.ne_of_lt (Heap.lt_size e)) e
  refine wpAny_bind (wpAny_holding (wpAny_assign_Name (wpAny_storeName_local hx (hn.keeps k₁) (fun h₂ hn₂ hs₂ => ?_) (by rw [hk]; rfl))))
  refine wpAny_bind (wpAny_holding (wpAny_assign_Name (wpAny_storeName_cell hk hy hc (cell_but (hcell.keeps k₁) hne fun b o nb e => hs₂.extBut b o nb e) (fun h₃ hc₃ hs₃ => wpAny_pure ?_))))
  exact hQ h₁ h₂ h₃ _ k₁ hn₂ hs₂ hc₃ hs₃
theorem item_zero {prog : Program} {w : World} {A : Around} {s : Shared} {E : Value → Shared → Prop} {value slice : PySem.Expr} {v : Value} {p : Int × Int} {u : Tok} {Q : Value → Shared → Prop} (hv : pairOf s.heap v = some p) (h : ∀ t, Q (.int p.1 t) s)
    (hs : ∀ a, subscripted slice false (.ref a) (.int 0 u) = operate [.ref a, .int 0 u] (getItem (.ref a) (.int 0 u))) :
    wpAny (model prog w) A (subscriptTail value slice v (.int 0 u)) Q E s := by
  exact kba_turn (value' := .Name (Str.ofString "x") ⟨0, 0, 0, 0⟩) (fun _ => rfl) (item_pair (k := 0) hv (by decide) h hs (by intro _ _; rfl))
/-- is this int one of the pair's two -/
def isIt (i : Int) : Value → Bool
  | .int k _ => k == i
  | _ => false
theorem in_pair {prog : Program} {w : World} {A : Around} {s : Shared} {E : Value → Shared → Prop} {v : Value} {p : Int × Int} {i : Int} {t : Tok} {Q : Value → Shared → Prop} (hv : pairOf s.heap v = some p) (h : Q (.bool (p.1 == i || p.2 == i)) s) :
    wpAny (model prog w) A (compareOp .In (.int i t) v) Q E s := by
  obtain ⟨a, o, n, t1, t2, rfl, ho, hc, hd⟩ := pairOf_some hv
  have ht : s.heap.IsTuple a #[Value.int p.1 t1, .int p.2 t2] := ⟨o, ho, hc, n, hd⟩
  refine in_tupleAt (isIt i) ht (fun y hy => ?_) ?_
  · simp at hy
    rcases hy with rfl | rfl
    · exact EqAt.int_int p.1 t1 i t
    · exact EqAt.int_int p.2 t2 i t
  · have e : (#[Value.int p.1 t1, .int p.2 t2] : Array Value).any (isIt i) = (p.1 == i || p.2 == i) := by simp [isIt]
    rw [e]; exact h
theorem take_filter {T : List (Int × Int)} {k : Nat} {p : Int × Int} (f : Int × Int → Bool) (h : T[k]? = some p) : ((T.take (k + 1)).filter f).length = ((T.take k).filter f).length + if f p = true then 1 else 0 := by
  rw [List.take_add_one, h, List.filter_append, List.length_append]
  show _ + (List.filter f [p]).length = _
  rw [List.filter_cons]
  cases f p <;> simp
theorem new_list (h : Heap) (its : Array Value) : (h.push { cls := .type "list", data := .seq its }).IsList h.objs.size its := ⟨_, Heap.get?_push_size _ rfl, rfl, _, rfl⟩
/-- `_law_threes(x, many) == []`, x and many in cells -/
theorem threes_is {w : World} {A : Around} {s : Shared} {mg mb : Str → Option Value} {env : Env} {x : Str} {px pm p1 p2 p3 p4 : Pos} {l cx cm : Addr} {n : Nat} {t : Tok} {T : List (Int × Int)} {whole : Sem Value} {E : Value → Shared → Prop} {Q : Bool → Shared → Prop}
    (r : Room A 20) (hu : A.units + 64 < cLine) (Tp : TopAt w mg mb s.heap) (hk : env.scope.kind = .function) (hg : env.globals = mainGlobals) (hth : env.kindOf (Str.ofString "_law_threes") = some .globalImplicit)
    (hx : env.kindOf x = some .cell) (hm : env.kindOf (Str.ofString "many") = some .cell) (hcx : env.cells.lookup x = some cx) (hcm : env.cells.lookup (Str.ofString "many") = some cm) (hxd : (x == ("__debug__" : Str)) = false)
    (cellx : s.heap.IsCell cx (some (.ref l))) (cellm : s.heap.IsCell cm (some (.int (n : Nat) t))) (hl : PairsL s.heap l T) (hn : n ≤ 10)
    (hQ : ∀ h' tk, (∀ b o, s.heap.get? b = some o → h'.get? b = some o) → Q (!hasTri T n) { s with heap := h', toks := tk }) :
    wpAny (model Pr w) A (isTrue (.Compare (.Call (.Name (Str.ofString "_law_threes") p1) [.Name x px, .Name (Str.ofString "many") pm] [] p2) [.Eq] [.List [] p3] p4) env whole) Q E s := by
  refine wpAny_isTrue_Compare1 (Call_Name2 (name_top Tp hk hth hg rfl (by decide) ?_) rfl)
  refine callWith_top ⟨_, _, _, _, rfl⟩ (Calls.evalArgs_plain (Calls.spliced_cons (wpAny_Name (wpAny_loadName_cell hk hx hcx cellx ?_) hxd)))
  refine Calls.spliced_cons (wpAny_Name (wpAny_loadName_cell hk hm hcm cellm (Calls.spliced_nil ⟨Tp.X, ?_⟩)))
  refine wpAny_call (threes_code (r.down (by decide)) Tp hl hn fun D h' tk ys hk₁ hD hys hlen => ?_)
  refine List_ (args_nil (wpAny_newObj_type ?_))
  refine eq_nil (hD.isList.at fun o e => Heap.get?_push_of_some _ e) (new_list h' _) hu ?_
  rw [hys]
  exact wpAny_truthy_bool (hQ _ _ fun b o e => Heap.get?_push_of_some _ (hk₁ b o e))
/-- `sum([count * count for count in …])` -/
theorem sum_sq {w : World} {A : Around} {s : Shared} {mg mb : Str → Option Value} {env : Env} {iter : PySem.Expr} {scope : Scope} {p1 p2 p3 p4 p5 p6 pos : Pos} {E : Value → Shared → Prop} {Q : Value → Shared → Prop}
    (hh : A.handled = none) (Tp : TopAt w mg mb s.heap) (hk : env.scope.kind = .function) (hg : env.globals = mainGlobals) (hb : env.builtins = builtinsNs) (hsm : env.kindOf (Str.ofString "sum") = some .globalImplicit)
    (hclos : closureFor scope env = pure []) (hcell : ∀ y ∈ scope.names, y.2 ≠ .cell) (hkind : scope.kind = .function) (hnames : ∀ y ∈ scope.names, y.2 = .local → scope.names.lookup y.1 = some .local) (hs : ∀ x, foldedSetIterable iter env x = pure x)
    (hx : (relabel scope env).names.lookup (Str.ofString "count") = some .local)
    (h : wpAny (model Pr w) A (eval iter env) (fun xv s₁ => ∃ l vs, ∃ cs : List Int, xv = .ref l ∧ s₁.heap.IsList l vs.toArray ∧ IntsAre vs cs ∧ cs.length ≤ 100 ∧ (∀ c ∈ cs, c.natAbs < 2 ^ 32) ∧ ∀ h' tk t, (∀ b o, s₁.heap.get? b = some o → h'.get? b = some o) → Q (.int (cs.map fun c => c * c).sum t) { s₁ with heap := h', toks := tk }) E s) :
    wpAny (model Pr w) A (eval (.Call (.Name (Str.ofString "sum") p1) [.ListComp (.BinOp (.Name (Str.ofString "count") p2) .Mult (.Name (Str.ofString "count") p3) p4) [⟨.Name (Str.ofString "count") p5, iter, [], 0⟩] scope pos] [] p6) env) Q E s := by
  refine Call_Name1 (name_builtin Tp hk hsm hg hb rfl boot_sum (by decide) (by decide) ?_) rfl
  refine callWith_builtin rfl (Calls.evalArgs_plain (Calls.spliced_cons ?_))
  refine comp_eval (cl := []) hclos hcell hkind hnames hs (wpAny_mono h (fun xv s₁ h₁ => ?_) fun _ _ e => e)
  obtain ⟨l, vs, cs, rfl, hl, hi, hlen, hsmall, hQ⟩ := h₁
  have hvl := hi.length
  refine comp_list hh hl (by rw [sizeLine_eq]; omega) (fun _ i ys _ => IntsAre ys ((cs.take i).map fun c => c * c)) (fun _ _ _ _ _ p _ => p) (fun _ _ => .nil) ?_ ?_
  · intro C D I i v ys m s₄ E' hi' hv hΦ hns₄ hlive₄ base₄ hall
    refine Exists.elim (hi.at i v hv) fun c hc => Exists.elim hc fun t ht => ?_
    have hv2 := ht.1
    subst hv2
    refine wpAny_assign_Name (wpAny_storeName_local hx hns₄ (fun h₅ hn₅ hs₅ => ?_) (by have hk' : (compEnvC scope [] C env).scope.kind = .function := hkind; rw [hk']; rfl))
    refine ⟨_, ⟨h₅, _, rfl, hn₅, fun b o hb e => hs₅.extBut b o hb e⟩, wpAny_tests_nil ⟨keepsRefl _, ?_⟩⟩
    simp only [if_true]
    refine wpAny_BinOp (wpAny_Name (wpAny_loadName_local hkind hx hn₅ (if_pos rfl) (wpAny_Name (wpAny_loadName_local hkind hx hn₅ (if_pos rfl) ?_))))
    refine mul_to (hsmall c (List.mem_of_getElem? ht.2)) rfl ⟨⟨_, _, rfl, fun b o e => e⟩, ?_⟩
    rw [List.take_add_one, ht.2, List.map_append]
    exact hΦ.append (.cons _ _ .nil)
  · intro C D I h' tk' m ys r hΦ hacc hn' base hD0 hC0 hDC hfin
    refine hfin m hn' fun h'' hs'' => Calls.spliced_nil ?_
    rw [hvl, List.take_length] at hΦ
    have k : ∀ b o, s₁.heap.get? b = some o → h''.get? b = some o := fun b o e => hs''.extBut b o (ne_of_live e hC0) (base b o e)
    refine sum_ints hh (hacc.isList.at fun o e => hs''.extBut D o hDC e) hΦ fun h₃ tk₃ t₃ hk₃ => ?_
    exact hQ h₃ _ t₃ fun b o e => hk₃ b o (k b o e)
theorem cs_getD {T : List (Int × Int)} {n : Nat} {i : Int} (h0 : 0 ≤ i) (h1 : i < (n : Int)) : (cs T n).getD i.toNat 0 = dg T i := by
  obtain ⟨k, rfl⟩ : ∃ k : Nat, i = k := ⟨i.toNat, by omega⟩
  unfold cs
  rw [Int.toNat_natCast, List.getD_eq_getElem?_getD, List.getElem?_map, List.getElem?_range (by omega)]
  rfl
theorem cs_small {T : List (Int × Int)} {n : Nat} (h : T.length ≤ 90) : ∀ c ∈ cs T n, c.natAbs < 2 ^ 32 := fun c hc => by
  unfold cs at hc
  obtain ⟨i, _, rfl⟩ := List.mem_map.mp hc
  have := nb_length_le T (i : Int)
  show (((nb T (i : Int)).length : Int)).natAbs < 2 ^ 32
  omega
theorem cs_length (T : List (Int × Int)) (n : Nat) : (cs T n).length = n := by unfold cs; rw [List.length_map, List.length_range]
theorem filter_step {T : List (Int × Int)} {k : Nat} {p : Int × Int} (f : Int × Int → Bool) (h : T[k]? = some p) : (T.take (k + 1)).filter f = (T.take k).filter f ++ if f p = true then [p] else [] := by
  rw [List.take_add_one, h, List.filter_append]
  show _ ++ List.filter f [p] = _
  rw [List.filter_cons]
  cases f p <;> simp
theorem eq_nonnil {prog : Program} {w : World} {A : Around} {s : Shared} {E : Value → Shared → Prop} {l b : Addr} {ys : List Value} {Q : Value → Shared → Prop} (hl : s.heap.IsList l ys.toArray) (hb : s.heap.IsList b ([] : List Value).toArray) (hu : A.units + 64 < cLine) (hne : ys.isEmpty = false) (h : Q (.bool false) s) :
    wpAny (model prog w) A (compareOp .Eq (.ref l) (.ref b)) Q E s := eq_nil hl hb hu (by rw [hne]; exact h)
theorem many_of (S : Int) : ∃ n : Nat, 2 ≤ n ∧ n ≤ 6 ∧ 2 + S.fmod 5 = (n : Int) := by
  refine ⟨(2 + S.fmod 5).toNat, ?_⟩
  rw [Int.fmod_eq_emod_of_nonneg _ (by decide)]
  omega

theorem pair_avoid {bad : List Addr} {h h' : Heap} {v : Value} {p : Int × Int} (x : pairOf h v = some p) (n : ∀ a, v = .ref a → a ∉ bad) (o : Off bad h h') : pairOf h' v = some p := by
  obtain ⟨a, ob, k, t, u, rfl, ho, hc, hd⟩ := pairOf_some x
  exact pairOf_of (o _ _ (n a rfl) ho) hc hd
theorem pairVals_avoid {bad : List Addr} {h h' : Heap} {vs : List Value} {T : List (Int × Int)} (x : PairVals h vs T) (n : ∀ a, Value.ref a ∈ vs → a ∉ bad) (o : Off bad h h') : PairVals h' vs T := by
  unfold PairVals at x ⊢
  rw [← x]
  refine List.map_congr_left fun v hv => ?_
  obtain ⟨i, hi⟩ := List.mem_iff_getElem?.mp hv
  obtain ⟨p, _, hp⟩ := PairVals.get x hi
  rw [hp, pair_avoid hp (fun a e => n a (e ▸ hv)) o]
theorem pairVals_live {h : Heap} {vs : List Value} {T : List (Int × Int)} (x : PairVals h vs T) {a : Addr} (ha : Value.ref a ∈ vs) : ∃ o, h.get? a = some o := by
  obtain ⟨i, hi⟩ := List.mem_iff_getElem?.mp ha
  obtain ⟨p, _, hp⟩ := PairVals.get x hi
  obtain ⟨a', ob, k, t, u, e, ho, _⟩ := pairOf_some hp
  cases e
  exact ⟨ob, ho⟩
/-- the pairs of the points below i, no more of them than there is room for -/
def PV (bad : List Addr) (T : List (Int × Int)) (ys : List Value) (h : Heap) : Prop := PairVals h ys T ∧ ∀ a, Value.ref a ∈ ys → a ∉ bad
theorem PV.ext {bad : List Addr} {T : List (Int × Int)} {ys : List Value} {h h' : Heap} (x : PV bad T ys h) (k : ∀ b o, h.get? b = some o → h'.get? b = some o) : PV bad T ys h' := ⟨x.1.ext k, x.2⟩
theorem PV.off {bad bad' : List Addr} {T : List (Int × Int)} {ys : List Value} {h h' : Heap} (x : PV bad T ys h) (sub : ∀ a ∈ bad', a ∈ bad) (o : Off bad' h h') : PV bad T ys h' :=
  ⟨pairVals_avoid x.1 (fun a ha hb => x.2 a ha (sub a hb)) o, x.2⟩
theorem PV.snoc {bad : List Addr} {T : List (Int × Int)} {ys : List Value} {h : Heap} {a : Addr} {p : Int × Int} (x : PV bad T ys h) (hp : pairOf h (.ref a) = some p) (ha : a ∉ bad) : PV bad (T ++ [p]) (ys ++ [.ref a]) h :=
  ⟨x.1.snoc hp, fun b hb => by
    rcases List.mem_append.mp hb with hb | hb
    · exact x.2 b hb
    · cases List.mem_singleton.mp hb; exact ha⟩
theorem PP_step (j : Nat) : PP (j + 1) = PP j ++ (List.range j).map fun i => (((i : Nat) : Int), ((j : Nat) : Int)) := rfl

theorem ns_noseq {h : Heap} {L : Addr} {m : Str → Option Value} (x : h.Ns L m) : ∀ o, h.get? L = some o → ∀ it n, o.data ≠ .seq it n := fun o e it n hd => by
  obtain ⟨o', es, ep, ho', hd', _⟩ := x
  rw [ho'] at e; cases e; rw [hd'] at hd; cases hd
theorem LS.setLk {w : World} {mg mb : Str → Option Value} {G h h' : Heap} {L : Addr} {m m' : Str → Option Value} {c1 c2 c3 c4 c5 : Option Value} (S : LS w mg mb G L h m c1 c2 c3 c4 c5) (Gt : TopAt w mg mb G) (Gb : BM mg G) (C : Clear G L) (hn : h'.Ns L m') (k : ∀ b o, b ≠ L → h.get? b = some o → h'.get? b = some o) : LS w mg mb G L h' m' c1 c2 c3 c4 c5 := by
  have base := base_but C (a := L) (by simp [XS]) S.keep k
  exact ⟨Gt.keeps base, Gb.keeps base, base, hn, cell_but S.c1 (adj (j := 1) (k := 0) (by decide)) k, cell_but S.c2 (adj (j := 2) (k := 0) (by decide)) k, cell_but S.c3 (adj (j := 3) (k := 0) (by decide)) k, cell_but S.c4 (adj (j := 4) (k := 0) (by decide)) k, cell_but S.c5 (adj (j := 5) (k := 0) (by decide)) k,
    tab_but S.t44 (gt44 S.hL 0) (ns_not_fields S.ns) k, tab_but S.t51 (gt51 S.hL 0) (ns_not_fields S.ns) k, S.hL⟩

section
variable {w : World} {A : Around} {s : Shared} {mg mb : Str → Option Value}

theorem law_code {script : Addr} {vs : List Value} {ns : List Int} {R : Result → Shared → Prop} (r : Room A 60) (Tp : TopAt w mg mb s.heap) (hb : BM mg s.heap) (ht : Tab 44 q44 pos44 s.heap) (ht2 : Tab 51 q51 pos51 s.heap)
    (hl : s.heap.IsList script vs.toArray) (hi : IntsAre vs ns) (hsz : 51 < s.heap.objs.size)
    (hR : ∀ h' tk, (∀ b o, b ≠ 44 → b ≠ 51 → s.heap.get? b = some o → h'.get? b = some o) → Tab 44 q44 pos44 h' → Tab 51 q51 pos51 h' → R (.ok (.ret (.bool true))) { s with heap := h', toks := tk }) :
    codeAny (model Pr w) A (.call (.ref 85) ⟨[.ref script], []⟩) R s := by
  refine codeAny_call_cells (fd := fnOf _ _ _ _ _ _ _ _ _ _ _ _) (o := _) r.depth (Tp.X 85 _ rfl) rfl Tp.nolimit (codeRec_of Tp.X rfl) rfl (binds := [(Str.ofString "script", .ref script)]) rfl rfl ?_ ?_
  · intro x hx
    simp at hx
    rcases hx with rfl
    exact .inl rfl
  intro s₁ x
  obtain ⟨h₁, tk₁, rfl, hk₁⟩ := x.done
  -- the state at the start
  have hG : ∀ {b : Addr} {o : Obj}, s.heap.get? b = some o → b ≠ 44 → b ≠ 51 → (hideAll s.heap [44, 51]).get? b = some o := fun e n4 n5 => hideAll_get _ e (by simp; exact ⟨n4, n5⟩)
  have htabs : ∀ P ∈ [(44 : Addr), 51], ∃ ps, s.heap.get? P = some (tabObj ps) := fun P hP => by
    simp at hP
    rcases hP with rfl | rfl
    · obtain ⟨ps, g, _⟩ := ht; exact ⟨ps, g⟩
    · obtain ⟨ps, g, _⟩ := ht2; exact ⟨ps, g⟩
  have Gt : TopAt w mg mb (hideAll s.heap [44, 51]) := Tp.tabs htabs fun b o hb e => hideAll_get _ e hb
  have Gb : BM mg (hideAll s.heap [44, 51]) := hb.tabs htabs fun b o hb e => hideAll_get _ e hb
  have hlG : (hideAll s.heap [44, 51]).IsList script vs.toArray := by
    obtain ⟨o, ho, hc, n, hd⟩ := hl
    refine ⟨o, hideAll_get _ ho fun q => ?_, hc, n, hd⟩
    obtain ⟨ps, hp⟩ := htabs _ q
    rw [hp] at ho; cases ho; cases hc
  have C0 : Clear (hideAll s.heap [44, 51]) s.heap.objs.size := fun b hb => by
    have none_ge : ∀ {b : Addr}, s.heap.objs.size ≤ b → (hideAll s.heap [44, 51]).get? b = none := fun hb => fresh (by rw [hideAll_size]; exact hb)
    simp only [XS, List.mem_cons, List.not_mem_nil, or_false] at hb
    rcases hb with rfl | rfl | rfl | rfl | rfl | rfl | rfl | rfl
    · exact none_ge (Nat.le_refl _)
    · exact none_ge (Nat.le_add_right _ _)
    · exact none_ge (Nat.le_add_right _ _)
    · exact none_ge (Nat.le_add_right _ _)
    · exact none_ge (Nat.le_add_right _ _)
    · exact none_ge (Nat.le_add_right _ _)
    · exact hideAll_none _ (by simp)
    · exact hideAll_none _ (by simp)
  have fin : ∀ {h' tk m c1 c2 c3 c4 c5}, LS w mg mb (hideAll s.heap [44, 51]) s.heap.objs.size h' m c1 c2 c3 c4 c5 → R (.ok (.ret (.bool true))) { s with heap := h', toks := tk } := fun S =>
    hR _ _ (fun b o n4 n5 e => S.keep b o (hG e n4 n5)) S.t44 S.t51
  have S₁ : LS w mg mb (hideAll s.heap [44, 51]) s.heap.objs.size h₁ _ none none none none none :=
    ⟨Tp.keeps hk₁, hb.keeps hk₁, fun b o e => hk₁ b o (of_hideAll _ e), x.toInCall.ns, x.cell (Str.ofString "many") (s.heap.objs.size + 1) rfl, x.cell (Str.ofString "figures") (s.heap.objs.size + 2) rfl, x.cell (Str.ofString "ties") (s.heap.objs.size + 3) rfl,
      x.cell (Str.ofString "counts") (s.heap.objs.size + 4) rfl, x.cell (Str.ofString "even") (s.heap.objs.size + 5) rfl, tab_keeps ht hk₁, tab_keeps ht2 hk₁, hsz⟩
  clear x
  have r1 := r.deeper (callEnvC (fnOf (Str.ofString "law") (Str.ofString "law") default [] default .none .none .none .none none .none .none) 0 0)
  obtain ⟨n, hn2, hn6, hn⟩ := many_of ns.sum
  -- many = 2 + sum(script) % 5
  refine wpAny_execs_cons (wpAny_Assign_Name (wpAny_BinOp (wpAny_Constant_int (wpAny_BinOp (Call_Name1 (name_builtin S₁.top rfl rfl rfl rfl rfl boot_sum (by decide) (by decide) ?_) rfl)))))
  refine callWith_builtin rfl (Calls.evalArgs_plain (Calls.spliced_cons (wpAny_Name (wpAny_loadName_local rfl rfl S₁.ns rfl (Calls.spliced_nil ?_)))))
  refine sum_ints r1.1 (hlG.at fun o e => S₁.keep _ o e) hi fun h₂ tk₂ t₂ hk₂ => ?_
  have S₂ := S₁.ext hk₂
  refine wpAny_Constant_int (PyProof.Rows.mod_int (by decide) (add_to hn ?_))
  refine wpAny_storeName_cell rfl rfl rfl S₂.c1 fun h₃ hc₃ hs₃ => ?_
  have S₃ := S₂.set1 Gt Gb C0 hc₃ hs₃
  clear S₁ S₂ hc₃ hs₃ hk₂
  -- pairs
  refine wpAny_execs_cons (comp_assign (cl := []) rfl rfl (by decide) rfl (by decide) (by intro _; rfl) ?_)
  refine iter_range1 S₃.top rfl rfl rfl rfl (n := n) (by omega) rfl (fun Q' q => wpAny_Name (wpAny_loadName_cell rfl rfl rfl S₃.c1 (q _))) ?_
  intro h₄ tk₄ I hk₄ hI hit D C h₅ tk₅ R' hD hC hz hacc hnC hk₅ hfin
  refine ⟨fun E Q q => wpAny_pyIter_rangeiter (hk₅ _ _ hit) q, ?_⟩
  dsimp only at hI hk₄ hk₅ hD hacc hnC hz
  have base₅ : ∀ b o, h₃.get? b = some o → h₅.get? b = some o := fun b o e => hk₅ b o (hk₄ b o e)
  have hIlt : I < h₄.objs.size := Heap.lt_size hit
  have hD0 : h₄.get? D = none := fresh (Nat.le_of_eq hD.symm)
  have hC0 : h₄.get? C = none := fresh (by rw [hC, hD]; exact Nat.le_succ _)
  have hDC : D ≠ C := by rw [hC]; exact Nat.ne_of_lt (Nat.lt_succ_self _)
  have hID : I ≠ D := by rw [hD]; exact Nat.ne_of_lt hIlt
  have hIC : I ≠ C := by rw [hC, hD]; exact Nat.ne_of_lt (Nat.lt_succ_of_lt hIlt)
  have bad1 : ∀ b o, h₃.get? b = some o → b ≠ C ∧ b ≠ D ∧ b ≠ I := fun b o e => ⟨ne_of_live (hk₄ _ _ e) hC0, ne_of_live (hk₄ _ _ e) hD0, ne_of_live e hI⟩
  refine level_more (d := 0) (n := n) (C := C) (ys₀ := []) rfl rfl rfl (by intro _; rfl) (turns_range (prog := Pr) (w := w) (A := Around.deeper A _) r.1 I n) (fun i h st b hb => by rw [List.mem_singleton.mp hb]; exact ⟨_, st⟩) (by simpa using Ne.symm hIC) (by simpa using Ne.symm hID) hDC
    (fun i ys _ h => PV [C, D, I] (PP i) ys h ∧ ys.length ≤ 10 * i) (fun _ _ _ _ _ p o => ⟨p.1.off (by intro a ha; exact ha) o, p.2⟩) (by simpa using hk₅ _ _ hit) hacc hnC ⟨⟨rfl, fun a ha => by simp at ha⟩, by simp⟩ ?_ ?_
  · rintro i v ys m s₆ E hi' ⟨t₆, rfl⟩ ⟨hΦ, hyl⟩ hns₆ hacc₆ hlive₆ hoff₆
    have e0 : (0 + (i : Int) * 1) = (i : Int) := by omega
    rw [e0]
    have base₆ : ∀ b o, h₃.get? b = some o → s₆.heap.get? b = some o := fun b o e => hoff₆ b o (by simpa using bad1 b o e) (base₅ b o e)
    refine wpAny_assign_Name (wpAny_storeName_local rfl hns₆ (fun h₇ hn₇ hs₇ => ?_) rfl)
    have base₇ : ∀ b o, h₃.get? b = some o → h₇.get? b = some o := fun b o e => hs₇.extBut b o (bad1 b o e).1 (base₆ b o e)
    refine iter_range1 (S₃.top.keeps base₇) rfl rfl rfl rfl (n := i) (by omega) rfl (fun Q' q => wpAny_Name (wpAny_loadName_local rfl rfl hn₇ (if_pos rfl) (q _))) ?_
    intro h₈ tk₈ I' hk₈ hI' hit'
    dsimp only at hI' hk₈
    have hn₈ := hn₇.keeps hk₈
    have hacc₈ : h₈.PlainList D ys.toArray := hacc₆.at fun o e => hk₈ _ o (hs₇.extBut _ o hDC e)
    have live₇ : ∀ b ∈ [C, D, I], ∃ o, h₇.get? b = some o := fun b hb => by
      obtain ⟨o, ho⟩ := hlive₆ b hb
      by_cases q : b = C
      · subst q; obtain ⟨o', _, _, ho', _⟩ := hn₇; exact ⟨o', ho'⟩
      · exact ⟨o, hs₇.extBut b o q ho⟩
    have neI' : ∀ {b : Addr}, (∃ o, h₇.get? b = some o) → b ≠ I' := fun ⟨o, ho⟩ => ne_of_live ho hI'
    have hCI' : C ≠ I' := neI' (live₇ C (by simp))
    have hDI' : D ≠ I' := neI' (live₇ D (by simp))
    have hII' : I ≠ I' := neI' (live₇ I (by simp))
    have bad2 : ∀ b o, h₃.get? b = some o → b ≠ C ∧ b ≠ D ∧ b ≠ I' := fun b o e => ⟨(bad1 b o e).1, (bad1 b o e).2.1, neI' ⟨o, base₇ b o e⟩⟩
    have hΦ₇ : PV [C, D, I] (PP i) ys h₇ := hΦ.off (bad' := [C]) (by simp) fun b o hb e => hs₇.extBut b o (fun q => hb (by rw [q]; exact List.mem_singleton_self _)) e
    have hΦ₈ : PV [C, D, I, I'] (PP i) ys h₈ := ⟨hΦ₇.1.ext hk₈, fun a ha hb => by
      have h1 := hΦ₇.2 a ha
      have h2 := neI' (pairVals_live hΦ₇.1 ha)
      simp only [List.mem_cons, List.not_mem_nil, or_false] at hb h1
      rcases hb with q | q | q | q
      · exact h1 (.inl q)
      · exact h1 (.inr (.inl q))
      · exact h1 (.inr (.inr q))
      · exact h2 q⟩
    refine start_at (d := 1) rfl ?_ (fun E Q q => wpAny_pyIter_rangeiter hit' q)
    refine level_last (d := 1) (n := i) (C := C) (ys₀ := ys) rfl rfl rfl (turns_range (prog := Pr) (w := w) (A := Around.deeper A _) r.1 I' i) (fun i h st b hb => by rw [List.mem_singleton.mp hb]; exact ⟨_, st⟩) (by simpa using hCI') (by simpa using hDI') hDC
      (fun k zs m h => (∃ t, m (Str.ofString "other") = some (.int i t)) ∧ PV [C, D, I, I'] (PP i ++ (List.range k).map fun q => (((q : Nat) : Int), ((i : Nat) : Int))) zs h ∧ (∃ o, h.get? I = some o) ∧ zs.length ≤ ys.length + k)
      (fun _ _ _ _ _ p o => ⟨p.1, p.2.1.off (by intro a ha; simp at ha ⊢; rcases ha with q | q | q <;> simp [q]) o, (by
        obtain ⟨ob, hob⟩ := p.2.2.1
        exact ⟨ob, o _ _ (by simp; exact ⟨hIC, hID, hII'⟩) hob⟩), p.2.2.2⟩) (by simpa using hit') hacc₈ hn₈
      ⟨⟨_, if_pos rfl⟩, by simpa using hΦ₈, (by obtain ⟨o, ho⟩ := live₇ I (by simp); exact ⟨o, hk₈ _ _ ho⟩), by omega⟩ (by rw [sizeLine_eq]; omega) ?_ ?_
    · rintro k v zs m₉ s₉ E₉ hk ⟨t₉, rfl⟩ ⟨⟨to, hmo⟩, hΦ₉, hIl, hzl⟩ hns₉ hlive₉ hoff₉
      have e1 : (0 + (k : Int) * 1) = (k : Int) := by omega
      rw [e1]
      refine wpAny_assign_Name (wpAny_storeName_local rfl hns₉ (fun h₁₀ hn₁₀ hs₁₀ => ?_) rfl)
      refine ⟨_, ⟨h₁₀, _, rfl, hn₁₀, fun b o hb e => hs₁₀.extBut b o hb e⟩, wpAny_tests_nil ⟨keepsRefl _, ?_⟩⟩
      simp only [if_true]
      refine Tuple_ (Calls.spliced_cons (wpAny_Name (wpAny_loadName_local rfl rfl hn₁₀ (if_pos rfl) (Calls.spliced_cons ?_))))
      refine wpAny_Name (wpAny_loadName_local rfl rfl hn₁₀ ((if_neg (by decide)).trans hmo) (Calls.spliced_nil (wpAny_newTuple ?_)))
      have kk : ∀ (x : Obj) b o, h₁₀.get? b = some o → (h₁₀.push x).get? b = some o := fun x b o e => Heap.get?_push_of_some _ e
      have hΦ₁₀ : PV [C, D, I, I'] _ zs h₁₀ := hΦ₉.off (bad' := [C]) (by simp) fun b o hb e => hs₁₀.extBut b o (fun q => hb (by rw [q]; exact List.mem_singleton_self _)) e
      have live₁₀ : ∀ b ∈ [C, D, I, I'], ∃ o, h₁₀.get? b = some o := fun b hb => by
        by_cases q : b = C
        · subst q; obtain ⟨o', _, _, ho', _⟩ := hn₁₀; exact ⟨o', ho'⟩
        · have : ∃ o, s₉.heap.get? b = some o := by
            by_cases q2 : b = I
            · rw [q2]; exact hIl
            · refine hlive₉ b ?_
              simp at hb ⊢
              rcases hb with z | z | z | z
              · exact .inl z
              · exact .inr (.inl z)
              · exact absurd z q2
              · exact .inr (.inr z)
          obtain ⟨o, ho⟩ := this
          exact ⟨o, hs₁₀.extBut b o q ho⟩
      refine ⟨⟨_, _, rfl, kk _⟩, ⟨to, (if_neg (by decide)).trans hmo⟩, ?_, ?_, by rw [List.length_append, List.length_singleton]; omega⟩
      · rw [List.range_succ, List.map_append, ← List.append_assoc]
        have hΦ₁₁ : PV [C, D, I, I'] (PP i ++ (List.range k).map fun q => (((q : Nat) : Int), ((i : Nat) : Int))) zs (h₁₀.push { cls := .type "tuple", data := .seq [Value.int (k : Nat) t₉, Value.int (i : Nat) to].toArray }) := ⟨hΦ₁₀.1.ext (kk _), hΦ₁₀.2⟩
        exact hΦ₁₁.snoc (pairOf_of (Heap.get?_push_size _ rfl) rfl rfl) fun hb => by
          obtain ⟨o, ho⟩ := live₁₀ _ hb
          exact absurd (Heap.lt_size ho) (Nat.lt_irrefl _)
      · obtain ⟨o, ho⟩ := live₁₀ I (by simp)
        exact ⟨o, kk _ _ _ ho⟩
    · rintro h' tk' m' zs ⟨⟨to, hmo⟩, hΦ', hIl, hzl⟩ hacc' hn' hoff'
      refine ⟨h', tk', m', zs, rfl, hn', hacc', ⟨?_, by omega⟩, ?_⟩
      · rw [PP_step]
        exact ⟨hΦ'.1, fun a ha hb => hΦ'.2 a ha (by simp at hb ⊢; rcases hb with q | q | q <;> simp [q])⟩
      · intro b o h1 h2 e
        have e7 := hs₇.extBut b o h1 e
        exact hoff' b o (by simpa using ⟨h1, h2, neI' ⟨o, e7⟩⟩) (hk₈ b o e7)
  rintro h₆ tk₆ m₆ ps ⟨hps, hpl⟩ hacc₆ hn₆ hoff₆
  have base₆ : ∀ b o, h₃.get? b = some o → h₆.get? b = some o := fun b o e => hoff₆ b o (by simpa using bad1 b o e) (base₅ b o e)
  have S₆ := S₃.ext base₆
  obtain ⟨oL, esL, epL, hoL, hdL⟩ := id S₃.ns
  have hLC := (bad1 _ _ hoL).1
  have hLD := (bad1 _ _ hoL).2.1
  refine hfin _ (wpAny_storeName_local rfl S₆.ns (fun h₇ hn₇ hs₇ => ⟨m₆, hn₆.sameBut hs₇ (Ne.symm hLC), fun h₈ hs₈ => ?_⟩) rfl)
  have off₈ : Off [s.heap.objs.size, C] h₆ h₈ := fun b o hb e => hs₈.extBut b o (fun q => hb (by rw [q]; simp)) (hs₇.extBut b o (fun q => hb (by rw [q]; exact List.mem_cons_self)) e)
  have hpr₈ : PairsL h₈ D (PP n) := ⟨ps, hacc₆.isList.at fun o e => off₈ D o (by simp; exact ⟨Ne.symm hLD, hDC⟩) e, pairVals_offX (X := [s.heap.objs.size, C]) (fun b hb => by
    simp at hb
    rcases hb with rfl | rfl
    · exact ns_noseq S₆.ns
    · exact ns_noseq hn₆) off₈ hps.1⟩
  have S₈ := S₃.setLk Gt Gb C0 (hn₇.sameBut hs₈ hLC) fun b o nb e => off₈ b o (by simp; exact ⟨nb, (bad1 b o e).1⟩) (base₆ b o e)
  clear hfin hps hacc₆ hn₆ hoff₆ hs₇ hs₈ hn₇ off₈ base₆ S₆ S₃ base₅ bad1 hLC hLD hC0 hD0 hDC hID hIC hIlt hk₅ hnC hacc hz hC hD hit hI hk₄ hoL hdL
  dsimp only
  -- figures
  obtain ⟨m₈, tn, T₈, mpr, msc⟩ : ∃ m₈ tn, LS w mg mb (hideAll s.heap [44, 51]) s.heap.objs.size h₈ m₈ (some (.int (n : Nat) tn)) none none none none ∧ m₈ (Str.ofString "pairs") = some (.ref D) ∧ m₈ (Str.ofString "script") = some (.ref script) := ⟨_, _, S₈, rfl, rfl⟩
  clear S₈
  have hPlen : (PP n).length ≤ 15 := PP_length hn6
  refine Exists.elim (figure_of ns.sum hPlen) fun a hfa => ?_
  have ha := hfa.1
  have ha0 := hfa.2.1
  have ha15 := hfa.2.2
  refine wpAny_execs_cons (wpAny_Assign_Name (wpAny_BinOp (Call_Name2 (name_top T₈.top rfl rfl rfl rfl (by decide) ?_) rfl)))
  refine callWith_top ⟨_, _, _, _, rfl⟩ (Calls.evalArgs_plain (Calls.spliced_cons (wpAny_BinOp ?_)))
  refine Call_Name1 (name_builtin T₈.top rfl rfl rfl rfl rfl boot_abs (by decide) (by decide) ?_) rfl
  refine callWith_builtin rfl (Calls.evalArgs_plain (Calls.spliced_cons ?_))
  refine Call_Name1 (name_builtin T₈.top rfl rfl rfl rfl rfl boot_sum (by decide) (by decide) ?_) rfl
  refine callWith_builtin rfl (Calls.evalArgs_plain (Calls.spliced_cons (wpAny_Name (wpAny_loadName_local rfl rfl T₈.ns msc (Calls.spliced_nil ?_)))))
  refine sum_ints r1.1 (hlG.at fun o e => T₈.keep _ o e) hi fun h₉ tk₉ t₉ hk₉ => ?_
  have T₉ := T₈.ext hk₉
  have hpr₉ := hpr₈.ext hk₉
  obtain ⟨pv, hpl, hpv⟩ := id hpr₉
  have hpvl : pv.length = (PP n).length := hpv.length
  refine Calls.spliced_nil (call_abs_int fun u₉ tk₉' => ?_)
  refine wpAny_BinOp (wpAny_Constant_int ?_)
  refine Call_Name1 (name_builtin T₉.top rfl rfl rfl rfl rfl boot_len (by decide) (by decide) ?_) rfl
  refine callWith_builtin rfl (Calls.evalArgs_plain (Calls.spliced_cons (wpAny_Name (wpAny_loadName_local rfl rfl T₉.ns mpr (Calls.spliced_nil ?_)))))
  refine len_list hpl hpvl (by omega) fun t₁₀ tk₁₀ => ?_
  refine pow_nat (by omega) (mod_to (Int.ne_of_gt (Int.pow_pos (by decide))) ha ?_)
  refine Calls.spliced_cons (wpAny_Constant_int (Calls.spliced_nil ⟨T₉.top.X, ?_⟩))
  refine wpAny_call (int2digits_code (n := 1) (K := Builtin.Int.intBits a) (r1.down (by decide)) T₉.top T₉.bm T₉.t44 ha0 (Int.lt_trans ha15 (by decide)) (by decide) (by decide) (kOne _) (bits15 ha0 ha15).2 (Nat.le_succ_of_le (bits15 ha0 ha15).1) ?_)
  intro F₁ h₁₀ tk₁₀ fv hk₁₀ ht₁₀ hF₁ hF₁0 hfv
  have off₁₀ : Off (XS s.heap.objs.size) h₉ h₁₀ := offT fun b o n4 _ e => hk₁₀ b o n4 e
  have T₁₀ := T₉.tabs Gt Gb C0 ht₁₀ (tab_tab T₉.t51 T₉.t44 (by decide) hk₁₀) (fun b o n4 _ e => hk₁₀ b o n4 e)
  have hpr₁₀ := pairs_offX T₉.noSeq off₁₀ hpr₉
  clear hpr₈ hpr₉ T₉ T₈ hk₁₀ off₁₀ hk₉ hpl hpv hpvl
  refine wpAny_BinOp (List_ (args_cons (wpAny_Constant_int (args_nil (wpAny_newObj_type ?_)))))
  refine wpAny_Constant_int (mul_one (k := 15) (Heap.get?_push_size h₁₀ (o := { cls := .type "list", data := .seq #[.int 0 tk₁₀] }) rfl) (by decide) fun h₁₁ hk₁₁ hz₁₁ => ?_)
  have k₁₁ : ∀ b o, h₁₀.get? b = some o → h₁₁.get? b = some o := fun b o e => hk₁₁ b o (Heap.get?_push_of_some _ e)
  refine Exists.elim (fig_exists ha0 ha15 hfv) fun fs hfs => ?_
  have hfl := hfs.2
  have hfw := hfs.1
  clear hfs hfv
  refine add_lists (hF₁.at fun o e => k₁₁ _ o e) hz₁₁.isList (by rw [hfw.length, List.length_replicate, sizeLine_eq]; omega) ?_
  have k₁₂ : ∀ (x : Obj) b o, h₁₀.get? b = some o → (h₁₁.push x).get? b = some o := fun x b o e => Heap.get?_push_of_some _ (k₁₁ b o e)
  dsimp only
  obtain ⟨F, hF⟩ : ∃ F, F = h₁₁.objs.size := ⟨_, rfl⟩
  have hFl := new_list h₁₁ (fv ++ List.replicate 15 (Value.int 0 tk₁₀)).toArray
  rw [← hF] at hFl ⊢
  have hfi : IntsAre (fv ++ List.replicate 15 (Value.int 0 tk₁₀)) (fs ++ List.replicate 15 0) := hfw.append (ints_replicate 0 _ 15)
  have hfl2 : 15 ≤ (fs ++ List.replicate 15 (0 : Int)).length := by rw [List.length_append, List.length_replicate]; omega
  have T₁₂ := T₁₀.ext (k₁₂ { cls := .type "list", data := .seq (fv ++ List.replicate 15 (Value.int 0 tk₁₀)).toArray })
  have hpr₁₂ := hpr₁₀.ext (k₁₂ { cls := .type "list", data := .seq (fv ++ List.replicate 15 (Value.int 0 tk₁₀)).toArray })
  generalize h₁₁.push { cls := .type "list", data := .seq (fv ++ List.replicate 15 (Value.int 0 tk₁₀)).toArray } = h₁₂ at hFl T₁₂ hpr₁₂ ⊢
  generalize fv ++ List.replicate 15 (Value.int 0 tk₁₀) = fw at hFl hfi
  generalize fs ++ List.replicate 15 (0 : Int) = fz at hfi hfl2
  clear hF k₁₂ hfl hfw hz₁₁ k₁₁ hk₁₁ T₁₀ hpr₁₀ hF₁ hF₁0 ht₁₀
  refine wpAny_storeName_cell rfl rfl rfl T₁₂.c2 fun h₁₃ hc₁₃ hs₁₃ => ?_
  have T₁₃ := T₁₂.set2 Gt Gb C0 hc₁₃ hs₁₃
  have off₁₃ : Off (XS s.heap.objs.size) h₁₂ h₁₃ := offC (j := 2) (by simp [XS]) hs₁₃
  have hFl₁₃ := list_offX T₁₂.noSeq off₁₃ hFl
  have hpr₁₃ := pairs_offX T₁₂.noSeq off₁₃ hpr₁₂
  clear hpr₁₂ hFl off₁₃ hs₁₃ hc₁₃ T₁₂
  dsimp only
  -- ties
  obtain ⟨pv, hpl, hpv⟩ := id hpr₁₃
  have hpvl : pv.length = (PP n).length := hpv.length
  refine wpAny_execs_cons (wpAny_Assign_Name (comp_eval (cl := [(Str.ofString "figures", s.heap.objs.size + 2)]) rfl (by decide) rfl (by decide) (by intro _; rfl) ?_))
  refine Call_Name1 (name_builtin T₁₃.top rfl rfl rfl rfl rfl boot_enumerate (by decide) (by decide) ?_) rfl
  refine PySem.callWith_type rfl (Calls.evalArgs_plain (Calls.spliced_cons (wpAny_Name (wpAny_loadName_local rfl rfl T₁₃.ns mpr (Calls.spliced_nil ?_)))))
  refine comp_enum rfl r1.1 hpl (by rw [sizeLine_eq]; omega) (fun _ i ys _ => ys = pick (pv.take i) fz) (fun _ _ _ _ _ p _ => p) (fun _ _ => by simp [pick]) ?_ ?_
  · intro C I J D' i T t x ys m s₄ E hi hx hT hΦ hns₄ hlive₄ base₄ hall
    refine assign_two r1.1 rfl rfl rfl hns₄ hT fun h₅ tk₅ hn₅ hk₅ => ?_
    have base₅ : ∀ b o, h₁₃.get? b = some o → h₅.get? b = some o := fun b o e => hk₅ b o (ne_of_live e (hall C List.mem_cons_self)) (base₄ b o e)
    have mk : (fun z => if z = Str.ofString "pair" then some x else if z = Str.ofString "k" then some (Value.int (i : Nat) t) else m z) (Str.ofString "k") = some (.int (i : Nat) t) := (if_neg (by decide)).trans (if_pos rfl)
    have mp : (fun z => if z = Str.ofString "pair" then some x else if z = Str.ofString "k" then some (Value.int (i : Nat) t) else m z) (Str.ofString "pair") = some x := if_pos rfl
    refine ⟨_, ⟨h₅, _, rfl, hn₅, hk₅⟩, wpAny_tests_one (wpAny_isTrue_Compare1 (wpAny_Subscript_Name slot_list_getitem.lookup ?_))⟩
    have hFl₅ := hFl₁₃.at fun o e => base₅ _ o e
    have hif : i < fz.length := by omega
    refine Exists.elim (getD_at hfi hif) fun tf hv => ?_
    refine wpAny_Name (wpAny_loadName_cell rfl rfl rfl (T₁₃.c2.keeps base₅) (wpAny_Name (wpAny_loadName_local rfl rfl hn₅ mk ?_)))
    refine ⟨hFl₅.typeIs, wpAny_getItem_list hFl₅ (by omega) (by omega) (by rw [Int.toNat_natCast, List.getElem?_toArray]; exact hv) ?_⟩
    refine wpAny_Constant_int (PyProof.Rows.eq_int (wpAny_truthy_bool ⟨⟨_, _, rfl, fun b o e => e⟩, ?_⟩))
    have hfz : fz[i]? = some (fz.getD i 0) := by rw [List.getElem?_eq_getElem hif, List.getD_eq_getElem?_getD, List.getElem?_eq_getElem hif]; rfl
    have hstep := pick_snoc pv fz i x _ hx hfz
    by_cases hone : fz.getD i 0 = 1
    · rw [if_pos (beq_iff_eq.mpr hone)]
      rw [if_pos hone] at hstep
      refine wpAny_Name (wpAny_loadName_local rfl rfl hn₅ mp ⟨keepsRefl _, ?_⟩)
      rw [hstep, hΦ]
    · rw [if_neg (by simpa using hone)]
      rw [if_neg hone, List.append_nil] at hstep
      rw [hstep, hΦ]
  intro C I J D' h₁₄ tk₁₄ m₁₄ ys r₂ hΦ hacc₁₄ hn₁₄ base₁₄ hD0 hC0 hDC hfin
  refine hfin m₁₄ hn₁₄ fun h₁₅ hs₁₅ => ?_
  have base₁₅ : ∀ b o, h₁₃.get? b = some o → h₁₅.get? b = some o := fun b o e => hs₁₅.extBut b o (ne_of_live e hC0) (base₁₄ b o e)
  have T₁₅ := T₁₃.ext base₁₅
  have hty : ys = pick pv fz := by rw [hΦ, List.take_length]
  have hti₁₅ : PairsL h₁₅ I (pick (PP n) fz) := ⟨ys, hacc₁₄.isList.at fun o e => hs₁₅.extBut I o hDC e, hty ▸ (pick_pairs fz hpv).ext base₁₅⟩
  have hpr₁₅ := hpr₁₃.ext base₁₅
  have hsub := pick_sub (PP n) fz
  generalize pick (PP n) fz = Ts at hti₁₅ hsub
  have hTl : Ts.length ≤ 15 := Nat.le_trans hsub.length_le hPlen
  have hTg : Good Ts n := good_sub hsub
  clear hfin hΦ hacc₁₄ hn₁₄ base₁₄ hD0 hC0 hDC hs₁₅ hty base₁₅ hpr₁₃ hFl₁₃ hpl hpv hpvl hfi hfl2 T₁₃ hsub
  dsimp only
  refine wpAny_storeName_cell rfl rfl rfl T₁₅.c3 fun h₁₆ hc₁₆ hs₁₆ => ?_
  have T₁₆ := T₁₅.set3 Gt Gb C0 hc₁₆ hs₁₆
  have off₁₆ : Off (XS s.heap.objs.size) h₁₅ h₁₆ := offC (j := 3) (by simp [XS]) hs₁₆
  have hti₁₆ := pairs_offX T₁₅.noSeq off₁₆ hti₁₅
  have hpr₁₆ := pairs_offX T₁₅.noSeq off₁₆ hpr₁₅
  clear T₁₅ hti₁₅ hpr₁₅ off₁₆ hc₁₆ hs₁₆
  dsimp only
  -- most, counts
  refine Exists.elim (divOK_n hn2 hn6) fun Kd hDiv => ?_
  refine wpAny_execs_cons (Assign_Tuple (Tuple_ (Calls.spliced_cons (Subscript_ (Call_Name2 (name_top T₁₆.top rfl rfl rfl rfl (by decide) ?_) rfl)))))
  refine callWith_top ⟨_, _, _, _, rfl⟩ (Calls.evalArgs_plain (Calls.spliced_cons (wpAny_BinOp ?_)))
  refine wpAny_Name (wpAny_loadName_cell rfl rfl rfl T₁₆.c1 (wpAny_Name (wpAny_loadName_cell rfl rfl rfl T₁₆.c1 (mul_to (by omega) rfl ?_))))
  refine Calls.spliced_cons (wpAny_Constant_int (Calls.spliced_nil ⟨T₁₆.top.X, ?_⟩))
  refine wpAny_call (int_divmod_code (K := Kd) (r1.down (by decide)) T₁₆.top T₁₆.bm T₁₆.t44 T₁₆.t51 hDiv ?_)
  intro T1 h₁₇ tk₁₇ z hk₁₇ h44 h51 hp₁₇
  have T₁₇ := T₁₆.tabs Gt Gb C0 h44 h51 hk₁₇
  have hti₁₇ := pairs_offX T₁₆.noSeq (offT hk₁₇) hti₁₆
  have hpr₁₇ := pairs_offX T₁₆.noSeq (offT hk₁₇) hpr₁₆
  clear T₁₆ hti₁₆ hpr₁₆ hk₁₇ h44 h51
  refine wpAny_Constant_int (item_zero hp₁₇ (fun tm => ?_) (by intro _; with_unfolding_all rfl))
  refine Calls.spliced_cons (Call_Name2 (name_top T₁₇.top rfl rfl rfl rfl (by decide) ?_) rfl)
  refine callWith_top ⟨_, _, _, _, rfl⟩ (Calls.evalArgs_plain (Calls.spliced_cons (wpAny_Name (wpAny_loadName_cell rfl rfl rfl T₁₇.c3 ?_))))
  refine Calls.spliced_cons (wpAny_Name (wpAny_loadName_cell rfl rfl rfl T₁₇.c1 (Calls.spliced_nil ⟨T₁₇.top.X, ?_⟩)))
  refine wpAny_call (counts_code (r1.down (by decide)) T₁₇.top hti₁₇ hTg (by omega) (by omega) ?_)
  intro D₃ h₁₈ tk₁₈ cv hk₁₈ hD₃ hcv
  refine Calls.spliced_nil (wpAny_newTuple ?_)
  have kp : ∀ (x : Obj) b o, h₁₈.get? b = some o → (h₁₈.push x).get? b = some o := fun x b o e => Heap.get?_push_of_some _ e
  have T₁₈ := (T₁₇.ext hk₁₈).ext (kp { cls := .type "tuple", data := .seq [Value.int (((n : Int) * (n : Int)).fdiv 4) tm, Value.ref D₃].toArray })
  have hti₁₈ := (hti₁₇.ext hk₁₈).ext (kp { cls := .type "tuple", data := .seq [Value.int (((n : Int) * (n : Int)).fdiv 4) tm, Value.ref D₃].toArray })
  have hpr₁₈ := (hpr₁₇.ext hk₁₈).ext (kp { cls := .type "tuple", data := .seq [Value.int (((n : Int) * (n : Int)).fdiv 4) tm, Value.ref D₃].toArray })
  have hco₁₈ := hD₃.isList.at fun o e => kp { cls := .type "tuple", data := .seq [Value.int (((n : Int) * (n : Int)).fdiv 4) tm, Value.ref D₃].toArray } _ o e
  refine assign_lc r1.1 rfl rfl rfl rfl T₁₈.ns T₁₈.c4 (adj (j := 4) (k := 0) (by decide)) ⟨_, Heap.get?_push_size h₁₈ (o := { cls := .type "tuple", data := .seq [Value.int (((n : Int) * (n : Int)).fdiv 4) tm, Value.ref D₃].toArray }) rfl, rfl, _, rfl⟩ fun ha₁ ha₂ ha₃ tk₁₉ kA hnA hsA hcA hsB => ?_
  have T₁₉ := ((T₁₈.ext kA).setL Gt Gb C0 hnA hsA).set4 Gt Gb C0 hcA hsB
  have N₁ := (T₁₈.ext kA).noSeq
  have N₂ := ((T₁₈.ext kA).setL Gt Gb C0 hnA hsA).noSeq
  have oA := offL (L := s.heap.objs.size) hsA
  have oB : Off (XS s.heap.objs.size) ha₂ ha₃ := offC (j := 4) (by simp [XS]) hsB
  have hti₁₉ := pairs_offX N₂ oB (pairs_offX N₁ oA (hti₁₈.ext kA))
  have hpr₁₉ := pairs_offX N₂ oB (pairs_offX N₁ oA (hpr₁₈.ext kA))
  have hco₁₉ := list_offX N₂ oB (list_offX N₁ oA (hco₁₈.at fun o e => kA _ o e))
  clear T₁₈ hti₁₈ hpr₁₈ hco₁₈ N₁ N₂ oA oB hcA hsB hnA hsA kA kp hD₃ hk₁₈ T₁₇ hti₁₇ hpr₁₇ hp₁₇
  dsimp only
  refine Exists.elim (show ∃ m', LS w mg mb (hideAll s.heap [44, 51]) s.heap.objs.size ha₃ m' (some (.int (n : Nat) tn)) (some (.ref F)) (some (.ref I)) (some (.ref D₃)) none ∧ m' (Str.ofString "most") = some (.int (((n : Int) * (n : Int)).fdiv 4) tm) ∧ m' (Str.ofString "pairs") = some (.ref D) from ⟨_, T₁₉, if_pos rfl, (if_neg (by decide)).trans mpr⟩) fun m₂₀ hm₂₀ => ?_
  have U := hm₂₀.1
  have mmo := hm₂₀.2.1
  have mpr' := hm₂₀.2.2
  clear hm₂₀ T₁₉ mpr msc
  have hu : (Around.deeper A (callEnvC (fnOf (Str.ofString "law") (Str.ofString "law") default [] default .none .none .none .none none .none .none) 0 0)).units + 64 < cLine := by have := r1.2.2; omega
  have hu1 : (Around.deeper A (callEnvC (fnOf (Str.ofString "law") (Str.ofString "law") default [] default .none .none .none .none none .none .none) 0 0)).units + 1 < cLine := by have := r1.2.2; omega
  -- the counts' sum, and the counts counted the other way
  refine wpAny_execs_cons (wpAny_If (isTrue_or (wpAny_isTrue_Compare1 (Call_Name1 (name_builtin U.top rfl rfl rfl rfl rfl boot_sum (by decide) (by decide) ?_) rfl))))
  refine callWith_builtin rfl (Calls.evalArgs_plain (Calls.spliced_cons (wpAny_Name (wpAny_loadName_cell rfl rfl rfl U.c4 (Calls.spliced_nil ?_)))))
  refine sum_ints r1.1 hco₁₉ hcv fun h₂₁ tk₂₁ t₂₁ hk₂₁ => ?_
  have U₁ := U.ext hk₂₁
  have hco₁ := hco₁₉.at fun o e => hk₂₁ _ o e
  have hti₁ := hti₁₉.ext hk₂₁
  have hpr₁ := hpr₁₉.ext hk₂₁
  clear U hco₁₉ hti₁₉ hpr₁₉ hk₂₁
  refine Exists.elim hti₁ fun tv htv => ?_
  have htvl : tv.length = Ts.length := htv.2.length
  refine wpAny_BinOp (wpAny_Constant_int (Call_Name1 (name_builtin U₁.top rfl rfl rfl rfl rfl boot_len (by decide) (by decide) ?_) rfl))
  refine callWith_builtin rfl (Calls.evalArgs_plain (Calls.spliced_cons (wpAny_Name (wpAny_loadName_cell rfl rfl rfl U₁.c3 (Calls.spliced_nil ?_)))))
  refine len_list htv.1 htvl (by omega) fun t₂₂ tk₂₂ => ?_
  refine mul_to (by decide) rfl (ne_same (cs_sum hTg) (wpAny_truthy_bool ?_))
  simp only [Bool.false_eq_true, if_false]
  refine isTrue_or (wpAny_isTrue_Compare1 (wpAny_Name (wpAny_loadName_cell rfl rfl rfl U₁.c4 ?_)))
  refine comp_range_cell (cl := [(Str.ofString "ties", s.heap.objs.size + 3)]) rfl (by intro _; rfl) (by intro _; rfl) rfl (by decide) (by intro _; rfl) rfl r1.1 ?_
  refine iter_range1 U₁.top rfl rfl rfl rfl (n := n) (by omega) rfl (fun Q' q => wpAny_Name (wpAny_loadName_cell rfl rfl rfl U₁.c1 (q _))) ?_
  intro h₂₃ tk₂₃ J hk₂₃ hJ hit₂₃
  refine ⟨n, J, fun i ys => IntsAre ys ((List.range i).map fun i => ((nb Ts (i : Nat)).length : Int)), rfl, hit₂₃, by rw [sizeLine_eq]; omega, .nil, ?_, ?_⟩
  · intro C i ys t s₄ E hi hΦ hc₄ hns₄ base₄
    have k₄ : ∀ b o, h₂₁.get? b = some o → s₄.heap.get? b = some o := fun b o e => base₄ b o (ne_of_live e hJ) (hk₂₃ b o e)
    have U₄ := U₁.ext k₄
    refine Call_Name1 (name_builtin U₄.top rfl rfl rfl rfl rfl boot_len (by decide) (by decide) ?_) rfl
    refine callWith_builtin rfl (Calls.evalArgs_plain (Calls.spliced_cons ?_))
    refine comp_eval (cl := [(Str.ofString "point", C + 1)]) rfl (by decide) rfl (by decide) (by intro _; rfl) ?_
    refine wpAny_Name (wpAny_loadName_cell rfl rfl rfl U₄.c3 (comp_list r1.1 (htv.1.at fun o e => k₄ _ o e) (by rw [sizeLine_eq]; omega) (fun _ k ys _ => ys.length = ((Ts.take k).filter fun p => p.1 == (i : Int) || p.2 == (i : Int)).length) (fun _ _ _ _ _ p _ => p) (fun _ _ => by simp) ?_ ?_))
    · intro C' D' I' k v zs m s₅ E' hk hv hΦ₅ hns₅ hlive₅ base₅ hall
      refine Exists.elim (htv.2.get hv) fun p hp => ?_
      refine wpAny_assign_Name (wpAny_storeName_local rfl hns₅ (fun h₆ hn₆ hs₆ => ?_) rfl)
      have k₆ : ∀ b o, s₄.heap.get? b = some o → h₆.get? b = some o := fun b o e => hs₆.extBut b o (ne_of_live e (hall C' List.mem_cons_self)) (base₅ b o e)
      refine ⟨_, ⟨h₆, _, rfl, hn₆, fun b o hb e => hs₆.extBut b o hb e⟩, wpAny_tests_one (wpAny_isTrue_Compare1 ?_)⟩
      refine wpAny_Name (wpAny_loadName_cell rfl rfl rfl (hc₄.keeps k₆) (wpAny_Name (wpAny_loadName_local rfl rfl hn₆ (if_pos rfl) ?_)))
      refine in_pair (pairOf_ext hp.2 fun b o e => k₆ b o (k₄ b o e)) (wpAny_truthy_bool ⟨⟨_, _, rfl, fun b o e => e⟩, ?_⟩)
      have hst := take_filter (fun p => p.1 == (i : Int) || p.2 == (i : Int)) hp.1
      cases hb : (p.1 == (i : Int) || p.2 == (i : Int)) with
      | true =>
        rw [if_pos rfl]
        rw [hb, if_pos rfl] at hst
        refine wpAny_Name (wpAny_loadName_local rfl rfl hn₆ (if_pos rfl) ⟨keepsRefl _, ?_⟩)
        rw [hst, List.length_append, List.length_singleton, hΦ₅]
      | false =>
        rw [if_neg (by decide)]
        rw [hb, if_neg (by decide)] at hst
        exact hΦ₅.trans hst.symm
    · intro C' D' I' h₆ tk₆ m₆ zs r₆ hΦ₆ hacc₆ hn₆ base₆ hD0 hC0 hDC hfin
      refine hfin m₆ hn₆ fun h₇ hs₇ => ?_
      refine Calls.spliced_nil ?_
      have k₇ : ∀ b o, s₄.heap.get? b = some o → h₇.get? b = some o := fun b o e => hs₇.extBut b o (ne_of_live e hC0) (base₆ b o e)
      rw [htvl, List.take_length] at hΦ₆
      have hle : zs.length ≤ 15 := Nat.le_trans (Nat.le_of_eq hΦ₆) (Nat.le_trans (List.length_filter_le _ _) hTl)
      refine len_list (n := zs.length) (hacc₆.isList.at fun o e => hs₇.extBut _ o hDC e) rfl (by omega) fun t₇ tk₇ => ⟨⟨_, _, rfl, k₇⟩, ?_⟩
      dsimp only
      rw [List.range_succ, List.map_append, hΦ₆, ← nb_filter]
      exact hΦ.append (.cons _ _ .nil)
  intro D' h₂₄ tk₂₄ ys hΦ hacc₂₄ base₂₄
  have k₂₄ : ∀ b o, h₂₁.get? b = some o → h₂₄.get? b = some o := fun b o e => base₂₄ b o (ne_of_live e hJ) (hk₂₃ b o e)
  have U₂ := U₁.ext k₂₄
  have hco₂ := hco₁.at fun o e => k₂₄ _ o e
  have hti₂ := hti₁.ext k₂₄
  have hpr₂ := hpr₁.ext k₂₄
  refine ke_ne_ints hco₂ hacc₂₄.isList hcv hΦ hu ?_
  rw [decide_eq_true rfl]
  refine wpAny_truthy_bool ?_
  simp only [Bool.not_true, Bool.false_eq_true, if_false]
  refine isTrue_or_nil ?_
  simp only [Bool.false_eq_true, if_false]
  refine wpAny_execs_nil ?_
  clear U₁ hco₁ hti₁ hpr₁ k₂₄ base₂₄ hacc₂₄ hΦ htv
  have r2 : Room (Around.deeper A (callEnvC (fnOf (Str.ofString "law") (Str.ofString "law") default [] default .none .none .none .none none .none .none) 0 0)) 20 := r1.down (by decide)
  -- no more ties than most, or a triangle
  refine wpAny_execs_cons (wpAny_mono (Q := fun f s' => f = Flow.next ∧ ∃ h' tk', s' = { s with heap := h', toks := tk' } ∧ ∀ b o, h₂₄.get? b = some o → h'.get? b = some o) ?_ ?_ (fun _ _ e => e))
  · refine Exists.elim hti₂ fun tv₂ htv₂ => ?_
    refine wpAny_If (isTrue_and (wpAny_isTrue_Compare1 (Call_Name1 (name_builtin U₂.top rfl rfl rfl rfl rfl boot_len (by decide) (by decide) ?_) rfl)))
    refine callWith_builtin rfl (Calls.evalArgs_plain (Calls.spliced_cons (wpAny_Name (wpAny_loadName_cell rfl rfl rfl U₂.c3 (Calls.spliced_nil ?_)))))
    refine len_list htv₂.1 htv₂.2.length (by omega) fun t₂₅ tk₂₅ => ?_
    refine wpAny_Name (wpAny_loadName_local rfl rfl U₂.ns mmo (PyProof.Rows.gt_int (wpAny_truthy_bool ?_)))
    by_cases hm : ((n : Int) * (n : Int)).fdiv 4 < (Ts.length : Int)
    · rw [if_pos (decide_eq_true hm)]
      refine isTrue_and (threes_is r2 hu U₂.top rfl rfl rfl rfl rfl rfl rfl (by decide) U₂.c3 U₂.c1 hti₂ (by omega) fun h' tk' k' => ?_)
      have htri : hasTri Ts n = true := by
        cases e : hasTri Ts n with
        | true => rfl
        | false => exact absurd hm (Int.not_lt.mpr (mantel hn2 hTg e))
      rw [htri]
      simp only [Bool.not_true, Bool.false_eq_true, if_false]
      exact wpAny_execs_nil ⟨rfl, _, _, rfl, k'⟩
    · rw [if_neg (by simpa using hm)]
      simp only [Bool.false_eq_true, if_false]
      exact wpAny_execs_nil ⟨rfl, _, _, rfl, fun b o e => e⟩
  rintro f s' ⟨rfl, h₂₆, tk₂₆, rfl, k₂₆⟩
  have U₃ := U₂.ext k₂₆
  have hco₃ := hco₂.at fun o e => k₂₆ _ o e
  have hti₃ := hti₂.ext k₂₆
  have hpr₃ := hpr₂.ext k₂₆
  clear U₂ hco₂ hti₂ hpr₂ k₂₆
  dsimp only
  have hcv' : IntsAre cv (cs Ts n) := hcv
  clear hcv
  -- without a triangle: no edge too heavy, and the squares
  refine wpAny_execs_cons (wpAny_mono (Q := fun f s' => f = Flow.next ∧ ∃ h' tk', s' = { s with heap := h', toks := tk' } ∧ ∀ b o, h₂₆.get? b = some o → h'.get? b = some o) ?_ ?_ (fun _ _ e => e))
  · refine wpAny_If (threes_is r2 hu U₃.top rfl rfl rfl rfl rfl rfl rfl (by decide) U₃.c3 U₃.c1 hti₃ (by omega) fun h₂₇ tk₂₇ k₂₇ => ?_)
    have U₄ := U₃.ext k₂₇
    have hco₄ := hco₃.at fun o e => k₂₇ _ o e
    have hti₄ := hti₃.ext k₂₇
    cases htri : hasTri Ts n with
    | true =>
      simp only [Bool.not_true, Bool.false_eq_true, if_false]
      exact wpAny_execs_nil ⟨rfl, _, _, rfl, k₂₇⟩
    | false =>
      simp only [Bool.not_false, if_true]
      refine Exists.elim hti₄ fun tv₄ htv₄ => ?_
      refine wpAny_execs_cons (wpAny_If (wpAny_isTrue_Compare1 (comp_eval (cl := [(Str.ofString "many", s.heap.objs.size + 1), (Str.ofString "counts", s.heap.objs.size + 4)]) rfl (by decide) rfl (by decide) (by intro _; rfl) ?_)))
      refine wpAny_Name (wpAny_loadName_cell rfl rfl rfl U₄.c3 (comp_list r1.1 htv₄.1 (by rw [sizeLine_eq, htv₄.2.length]; omega) (fun _ _ ys _ => ys = []) (fun _ _ _ _ _ p _ => p) (fun _ _ => rfl) ?_ ?_))
      · intro C D' I' k v zs m s₅ E' hk hv hΦ hns₅ hlive₅ base₅ hall
        refine Exists.elim (htv₄.2.get hv) fun p hp => ?_
        refine wpAny_assign_Name (wpAny_storeName_local rfl hns₅ (fun h₆ hn₆ hs₆ => ?_) rfl)
        have k₆ : ∀ b o, h₂₇.get? b = some o → h₆.get? b = some o := fun b o e => hs₆.extBut b o (ne_of_live e (hall C List.mem_cons_self)) (base₅ b o e)
        have U₆ := U₄.ext k₆
        have hpp := pairOf_ext hp.2 k₆
        have hco₆ := hco₄.at fun o e => k₆ _ o e
        have hbd := hTg.2 p (List.mem_of_getElem? hp.1)
        refine ⟨_, ⟨h₆, _, rfl, hn₆, fun b o hb e => hs₆.extBut b o hb e⟩, wpAny_tests_one (wpAny_isTrue_Compare1 (wpAny_BinOp (Subscript_ ?_)))⟩
        refine wpAny_Name (wpAny_loadName_cell rfl rfl rfl U₆.c4 (Subscript_ (wpAny_Name (wpAny_loadName_local rfl rfl hn₆ (if_pos rfl) (wpAny_Constant_int ?_)))))
        refine item_zero hpp (fun t₇ => ?_) (by intro _; with_unfolding_all rfl)
        refine item_list_ints hco₆ hcv' hbd.1 (by rw [cs_length]; omega) (by omega) fun t₈ => ?_
        refine Subscript_ (wpAny_Name (wpAny_loadName_cell rfl rfl rfl U₆.c4 (Subscript_ (wpAny_Name (wpAny_loadName_local rfl rfl hn₆ (if_pos rfl) (wpAny_Constant_int ?_))))))
        refine item_pair (k := 1) hpp (by decide) (fun t₉ => ?_) (by intro _; with_unfolding_all rfl) (by intro _ _; with_unfolding_all rfl)
        refine item_list_ints hco₆ hcv' (k := p.2) (by omega) (by rw [cs_length]; omega) (by omega) fun t₁₀ => add_int ?_
        refine wpAny_Name (wpAny_loadName_cell rfl rfl rfl U₆.c1 (gt_not ?_ (wpAny_truthy_bool ⟨⟨_, _, rfl, fun b o e => e⟩, ?_⟩)))
        · rw [cs_getD hbd.1 (by omega), cs_getD (by omega) hbd.2.2]
          exact Int.not_lt.mpr (edge_sum hTg htri (List.mem_of_getElem? hp.1))
        · rw [if_neg (by decide)]; exact hΦ
      intro C D' I' h₂₈ tk₂₈ m₂₈ zs r₂₈ hΦ hacc hn₂₈ base₂₈ hD0 hC0 hDC hfin
      refine hfin m₂₈ hn₂₈ fun h₂₉ hs₂₉ => ?_
      have k₂₉ : ∀ b o, h₂₇.get? b = some o → h₂₉.get? b = some o := fun b o e => hs₂₉.extBut b o (ne_of_live e hC0) (base₂₈ b o e)
      subst hΦ
      have hL₂₉ : h₂₉.IsList D' ([] : List Value).toArray := hacc.isList.at fun o e => hs₂₉.extBut D' o hDC e
      refine List_ (args_nil (wpAny_newObj_type ?_))
      have k₃₀ : ∀ b o, h₂₉.get? b = some o → (h₂₉.push { cls := .type "list", data := .seq ([] : List Value).toArray }).get? b = some o := fun b o e => Heap.get?_push_of_some _ e
      refine ne_nil (hL₂₉.at fun o e => k₃₀ _ o e) (new_list h₂₉ _) hu (wpAny_truthy_bool ?_)
      simp only [Bool.false_eq_true, if_false]
      refine wpAny_execs_nil ?_
      have U₅ := U₄.ext fun b o e => k₃₀ b o (k₂₉ b o e)
      have hco₅ := hco₄.at fun o e => k₃₀ _ o (k₂₉ _ o e)
      have htv₅ := htv₄.1.at fun o e => k₃₀ _ o (k₂₉ _ o e)
      -- the squares
      refine wpAny_execs_cons (wpAny_If (wpAny_isTrue_Compare1 (sum_sq r1.1 U₅.top rfl rfl rfl rfl rfl (by decide) rfl (by decide) (by intro _; rfl) rfl (wpAny_Name (wpAny_loadName_cell rfl rfl rfl U₅.c4 ?_)))))
      refine ⟨_, _, cs Ts n, rfl, hco₅, hcv', by rw [cs_length]; omega, cs_small (by omega), fun h₃₁ tk₃₁ t₃₁ k₃₁ => ?_⟩
      have U₆ := U₅.ext k₃₁
      refine wpAny_BinOp (wpAny_Name (wpAny_loadName_cell rfl rfl rfl U₆.c1 (Call_Name1 (name_builtin U₆.top rfl rfl rfl rfl rfl boot_len (by decide) (by decide) ?_) rfl)))
      refine callWith_builtin rfl (Calls.evalArgs_plain (Calls.spliced_cons (wpAny_Name (wpAny_loadName_cell rfl rfl rfl U₆.c3 (Calls.spliced_nil ?_)))))
      refine len_list (htv₅.at fun o e => k₃₁ _ o e) htv₄.2.length (by omega) fun t₃₂ tk₃₂ => ?_
      refine mul_to (by omega) rfl (gt_not (Int.not_lt.mpr (sq_sum hTg htri)) (wpAny_truthy_bool ?_))
      simp only [Bool.false_eq_true, if_false]
      exact wpAny_execs_nil (wpAny_execs_nil ⟨rfl, _, _, rfl, fun b o e => k₃₁ b o (k₃₀ b o (k₂₉ b o (k₂₇ b o e)))⟩)
  rintro f s' ⟨rfl, h₃₃, tk₃₃, rfl, k₃₃⟩
  have V := U₃.ext k₃₃
  have hprV := hpr₃.ext k₃₃
  clear U₃ hco₃ hti₃ hpr₃ k₃₃ hcv' hTg hTl
  dsimp only
  -- even
  refine Exists.elim hprV fun pw hpw => ?_
  have hpwl : pw.length = (PP n).length := hpw.2.length
  refine wpAny_execs_cons (wpAny_Assign_Name (comp_eval (cl := []) rfl (by decide) rfl (by decide) (by intro _; rfl) ?_))
  refine wpAny_Name (wpAny_loadName_local rfl rfl V.ns mpr' (comp_list r1.1 hpw.1 (by rw [sizeLine_eq]; omega) (fun bad i ys h => PV bad (((PP n).take i).filter fun p => (p.1 + p.2).fmod 2 == 1) ys h) (fun bad i ys h h' p o => p.off (fun a ha => ha) o) (fun bad h => ⟨by simp [PairVals], fun a ha => by simp at ha⟩) ?_ ?_))
  · intro C D' I' k v zs m s₄ E hk hv hΦ hns₄ hlive₄ base₄ hall
    refine Exists.elim (hpw.2.get hv) fun p hp => ?_
    refine assign_pair r1.1 rfl rfl rfl hns₄ (pairOf_ext hp.2 base₄) fun h₅ tk₅ ta tb hn₅ hk₅ => ?_
    have m1 : (fun z => if z = Str.ofString "other" then some (Value.int p.2 tb) else if z = Str.ofString "one" then some (Value.int p.1 ta) else m z) (Str.ofString "one") = some (.int p.1 ta) := (if_neg (by decide)).trans (if_pos rfl)
    have m2 : (fun z => if z = Str.ofString "other" then some (Value.int p.2 tb) else if z = Str.ofString "one" then some (Value.int p.1 ta) else m z) (Str.ofString "other") = some (.int p.2 tb) := if_pos rfl
    have hΦ₅ : PV [C, D', I'] (((PP n).take k).filter fun p => (p.1 + p.2).fmod 2 == 1) zs h₅ := hΦ.off (bad' := [C]) (by simp) fun b o hb e => hk₅ b o (fun q => hb (by rw [q]; exact List.mem_singleton_self _)) e
    have live₅ : ∀ b ∈ [C, D', I'], ∃ o, h₅.get? b = some o := fun b hb => by
      by_cases q : b = C
      · rw [q]; obtain ⟨o', _, _, ho', _⟩ := hn₅; exact ⟨o', ho'⟩
      · obtain ⟨o, ho⟩ := hlive₄ b hb; exact ⟨o, hk₅ b o q ho⟩
    have hst := filter_step (fun p : Int × Int => (p.1 + p.2).fmod 2 == 1) hp.1
    refine ⟨_, ⟨h₅, _, rfl, hn₅, hk₅⟩, wpAny_tests_one (wpAny_isTrue_Compare1 (wpAny_BinOp (wpAny_BinOp (wpAny_Name (wpAny_loadName_local rfl rfl hn₅ m1 ?_)))))⟩
    refine wpAny_Name (wpAny_loadName_local rfl rfl hn₅ m2 (add_int (wpAny_Constant_int (PyProof.Rows.mod_int (by decide) ?_))))
    refine wpAny_Constant_int (PyProof.Rows.eq_int (wpAny_truthy_bool ⟨⟨_, _, rfl, fun b o e => e⟩, ?_⟩))
    cases hb : ((p.1 + p.2).fmod 2 == 1) with
    | true =>
      rw [if_pos rfl]
      rw [hb, if_pos rfl] at hst
      refine Tuple_ (Calls.spliced_cons (wpAny_Name (wpAny_loadName_local rfl rfl hn₅ m1 (Calls.spliced_cons ?_))))
      refine wpAny_Name (wpAny_loadName_local rfl rfl hn₅ m2 (Calls.spliced_nil (wpAny_newTuple ?_)))
      refine ⟨⟨_, _, rfl, fun b o e => Heap.get?_push_of_some _ e⟩, ?_⟩
      rw [hst]
      exact (hΦ₅.ext fun b o e => Heap.get?_push_of_some _ e).snoc (pairOf_of (Heap.get?_push_size _ rfl) rfl rfl) fun hb => by
        obtain ⟨o, ho⟩ := live₅ _ hb
        exact absurd (Heap.lt_size ho) (Nat.lt_irrefl _)
    | false =>
      rw [if_neg (by decide)]
      rw [hb, if_neg (by decide), List.append_nil] at hst
      rw [hst]; exact hΦ₅
  intro C E₀ I' h₃₄ tk₃₄ m₃₄ zs r₃₄ hΦ hacc hn₃₄ base₃₄ hD0 hC0 hDC hfin
  refine hfin m₃₄ hn₃₄ fun h₃₅ hs₃₅ => ?_
  have k₃₅ : ∀ b o, h₃₃.get? b = some o → h₃₅.get? b = some o := fun b o e => hs₃₅.extBut b o (ne_of_live e hC0) (base₃₄ b o e)
  have V₁ := V.ext k₃₅
  have hpr₁ := hprV.ext k₃₅
  have hev₁ : PairsL h₃₅ E₀ (Ev n) := ⟨zs, hacc.isList.at fun o e => hs₃₅.extBut E₀ o hDC e, by
    have h1 := hΦ.off (bad' := [C]) (by simp) (h' := h₃₅) fun b o hb e => hs₃₅.extBut b o (fun q => hb (by rw [q]; exact List.mem_singleton_self _)) e
    rw [hpwl, List.take_length] at h1
    exact h1.1⟩
  clear V hprV hΦ hacc hn₃₄ base₃₄ hfin hs₃₅ hpw hpwl
  refine wpAny_storeName_cell rfl rfl rfl V₁.c5 fun h₃₆ hc₃₆ hs₃₆ => ?_
  have W := V₁.set5 Gt Gb C0 hc₃₆ hs₃₆
  have off₃₆ : Off (XS s.heap.objs.size) h₃₅ h₃₆ := offC (j := 5) (by simp [XS]) hs₃₆
  have hprW := pairs_offX V₁.noSeq off₃₆ hpr₁
  have hevW := pairs_offX V₁.noSeq off₃₆ hev₁
  clear V₁ hpr₁ hev₁ off₃₆ hc₃₆ hs₃₆
  dsimp only
  -- the even graph's size, and no triangle
  have hEl : (Ev n).length ≤ 15 := Nat.le_trans (List.length_filter_le _ _) hPlen
  refine Exists.elim hevW fun ew hew => ?_
  refine wpAny_execs_cons (wpAny_If (isTrue_or (wpAny_isTrue_Compare1 (Call_Name1 (name_builtin W.top rfl rfl rfl rfl rfl boot_len (by decide) (by decide) ?_) rfl))))
  refine callWith_builtin rfl (Calls.evalArgs_plain (Calls.spliced_cons (wpAny_Name (wpAny_loadName_cell rfl rfl rfl W.c5 (Calls.spliced_nil ?_)))))
  refine len_list hew.1 hew.2.length (by omega) fun t₃₇ tk₃₇ => ?_
  refine wpAny_Name (wpAny_loadName_local rfl rfl W.ns mmo (ne_same (even_length hn2 hn6) (wpAny_truthy_bool ?_)))
  simp only [Bool.false_eq_true, if_false]
  refine isTrue_or (wpAny_isTrue_Compare1 (Call_Name2 (name_top W.top rfl rfl rfl rfl (by decide) ?_) rfl))
  refine callWith_top ⟨_, _, _, _, rfl⟩ (Calls.evalArgs_plain (Calls.spliced_cons (wpAny_Name (wpAny_loadName_cell rfl rfl rfl W.c5 ?_))))
  refine Calls.spliced_cons (wpAny_Name (wpAny_loadName_cell rfl rfl rfl W.c1 (Calls.spliced_nil ⟨W.top.X, ?_⟩)))
  refine wpAny_call (threes_code (r1.down (by decide)) W.top hevW (by omega) fun D₄ h₃₈ tk₃₈ ys hk₃₈ hD₄ hys hyl => ?_)
  have hy0 : ys = [] := by
    rw [even_free hn2 hn6] at hys
    exact List.isEmpty_iff.mp hys
  subst hy0
  refine List_ (args_nil (wpAny_newObj_type ?_))
  have k₃₉ : ∀ b o, h₃₆.get? b = some o → (h₃₈.push { cls := .type "list", data := .seq ([] : List Value).toArray }).get? b = some o := fun b o e => Heap.get?_push_of_some _ (hk₃₈ b o e)
  refine ne_nil (hD₄.isList.at fun o e => Heap.get?_push_of_some _ e) (new_list h₃₈ _) hu (wpAny_truthy_bool ?_)
  simp only [Bool.false_eq_true, if_false]
  refine isTrue_or_nil ?_
  simp only [Bool.false_eq_true, if_false]
  refine wpAny_execs_nil ?_
  have W₁ := W.ext k₃₉
  have hpr₂ := hprW.ext k₃₉
  have hev₂ := hevW.ext k₃₉
  clear W hprW hevW hew
  dsimp only
  -- one more pair makes a triangle
  refine Exists.elim hpr₂ fun pw hpw => ?_
  have hpwl : pw.length = (PP n).length := hpw.2.length
  refine Exists.elim hev₂ fun ew hew => ?_
  have hewl : ew.length = (Ev n).length := hew.2.length
  refine wpAny_execs_cons (wpAny_If (wpAny_isTrue_Compare1 (comp_eval (cl := [(Str.ofString "many", s.heap.objs.size + 1), (Str.ofString "even", s.heap.objs.size + 5)]) rfl (by decide) rfl (by decide) (by intro _; rfl) ?_)))
  refine wpAny_Name (wpAny_loadName_local rfl rfl W₁.ns mpr' (comp_list r1.1 hpw.1 (by rw [sizeLine_eq]; omega) (fun _ _ ys _ => ys = []) (fun _ _ _ _ _ p _ => p) (fun _ _ => rfl) ?_ ?_))
  · intro C D' I' k v zs m s₅ E' hk hv hΦ hns₅ hlive₅ base₅ hall
    refine Exists.elim (hpw.2.get hv) fun p hp => ?_
    refine wpAny_assign_Name (wpAny_storeName_local rfl hns₅ (fun h₆ hn₆ hs₆ => ?_) rfl)
    have k₆ := fun b o e => hs₆.extBut b o (ne_of_live e (hall C List.mem_cons_self)) (base₅ b o e)
    have W₆ := W₁.ext k₆
    have hpp := pairOf_ext hp.2 k₆
    have hev₆ := hev₂.ext k₆
    refine ⟨_, ⟨h₆, _, rfl, hn₆, fun b o hb e => hs₆.extBut b o hb e⟩, wpAny_tests_one (isTrue_and (wpAny_isTrue_Compare1 (wpAny_Name (wpAny_loadName_local rfl rfl hn₆ (if_pos rfl) ?_))))⟩
    refine wpAny_Name (wpAny_loadName_cell rfl rfl rfl W₆.c5 (notin_pairs (q := p) hu1 hev₆ hpp (wpAny_truthy_bool ?_)))
    by_cases hin : p ∈ Ev n
    · rw [decide_eq_true hin]
      simp only [Bool.not_true, Bool.false_eq_true, if_false]
      exact ⟨⟨_, _, rfl, fun b o e => e⟩, hΦ⟩
    · rw [decide_eq_false hin]
      simp only [Bool.not_false, if_true]
      have hfull := even_full hn2 hn6 (List.mem_of_getElem? hp.1) hin
      refine isTrue_and (wpAny_isTrue_Compare1 (Call_Name2 (name_top W₆.top rfl rfl rfl rfl (by decide) ?_) rfl))
      refine callWith_top ⟨_, _, _, _, rfl⟩ (Calls.evalArgs_plain (Calls.spliced_cons (wpAny_BinOp (wpAny_Name (wpAny_loadName_cell rfl rfl rfl W₆.c5 ?_)))))
      refine List_ (args_cons (wpAny_Name (wpAny_loadName_local rfl rfl hn₆ (if_pos rfl) (args_nil (wpAny_newObj_type ?_)))))
      have k₇ : ∀ b o, h₆.get? b = some o → (h₆.push { cls := .type "list", data := .seq [v].toArray }).get? b = some o := fun b o e => Heap.get?_push_of_some _ e
      refine add_lists (xs := ew) (ys := [v]) ((hew.1.at fun o e => k₆ _ o e).at fun o e => k₇ _ o e) (new_list h₆ _) (by rw [sizeLine_eq, hewl]; simp; omega) ?_
      have k₈ : ∀ b o, h₆.get? b = some o → ((h₆.push { cls := .type "list", data := .seq [v].toArray }).push { cls := .type "list", data := .seq (ew ++ [v]).toArray }).get? b = some o := fun b o e => Heap.get?_push_of_some _ (k₇ b o e)
      have W₈ := W₆.ext k₈
      have hnew := new_list (h₆.push { cls := .type "list", data := .seq [v].toArray }) (ew ++ [v]).toArray
      have hEp : PairsL ((h₆.push { cls := .type "list", data := .seq [v].toArray }).push { cls := .type "list", data := .seq (ew ++ [v]).toArray }) (h₆.push { cls := .type "list", data := .seq [v].toArray }).objs.size (Ev n ++ [p]) :=
        ⟨ew ++ [v], hnew, ((hew.2.ext k₆).ext k₈).snoc (pairOf_ext hpp k₈)⟩
      dsimp only
      generalize (h₆.push { cls := .type "list", data := .seq [v].toArray }).objs.size = N₈ at hnew hEp ⊢
      generalize (h₆.push { cls := .type "list", data := .seq [v].toArray }).push { cls := .type "list", data := .seq (ew ++ [v]).toArray } = h₈ at W₈ hnew hEp k₈ ⊢
      refine Calls.spliced_cons (wpAny_Name (wpAny_loadName_cell rfl rfl rfl W₈.c1 (Calls.spliced_nil ⟨W₈.top.X, ?_⟩)))
      refine wpAny_call (threes_code (r1.down (by decide)) W₈.top hEp (by omega) fun D₉ h₉ tk₉ ys hk₉ hD₉ hys hyl => ?_)
      have hne : ys.isEmpty = false := by rw [hys, hfull]; rfl
      refine List_ (args_nil (wpAny_newObj_type ?_))
      refine eq_nonnil (hD₉.isList.at fun o e => Heap.get?_push_of_some _ e) (new_list h₉ _) hu hne (wpAny_truthy_bool ?_)
      simp only [Bool.false_eq_true, if_false]
      exact ⟨⟨_, _, rfl, fun b o e => Heap.get?_push_of_some _ (hk₉ b o (k₈ b o e))⟩, hΦ⟩
  intro C D' I' h₄₀ tk₄₀ m₄₀ zs r₄₀ hΦ hacc hn₄₀ base₄₀ hD0 hC0 hDC hfin
  refine hfin m₄₀ hn₄₀ fun h₄₁ hs₄₁ => ?_
  subst hΦ
  have hL₄₁ : h₄₁.IsList D' ([] : List Value).toArray := hacc.isList.at fun o e => hs₄₁.extBut D' o hDC e
  have k₄₁ := fun b o e => hs₄₁.extBut b o (ne_of_live e hC0) (base₄₀ b o e)
  refine List_ (args_nil (wpAny_newObj_type ?_))
  refine ne_nil (hL₄₁.at fun o e => Heap.get?_push_of_some _ e) (new_list h₄₁ _) hu (wpAny_truthy_bool ?_)
  simp only [Bool.false_eq_true, if_false]
  refine wpAny_execs_nil ?_
  have W₂ := (W₁.ext k₄₁).ext fun b o e => Heap.get?_push_of_some { cls := .type "list", data := .seq ([] : List Value).toArray } e
  have hev₃ := (hev₂.ext k₄₁).ext fun b o e => Heap.get?_push_of_some { cls := .type "list", data := .seq ([] : List Value).toArray } e
  clear W₁ hpr₂ hev₂ hpw hew hfin hacc hn₄₀ base₄₀ hs₄₁ k₄₁ hL₄₁
  dsimp only
  -- the end
  have hEg : Good (Ev n) n := good_sub List.filter_sublist
  refine wpAny_execs_cons (wpAny_Return_some (wpAny_Compare1 (sum_sq r1.1 W₂.top rfl rfl rfl rfl rfl (by decide) rfl (by decide) (by intro _; rfl) rfl ?_)))
  refine Call_Name2 (name_top W₂.top rfl rfl rfl rfl (by decide) ?_) rfl
  refine callWith_top ⟨_, _, _, _, rfl⟩ (Calls.evalArgs_plain (Calls.spliced_cons (wpAny_Name (wpAny_loadName_cell rfl rfl rfl W₂.c5 ?_))))
  refine Calls.spliced_cons (wpAny_Name (wpAny_loadName_cell rfl rfl rfl W₂.c1 (Calls.spliced_nil ⟨W₂.top.X, ?_⟩)))
  refine wpAny_call (counts_code (r1.down (by decide)) W₂.top hev₃ hEg (by omega) (by omega) ?_)
  intro D₅ h₄₃ tk₄₃ ev hk₄₃ hD₅ hev
  have W₃ := W₂.ext hk₄₃
  refine ⟨D₅, ev, cs (Ev n) n, rfl, hD₅.isList, hev, by rw [cs_length]; omega, cs_small (by omega), fun h₄₄ tk₄₄ t₄₄ k₄₄ => ?_⟩
  have W₄ := W₃.ext k₄₄
  refine wpAny_BinOp (wpAny_Name (wpAny_loadName_cell rfl rfl rfl W₄.c1 (wpAny_Name (wpAny_loadName_local rfl rfl W₄.ns mmo (mul_to (by omega) rfl (eq_same (even_sq hn2 hn6) ?_))))))
  exact fin W₄
end
end Mine

namespace Mine
theorem fin : PySem.Challenge.rw_gf0005_01.Holds := by
  refine hd ?_
  k_fill
  intro w s₀ s₁ mg mb G Y fa o pm cd doc dV kV ho hd hcd hD hmg hg args vals as hpre hlay hrd hwl hlo
  have KX := km_in_of Y
  have hT8 := km_tabs_of Y
  have X := (Ground.X G).1
  have V := (Ground.X G).2
  refine Ground.open G ?_
  intro T B D TE TW
  try (refine guard_noD D (by decide +kernel) ?_; clear D)
  have hT9 : TabsAt [(55, 51), (48, 44)] s₁.heap := List.forall_mem_cons.mpr ⟨⟨codeHd_of_K (c := 55) (P := 51) KX (by kernel_rfl), hT8 51 (by simp)⟩, List.forall_mem_cons.mpr ⟨⟨codeHd_of_K (c := 48) (P := 44) KX (by kernel_rfl), hT8 44 (by simp)⟩, fun _ h => nomatch h⟩⟩
  wrow_args hpre hlay hrd hwl hlo
  all_goals (
    first | refine callC_kw (enter_call ?_) | refine enter_call ?_
    w_top on
    kn_posts
    have e85 : fa = 85 := by
      have e := mg_of (K := KF w) (n := Str.ofString "law") (v := Value.ref 85) KX T.g rfl
      have e2 := hmg.symm.trans e
      cases e2
      rfl
    subst e85
    have Tp : TopAt w mg mb s₁.heap := ⟨KX, T.g, T.b, T.nolimit, T.builtins⟩
    have hb : BM mg s₁.heap := by
      obtain ⟨bm, ob, b1, b2, b3, b4, b5, b6⟩ := T.bmain
      refine ⟨bm, ob, b1, b2, fun q => ?_, b3, b4, b5, b6⟩
      obtain ⟨o, es, ep, e, hd, _⟩ := T.g
      rw [q, e] at b3; cases b3; rw [hd] at b6; cases b6
    have h44 := hT8 44 (by simp)
    have h51 := hT8 51 (by simp)
    refine law_code ⟨rfl, by decide, by decide⟩ Tp hb ⟨_, h44, .inl rfl⟩ ⟨_, h51, .inl rfl⟩ (by assumption) (by assumption) (Heap.lt_size h51) fun h' tk k t4 t5 => ?_
    refine ⟨⟨.inl ⟨.bool true, .bool true, [], rfl, fun _ => rfl, .bool _, ?_, fun _ => ⟨List.nodup_nil, fun a ha => nomatch ha⟩⟩, fun b ob e => ?_, rfl, hg⟩, ?_⟩
    · first | rfl | decide | (with_unfolding_all rfl)
    · refine k b ob (fun q => ?_) (fun q => ?_) (of_hideAll _ e)
      · rw [q, hideAll_none _ (by simp)] at e; cases e
      · rw [q, hideAll_none _ (by simp)] at e; cases e
    · obtain ⟨ps4, g4, _⟩ := t4
      obtain ⟨ps5, g5, _⟩ := t5
      exact ⟨⟨ps5, g5⟩, ⟨ps4, g4⟩, trivial⟩)
end Mine

theorem PySem.Challenge.cw_gf0005_01_holds : PySem.Challenge.rw_gf0005_01.Holds :=
  Mine.fin
