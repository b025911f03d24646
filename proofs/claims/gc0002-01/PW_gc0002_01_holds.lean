import PyProof.Rows.All
import Wide.All
import OpenK.AllK
import Wide.FinOn
import PyProof.IsiH_list
import PySem.Challenge.RW_gc0002_01
open PySem PySem.W PyProof.Rows
set_option Elab.async false
set_option maxRecDepth 100000
set_option maxHeartbeats 8000000
namespace Mine
open_top hd for PySem.Challenge.rw_gc0002_01
end Mine

open PySem PySem.W PyProof.Rows
set_option Elab.async false
set_option maxRecDepth 100000
namespace Mine
open PySem.Calls

theorem owner_filter : Manifest.owners.lookup (String.ofList ['f','i','l','t','e','r']) = some Manifest.sig_filter := by kernel_rfl
theorem slot_filter_iter : Slot "filter" "__iter__" "filter.__iter__" :=
  .of (owner := "filter") (n := "__iter__") (by rw [typeLookup_type, builtinLookup_eq_fast]; kernel_rfl) (by decide +kernel) (by decide +kernel) (by decide +kernel)
    (by first | exact .inl (by decide +kernel) | exact .inr (by decide +kernel)) (by rw [isSubtype_type]; kernel_rfl)
theorem slot_filter_next : Slot "filter" "__next__" "filter.__next__" :=
  .of (owner := "filter") (n := "__next__") (by rw [typeLookup_type, builtinLookup_eq_fast]; kernel_rfl) (by decide +kernel) (by decide +kernel) (by decide +kernel)
    (by first | exact .inl (by decide +kernel) | exact .inr (by decide +kernel)) (by rw [isSubtype_type]; kernel_rfl)
theorem slot_filter_init : Slot "filter" "__init__" "object.__init__" :=
  .of (owner := "object") (n := "__init__") (by rw [typeLookup_type, builtinLookup_eq_fast]; kernel_rfl) (by decide +kernel) (by decide +kernel) (by decide +kernel)
    (by first | exact .inl (by decide +kernel) | exact .inr (by decide +kernel)) (by rw [isSubtype_type]; kernel_rfl)
theorem args_filter_iter_1 (a : Value) : argsOk "filter.__iter__" ⟨[a], []⟩ := by unfold argsOk; kernel_rfl
theorem args_filter_next_1 (a : Value) : argsOk "filter.__next__" ⟨[a], []⟩ := by unfold argsOk; kernel_rfl
theorem entry_filter_next : entryFor table "filter.__next__" = some Builtin.«filter.__next__» := entryFor_of_tree (by kernel_rfl)
theorem entry_filter_new : entryFor table "filter.__new__" = some Builtin.«filter.__new__» := entryFor_of_tree (by kernel_rfl)
theorem entry_filter_iter : entryFor table "filter.__iter__" = some Builtin.«dict_keyiterator.__iter__» :=
  entryFor_alias (id' := "dict_keyiterator.__iter__") (by kernel_rfl) (by first | rfl | decide +kernel | (unfold String.splitOn; simp +decide [String.splitOnAux])) (by decide +kernel) (by kernel_rfl)
theorem mro_filter : mroOf (.type "filter") = pure [.type "filter", .type "object"] := by rw [mroOf_type]; kernel_rfl
theorem lookup_filter_new : typeLookup (.type "filter") "__new__" = pure (some (.builtin "filter.__new__")) := by rw [typeLookup_type, builtinLookup_eq_fast]; kernel_rfl
theorem called_filter : TypeCalled "filter" "filter.__new__" "object.__init__" :=
  ⟨by decide +kernel, by decide +kernel, ⟨_, _, mro_filter⟩, madeBy_type mro_filter lookup_filter_new (by decide +kernel), by decide +kernel, by rw [isSubtype_type]; kernel_rfl, slot_filter_init⟩
theorem typeCall_filter_2 (a b : Value) : checkTypeCall "filter" ⟨[a, b], []⟩ = pure () := by kernel_rfl
theorem newCall_filter_2 (a b : Value) : checkBuiltinCall "filter.__new__" ⟨[.type "filter", a, b], []⟩ = pure () := by kernel_rfl
theorem sub_filter : isSubtype (.type "filter") (.type "filter") = pure true := by rw [isSubtype_type]; kernel_rfl

abbrev IsFilter (h : Heap) (f it : Addr) : Prop := h.get? f = some { cls := .type "filter", dict := none, data := .fields #[.none, .ref it], slots := #[] }

section
variable {prog : Program} {w : World} {K : Type} [DecidableEq K] {knd : KeyKind prog w K} {A : Around} {E : Value → Shared → Prop} {s : Shared}

theorem meets_filter_new (v d : Addr) (kvs : List (K × Value)) (ep : Nat) :
    MeetsIn prog w (Builtin.«filter.__new__» ⟨[.type "filter", .none, .ref v], []⟩) (fun _ R s => s.heap.IsValuesView v d ∧ s.heap.DictAt knd d kvs ep ∧
      R (.ok (.ret (.ref (s.heap.objs.size + 1)))) { s with heap := (s.heap.push { cls := .type "dict_valueiterator", data := .fields #[.ref d, .int 0 0, .int kvs.length 0, .int ep 0] }).push { cls := .type "filter", data := .fields #[.none, .ref s.heap.objs.size] } }) :=
  .of_wp fun A R s h => by
    obtain ⟨hp, g, dr, tk, os⟩ := s; obtain ⟨hv, hm, h⟩ := h
    have hsub := sub_filter
    have hz : (hp.push { cls := .type "dict_valueiterator", data := .fields #[.ref d, .int 0 0, .int kvs.length 0, .int ep 0] }).objs.size = hp.objs.size + 1 := Heap.size_push ..
    wp_walk using wpAny_pyIter_values hv hm
    rw [hz]
    exact ⟨_, rfl, h⟩

theorem call_filter_values {v d : Addr} {kvs : List (K × Value)} {ep : Nat} {Q : Value → Shared → Prop} (hv : s.heap.IsValuesView v d) (hm : s.heap.DictAt knd d kvs ep)
    (h : ∀ h', IsFilter h' (s.heap.objs.size + 1) s.heap.objs.size → h'.IsValIter s.heap.objs.size d 0 kvs.length ep → h'.objs.size = s.heap.objs.size + 2 →
      (∀ b o, s.heap.get? b = some o → h'.get? b = some o) → Q (.ref (s.heap.objs.size + 1)) { s with heap := h' }) :
    wpAny (model prog w) A (call (.type "filter") [.none, .ref v]) Q E s := by
  refine callType_newIn called_filter (by decide) (typeCall_filter_2 _ _) (newCall_filter_2 _ _) (fun obj => F.args_object_init_3 obj _ _) entry_filter_new
    (meets_filter_new (knd := knd) v d kvs ep) ⟨hv, hm, ?_⟩
  have hz : (s.heap.push { cls := .type "dict_valueiterator", data := .fields #[.ref d, .int 0 0, .int kvs.length 0, .int ep 0] }).objs.size = s.heap.objs.size + 1 := Heap.size_push ..
  have he := Heap.get?_push_size (s.heap.push { cls := .type "dict_valueiterator", data := .fields #[.ref d, .int 0 0, .int kvs.length 0, .int ep 0] })
      (o := { cls := .type "filter", data := .fields #[.none, .ref s.heap.objs.size] }) rfl
  rw [hz] at he
  refine ⟨⟨_, he, rfl⟩, h _ he ⟨_, Heap.get?_push_of_some _ (Heap.get?_push_size _ rfl), rfl, rfl⟩ (by rw [Heap.size_push, hz]) fun b o x => Heap.get?_push_of_some _ (Heap.get?_push_of_some _ x)⟩

theorem valNext_item {it d : Addr} {i ep : Nat} {kvs : List (K × Value)} {k : K} {v : Value} {Q : Option Value → Shared → Prop} (hit : s.heap.IsValIter it d i kvs.length ep)
    (hm : s.heap.DictAt knd d kvs ep) (hx : kvs[i]? = some (k, v))
    (hQ : ∀ h', h'.IsValIter it d (i + 1) kvs.length ep → Heap.SameBut it s.heap h' → Q (some v) { s with heap := h' }) :
    wpAny (model prog w) A (callSpecial? (.ref it) "__next__") Q E s := by
  obtain ⟨⟨c, dd, dt, sl⟩, ho, hc, hd⟩ := id hit
  dsimp only at hc hd; subst hc; subst hd
  obtain ⟨od, es, hod, hcd, hdd, hk, hp, hn⟩ := id hm
  refine wpAny_callSpecial?_slot (name := Str.ofString "__next__") hit.typeIs F.slot_dict_valueiterator_next
    (wpAny_call_entry F.slot_dict_valueiterator_next hit.typeIs F.entry_dict_valueiterator_next ?_ (F.args_dict_valueiterator_next_1 _))
  have hT := hit.typeIs
  have hsz : es.size = kvs.length := by rw [← hp.length]; simp
  have hlt : i < kvs.length := (List.getElem?_eq_some_iff.mp hx).1
  have hlt' : i < es.size := by rw [hsz]; exact hlt
  have hval : es[i].val = v := (hp.get? (e := es[i]) (by simp [hlt']) hx).2
  have hit' : (s.heap.update it (Obj.mapFields (·.setIfInBounds 1 (rawInt ((i : Int) + 1))))).IsValIter it d (i + 1) kvs.length ep :=
    ⟨_, Heap.get?_update_self _ ho rfl, rfl, by simp [Obj.mapFields, rawInt]⟩
  have hge : ¬ ((i : Int) < 0) := by omega
  have hget : es[((i : Int)).toNat]? = some es[i] := by simp [hlt']
  wp_walk using wpAny_typeNameOfWhole_valiter hT, wpAny_isOneOf_valiter hT, wpAny_dictEntries hod hdd, wpAny_dictEpoch hod hdd
  rw [hget]
  wp_walk using wpAny_typeNameOfWhole_valiter hT, wpAny_isOneOf_valiter hT
  exact ⟨_, rfl, hval ▸ hQ _ hit' (Heap.SameBut.update ..)⟩

theorem valNext_end {it d : Addr} {i ep : Nat} {kvs : List (K × Value)} {Q : Option Value → Shared → Prop} (hh : A.handled = none) (hit : s.heap.IsValIter it d i kvs.length ep)
    (hm : s.heap.DictAt knd d kvs ep) (hx : kvs[i]? = none)
    (hE : ∀ e h', (∃ o, h'.get? e = some o ∧ o.cls = .type "StopIteration") → Heap.ExtBut it s.heap h' → E (.ref e) { s with heap := h' }) :
    wpAny (model prog w) A (callSpecial? (.ref it) "__next__") Q E s := by
  obtain ⟨⟨c, dd, dt, sl⟩, ho, hc, hd⟩ := id hit
  dsimp only at hc hd; subst hc; subst hd
  obtain ⟨od, es, hod, hcd, hdd, hk, hp, hn⟩ := id hm
  refine wpAny_callSpecial?_slot (name := Str.ofString "__next__") hit.typeIs F.slot_dict_valueiterator_next
    (wpAny_call_entry F.slot_dict_valueiterator_next hit.typeIs F.entry_dict_valueiterator_next ?_ (F.args_dict_valueiterator_next_1 _))
  have hT := hit.typeIs
  have hsz : es.size = kvs.length := by rw [← hp.length]; simp
  have hgi : es.size ≤ i := by rw [hsz]; simpa using hx
  have hge : ¬ ((i : Int) < 0) := by omega
  have hget : es[((i : Int)).toNat]? = none := by simp [hgi]
  have hnone : A.in1.handled = none := hh
  wp_walk using wpAny_typeNameOfWhole_valiter hT, wpAny_isOneOf_valiter hT, wpAny_dictEntries hod hdd, wpAny_dictEpoch hod hdd
  rw [hget]
  wp_walk using wpAny_typeNameOfWhole_valiter hT, wpAny_isOneOf_valiter hT
  simp only [raiseNew]
  refine wpAny_bind (wpAny_handled ?_)
  rw [hnone]
  refine wpAny_bind (wpAny_pure (wpAny_throw ?_))
  exact hE _ _ ⟨_, Heap.get?_push_size _ rfl, rfl⟩ (((Heap.SameBut.update ..).extBut.push _).push _)

/-- a table's value: none, or an int -/
def NumVal (v : Value) : Prop := v = .none ∨ ∃ k t, v = .int k t
def isNum : Value → Bool
  | .none => false
  | _ => true
def posNum : Value → Prop
  | .int k _ => 0 < k
  | _ => True

theorem wpAny_truthy_numval {v : Value} {Q : Bool → Shared → Prop} (hv : NumVal v) (hp : posNum v) (h : Q (isNum v) s) : wpAny (model prog w) A (truthy v) Q E s := by
  rcases hv with rfl | ⟨k, t, rfl⟩
  · exact wpAny_pure h
  · have hk : (k != 0) = true := by
      have : 0 < k := hp
      simp; omega
    exact truthy_int (by rw [hk]; exact h)

theorem filter_next {f it d : Addr} {ep : Nat} {kvs : List (K × Value)} {R : Result → Shared → Prop} (hh : A.handled = none) (hne : f ≠ it) (hdi : d ≠ it)
    (hvs : ∀ x ∈ kvs, NumVal x.2 ∧ posNum x.2) : ∀ (k j : Nat) (s : Shared), kvs.length - j = k → j ≤ kvs.length → IsFilter s.heap f it → s.heap.IsValIter it d j kvs.length ep → s.heap.DictAt knd d kvs ep →
    (∀ v rest j' h', ((kvs.drop j).map (·.2)).filter isNum = v :: rest → j' ≤ kvs.length → ((kvs.drop j').map (·.2)).filter isNum = rest → h'.IsValIter it d j' kvs.length ep → Heap.SameBut it s.heap h' → R (.ok (.ret v)) { s with heap := h' }) →
    (∀ e h', ((kvs.drop j).map (·.2)).filter isNum = [] → (∃ o, h'.get? e = some o ∧ o.cls = .type "StopIteration") → Heap.ExtBut it s.heap h' → R (.error (.ref e)) { s with heap := h' }) →
    wpAny (model prog w) A.in1 (Builtin.«filter.__next__» ⟨[.ref f], []⟩) (fun fin s' => match fin with | .done f => R (.ok f) s' | .again c' => c'.quiet = true ∧ codeAny (model prog w) A c' R s') (fun e s' => R (.error e) s') s := by
  intro k
  induction k with
  | zero =>
    intro j s hk hj hf hit hm hitem hend
    have hjn : kvs[j]? = none := by simp; omega
    have h0 : ∀ (Q : Value → Shared → Prop) (E : Value → Shared → Prop), Q .none s → wpAny (model prog w) A.in1 (field (.ref f) 0) Q E s := fun Q E h => wpAny_field hf rfl rfl h
    have h1 : ∀ (Q : Value → Shared → Prop) (E : Value → Shared → Prop), Q (.ref it) s → wpAny (model prog w) A.in1 (field (.ref f) 1) Q E s := fun Q E h => wpAny_field hf rfl rfl h
    wp_walk using h0, h1, valNext_end (knd := knd) (show A.in1.handled = none from hh) hit hm hjn
    exact fun e h' a b => hend e h' (by rw [List.drop_eq_nil_of_le (by omega)]; rfl) a b
  | succ k ih =>
    intro j s hk hj hf hit hm hitem hend
    have h0 : ∀ (Q : Value → Shared → Prop) (E : Value → Shared → Prop), Q .none s → wpAny (model prog w) A.in1 (field (.ref f) 0) Q E s := fun Q E h => wpAny_field hf rfl rfl h
    have h1 : ∀ (Q : Value → Shared → Prop) (E : Value → Shared → Prop), Q (.ref it) s → wpAny (model prog w) A.in1 (field (.ref f) 1) Q E s := fun Q E h => wpAny_field hf rfl rfl h
    have hlt : j < kvs.length := by omega
    obtain ⟨⟨x, v⟩, hx⟩ : ∃ p, kvs[j]? = some p := ⟨kvs[j], by simp [hlt]⟩
    have hmem := hvs _ (List.mem_of_getElem? hx)
    have hdrop : (kvs.drop j).map (·.2) = v :: (kvs.drop (j + 1)).map (·.2) := by
      have e : kvs[j] = (x, v) := by simpa [hlt] using hx
      rw [List.drop_eq_getElem_cons hlt, List.map_cons, e]
    wp_walk using h0, h1, valNext_item (knd := knd) hit hm hx
    intro h' hit' hs'
    wp_walk using wpAny_truthy_numval hmem.1 hmem.2
    cases hv : isNum v with
    | true =>
      wp_walk
      exact hitem v _ (j + 1) h' (by rw [hdrop, List.filter_cons_of_pos hv]) hlt rfl hit' hs'
    | false =>
      wp_walk
      refine ⟨Code.quiet_builtin _ (by decide +kernel), codeAny_builtin entry_filter_next ?_⟩
      rw [Around.under_plainId (by decide +kernel) _]
      refine ih (j + 1) _ (by omega) hlt ((hs'.2 f hne).trans hf) hit' (hm.extBut hs'.extBut hdi) ?_ ?_
      · intro v' rest j' h'' e1 e2 e3 e4 e5
        exact hitem v' rest j' h'' (by rw [hdrop, List.filter_cons_of_neg (by simp [hv])]; exact e1) e2 e3 e4 (hs'.trans e5)
      · intro e h'' e1 e2 e3
        exact hend e h'' (by rw [hdrop, List.filter_cons_of_neg (by simp [hv])]; exact e1) e2 (fun b o hb eb => e3 b o hb (hs'.extBut b o hb eb))

theorem call_slot_tree {T : String} {name : Str} {id : String} {b : Builtin} {self : Value} {rest : List Value} {Q : Value → Shared → Prop} (h : Slot T name id) (hT : s.TypeIs self T) (hb : entryFor table id = some b)
    (ha : argsOk id ⟨self :: rest, []⟩)
    (hc : wpAny (model prog w) A.in1 (b ⟨self :: rest, []⟩) (fun fin s' => match fin with | .done f => wants Q E (.ok f) s' | .again c' => c'.quiet = true ∧ codeAny (model prog w) A c' (wants Q E) s') (fun e s' => wants Q E (.error e) s') s) :
    wpAny (model prog w) A (call (.builtin id) (self :: rest)) Q E s :=
  wpAny_call (codeAny_call_builtin h.plain hb (h.check _ _ _ _ _ _ _ _ hT ha hc))

/-- the filter object over a table's values, as the library's walk -/
theorem Walks.filter (hh : A.handled = none) {f it d : Addr} {ep : Nat} {kvs : List (K × Value)} (hne : f ≠ it) (hdi : d ≠ it) (hvs : ∀ x ∈ kvs, NumVal x.2 ∧ posNum x.2) :
    PySem.Walks prog w A f [f, it, d] [it] ((kvs.map (·.2)).filter isNum).length (fun i v => ((kvs.map (·.2)).filter isNum)[i]? = some v)
      (fun i h => ∃ j, j ≤ kvs.length ∧ ((kvs.drop j).map (·.2)).filter isNum = ((kvs.map (·.2)).filter isNum).drop i ∧ IsFilter h f it ∧ h.IsValIter it d j kvs.length ep ∧ h.DictAt knd d kvs ep) where
  sub := fun b hb => by simp at hb; simp [hb]
  frame := fun i h h' ⟨j, a, b, c, e, g⟩ hk => ⟨j, a, b, hk f (by simp) _ c, e.at fun o eo => hk it (by simp) o eo, g.at' fun o eo => hk d (by simp) o eo⟩
  item := fun i s Q E hi ⟨j, a, b, c, e, g⟩ hQ => by
    have hT : s.TypeIs (.ref f) "filter" := ⟨_, c, rfl⟩
    unfold pyNext
    refine wpAny_bind (wpAny_attempt (wpAny_callSpecial?_slot (name := Str.ofString "__next__") hT slot_filter_next (call_slot_tree slot_filter_next hT entry_filter_next (args_filter_next_1 _) ?_)))
    refine filter_next (knd := knd) (show A.handled = none from hh) hne hdi hvs _ j s rfl a c e g ?_ ?_
    · intro v rest j' h' e1 e2 e3 e4 e5
      have e6 : ((kvs.map (·.2)).filter isNum).drop i = v :: rest := b ▸ e1
      refine wpAny_pure (hQ v h' s.toks ?_ ⟨j', e2, ?_, (e5.2 f hne).trans c, e4, g.extBut e5.extBut hdi⟩ fun b o hb eb => e5.extBut b o (by simpa using hb) eb)
      · have := congrArg (·[0]?) e6
        simpa using this
      · rw [e3]
        have := congrArg (List.drop 1) e6
        simpa [Nat.add_comm] using this.symm
    · intro e0 h' e1
      rw [b] at e1
      have := congrArg List.length e1
      simp only [List.length_drop, List.length_nil] at this
      omega
  done := fun s Q E ⟨j, a, b, c, e, g⟩ hQ => by
    have hT : s.TypeIs (.ref f) "filter" := ⟨_, c, rfl⟩
    unfold pyNext
    refine wpAny_bind (wpAny_attempt (wpAny_callSpecial?_slot (name := Str.ofString "__next__") hT slot_filter_next (call_slot_tree slot_filter_next hT entry_filter_next (args_filter_next_1 _) ?_)))
    refine filter_next (knd := knd) (show A.handled = none from hh) hne hdi hvs _ j s rfl a c e g ?_ ?_
    · intro v rest j' h' e1
      rw [b, List.drop_length] at e1
      cases e1
    · intro e0 h' e1 hT' hx
      refine wpAny_bind (wpAny_isInstance (T := "StopIteration") (b := true) hT' isSubtype_stop ?_)
      exact wpAny_pure (hQ h' s.toks fun b o hb eb => hx b o (by simpa using hb) eb)
  self := fun i s Q E ⟨j, a, b, c, e, g⟩ hQ => by
    have hT : s.TypeIs (.ref f) "filter" := ⟨_, c, rfl⟩
    refine wpAny_pyIter_slot hT slot_filter_iter (wpAny_call_entry slot_filter_iter hT entry_filter_iter ?_ (args_filter_iter_1 _))
    show wpAny _ _ (ret (.ref f)) _ _ s
    exact wpAny_pure ⟨_, rfl, "filter", _, hT, slot_filter_next.lookup, hQ⟩
end
end Mine

open PySem PySem.W PyProof.Rows
set_option Elab.async false
set_option maxRecDepth 100000
namespace Mine
open PySem.Calls

theorem args_max_d (a : Value) (d : Value) : argsOk "max" ⟨[a], [("default", d)]⟩ := by unfold argsOk; kernel_rfl

section
variable {prog : Program} {w : World} {A : Around} {R : Result → Shared → Prop} {I : Addr} {fp wr : List Addr} {n : Nat} {P : Nat → Value → Prop} {St : Nat → Heap → Prop}

theorem codeAny_max_loopD {dv : Value} (W : PySem.Walks prog w A.in1 I fp wr n P St) (bt : Nat → Nat → Bool) (hcmp : CmpOf prog w A.in1 .Gt P bt) (S : Addr) (hSf : S ∉ fp) :
    ∀ (k j : Nat) (s : Shared) (vb : Value) (c : Nat), n - (j + 1) = k → j + 1 ≤ n → St (j + 1) s.heap → P (argBest bt j) vb →
    s.heap.get? S = some { cls := .type "list", dict := none, data := .seq #[vb, vb] c, slots := #[] } →
    (∀ v h' tk, P (argBest bt (n - 1)) v → (∀ b o, b ∉ wr → b ≠ S → s.heap.get? b = some o → h'.get? b = some o) → R (.ok (.ret v)) { s with heap := h', toks := tk }) →
    codeAny (model prog w) A (.builtin "max.loop" ⟨[.ref I, .none, .ref S], [("default", dv)]⟩) R s := by
  have hSw : S ∉ wr := fun h => hSf (W.sub _ h)
  have hname : (toString "max" ++ toString ".loop" : String) = "max.loop" := by decide
  intro k
  induction k with
  | zero =>
    intro j s vb c hk hj hst hPb hS hR
    have hin : j + 1 = n := by omega
    refine codeAny_builtin F.entry_max_loop ?_
    rw [Around.under_plainId F.plain_max_loop _]
    show wpAny _ A.in1 (seqItems? (.ref S) >>= _) _ _ s
    refine wpAny_bind (wpAny_seqItems hS rfl ?_)
    show wpAny _ A.in1 (tryCatch (pyNext (.ref I)) _ >>= _) _ _ s
    refine wpAny_bind (wpAny_tryCatch (W.done s _ _ (hin ▸ hst) fun h' tk hk' => ?_))
    have hS' := hk' S _ hSw hS
    show wpAny _ A.in1 (updateSeq S (fun _ => #[]) >>= _) _ _ _
    refine wpAny_bind (wpAny_updateSeq hS' rfl (wpAny_bind (wpAny_letGo (wpAny_pure ?_))))
    refine hR vb _ tk (by rw [← hin]; exact hPb) fun b o hbw hbS e => (Heap.get?_update_other _ _ (Ne.symm hbS)).trans (hk' b o hbw e)
  | succ k ih =>
    intro j s vb c hk hj hst hPb hS hR
    have hlt : j + 1 < n := by omega
    refine codeAny_builtin F.entry_max_loop ?_
    rw [Around.under_plainId F.plain_max_loop _]
    show wpAny _ A.in1 (seqItems? (.ref S) >>= _) _ _ s
    refine wpAny_bind (wpAny_seqItems hS rfl ?_)
    show wpAny _ A.in1 (tryCatch (pyNext (.ref I)) _ >>= _) _ _ s
    refine wpAny_bind (wpAny_tryCatch (W.item (j + 1) s _ _ hlt hst fun v h' tk hP hst' hk' => ?_))
    have hS' := hk' S _ hSw hS
    show wpAny _ A.in1 (tryCatch (holding [v, v] (richCompare .Gt v vb >>= _)) _ >>= _) _ _ _
    refine wpAny_bind (wpAny_tryCatch (wpAny_holding (wpAny_bind (hcmp (j + 1) (argBest bt j) v vb _ _ _ hP hPb ?_))))
    refine wpAny_bind (wpAny_holding (wpAny_truthy_bool (wpAny_bind (wpAny_letGo (wpAny_pure ?_)))))
    cases hb : bt (j + 1) (argBest bt j) with
    | true =>
      simp only [if_true]
      refine wpAny_bind (wpAny_updateSeq hS' rfl (wpAny_bind (wpAny_letGo ?_)))
      rw [hname]
      refine wpAny_pure ⟨plainId_quiet F.plain_max_loop _, ih (j + 1) _ v _ (by omega) hlt (W.frame _ _ _ hst' fun b hbf o e => ?_) (by simp only [argBest, hb, if_true]; exact hP) (Heap.get?_update_self _ hS' rfl)
        fun v' h'' tk'' hP' hk'' => hR v' h'' tk'' hP' fun b o hbw hbS e => hk'' b o hbw hbS ((Heap.get?_update_other _ _ (Ne.symm hbS)).trans (hk' b o hbw e))⟩
      exact (Heap.get?_update_other _ _ (fun h : S = b => hSf (by rw [h]; exact hbf))).trans e
    | false =>
      simp only [Bool.false_eq_true, if_false]
      refine wpAny_bind (wpAny_letGo ?_)
      rw [hname]
      exact wpAny_pure ⟨plainId_quiet F.plain_max_loop _, ih (j + 1) _ vb c (by omega) hlt hst' (by simp only [argBest, hb, Bool.false_eq_true, if_false]; exact hPb) hS' fun v' h'' tk'' hP' hk'' =>
        hR v' h'' tk'' hP' fun b o hbw hbS e => hk'' b o hbw hbS (hk' b o hbw e)⟩

theorem codeAny_max_loopD0 {dv : Value} (W : PySem.Walks prog w A.in1 I fp wr n P St) (bt : Nat → Nat → Bool) (hcmp : CmpOf prog w A.in1 .Gt P bt) (S : Addr) (hSf : S ∉ fp) {s : Shared} {c : Nat} (hst : St 0 s.heap)
    (hS : s.heap.get? S = some { cls := .type "list", dict := none, data := .seq #[] c, slots := #[] })
    (hR : 0 < n → ∀ v h' tk, P (argBest bt (n - 1)) v → (∀ b o, b ∉ wr → b ≠ S → s.heap.get? b = some o → h'.get? b = some o) → R (.ok (.ret v)) { s with heap := h', toks := tk })
    (hR0 : n = 0 → ∀ h' tk, (∀ b o, b ∉ wr → b ≠ S → s.heap.get? b = some o → h'.get? b = some o) → R (.ok (.ret dv)) { s with heap := h', toks := tk }) :
    codeAny (model prog w) A (.builtin "max.loop" ⟨[.ref I, .none, .ref S], [("default", dv)]⟩) R s := by
  have hSw : S ∉ wr := fun h => hSf (W.sub _ h)
  have hname : (toString "max" ++ toString ".loop" : String) = "max.loop" := by decide
  refine codeAny_builtin F.entry_max_loop ?_
  rw [Around.under_plainId F.plain_max_loop _]
  show wpAny _ A.in1 (seqItems? (.ref S) >>= _) _ _ s
  refine wpAny_bind (wpAny_seqItems hS rfl ?_)
  show wpAny _ A.in1 (tryCatch (pyNext (.ref I)) _ >>= _) _ _ s
  by_cases hn : 0 < n
  · refine wpAny_bind (wpAny_tryCatch (W.item 0 s _ _ hn hst fun v h' tk hP hst' hk' => ?_))
    have hS' := hk' S _ hSw hS
    show wpAny _ A.in1 (updateSeq S (fun _ => #[v, v]) >>= _) _ _ _
    refine wpAny_bind (wpAny_updateSeq hS' rfl ?_)
    rw [hname]
    refine wpAny_pure ⟨plainId_quiet F.plain_max_loop _, codeAny_max_loopD W bt hcmp S hSf _ 0 _ v _ rfl hn (W.frame _ _ _ hst' fun b hbf o e => ?_) hP (Heap.get?_update_self _ hS' rfl) fun v' h'' tk'' hP' hk'' =>
      hR hn v' h'' tk'' hP' fun b o hbw hbS e => hk'' b o hbw hbS ((Heap.get?_update_other _ _ (Ne.symm hbS)).trans (hk' b o hbw e))⟩
    exact (Heap.get?_update_other _ _ (fun h : S = b => hSf (by rw [h]; exact hbf))).trans e
  · have h0 : n = 0 := by omega
    refine wpAny_bind (wpAny_tryCatch (W.done s _ _ (h0 ▸ hst) fun h' tk hk' => ?_))
    exact wpAny_bind (wpAny_rule (wpAny_pure (hR0 h0 h' tk fun b o hbw _ e => hk' b o hbw e)))
end

section
variable {prog : Program} {w : World} {A : Around} {E : Value → Shared → Prop} {s : Shared}
theorem call_max_default {x dv : Value} {Q : Value → Shared → Prop}
    (h : wpAny (model prog w) A.in1 (pyIter x) (fun it s₂ => ∃ I fp wr n P St bt, it = .ref I ∧ PySem.Walks prog w A.in1 I fp wr n P St ∧ St 0 s₂.heap ∧ (∀ b ∈ fp, b < s₂.heap.objs.size) ∧ CmpOf prog w A.in1 .Gt P bt ∧
      (0 < n → ∀ v h' tk, P (argBest bt (n - 1)) v → (∀ b o, b ∉ wr → s₂.heap.get? b = some o → h'.get? b = some o) → Q v { s₂ with heap := h', toks := tk }) ∧
      (n = 0 → ∀ h' tk, (∀ b o, b ∉ wr → s₂.heap.get? b = some o → h'.get? b = some o) → Q dv { s₂ with heap := h', toks := tk })) E s) :
    wpAny (model prog w) A (call (.builtin "max") [x] [("default", dv)]) Q E s := by
  have hname : (toString "max" ++ toString ".loop" : String) = "max.loop" := by decide
  refine wpAny_call (codeAny_call_builtin F.plain_max F.entry_max ?_)
  have hfin : wpAny (model prog w) A.in1 (Builtin.«max» ⟨[x], [("default", dv)]⟩) (fun fin s' => match fin with
      | .done f => wants Q E (.ok f) s'
      | .again c' => c'.quiet = true ∧ codeAny (model prog w) A c' (wants Q E) s') E s := by
    show wpAny _ A.in1 (Builtin.Builtins.bindParams "max" ["key", "default"] 0 ⟨[], [("default", dv)]⟩ >>= _) _ _ s
    refine wpAny_bind (wpAny_of_eq (show Builtin.Builtins.bindParams "max" ["key", "default"] 0 ⟨[], [("default", dv)]⟩ = pure [none, some dv] from rfl) ?_)
    refine wpAny_bind (wpAny_pure ?_)
    refine wpAny_bind (wpAny_mono h (fun it s₂ h₂ => ?_) fun _ _ e => e)
    obtain ⟨I, fp, wr, n, P, St, bt, rfl, W, hst, hfp, hcmp, hQ, hQ0⟩ := h₂
    refine wpAny_bind (wpAny_newObj_type ?_)
    have hSf : s₂.heap.objs.size ∉ fp := fun hm => Nat.lt_irrefl _ (hfp _ hm)
    rw [hname]
    refine wpAny_pure ⟨plainId_quiet F.plain_max_loop _, codeAny_max_loopD0 W bt hcmp s₂.heap.objs.size hSf (W.frame _ _ _ hst fun b _ o e => Heap.get?_push_of_some _ e) (Heap.get?_push_size _ rfl) (fun hn v h' tk hP hk => ?_) fun hn h' tk hk => ?_⟩
    · exact hQ hn v h' tk hP fun b o hbw e => hk b o hbw (Nat.ne_of_lt (Heap.lt_size e)) (Heap.get?_push_of_some _ e)
    · exact hQ0 hn h' tk fun b o hbw e => hk b o hbw (Nat.ne_of_lt (Heap.lt_size e)) (Heap.get?_push_of_some _ e)
  have ha := args_max_d x dv
  simp only [checkBuiltinCall, F.kind_max]
  cases hsig : Manifest.signature? "max" with
  | none => exact wpAny_pure hfin
  | some sig =>
    have ha' : Bind.checkArgs "max" sig ⟨[x], [("default", dv)]⟩ = pure () := by simpa only [argsOk, hsig] using ha
    simp only [ha']
    exact wpAny_pure hfin

end

def numOf : Value → Option Int
  | .int k _ => some k
  | _ => none
/-- the numbers of a table, in its order -/
def nums {K : Type} (kvs : List (K × Value)) : List Int := kvs.filterMap fun x => numOf x.2
/-- the greatest of positive numbers; 0 for none -/
def maxi (l : List Int) : Int := l.foldl max 0

theorem maxi_ge (l : List Int) : ∀ a, a ≤ l.foldl max a ∧ ∀ x ∈ l, x ≤ l.foldl max a := by
  induction l with
  | nil => intro a; exact ⟨Int.le_refl _, fun x hx => by cases hx⟩
  | cons y r ih =>
    intro a
    have h := ih (max a y)
    refine ⟨by rw [List.foldl_cons]; exact Int.le_trans (Int.le_max_left _ _) h.1, fun x hx => ?_⟩
    rw [List.foldl_cons]
    rcases List.mem_cons.mp hx with rfl | hx
    · exact Int.le_trans (Int.le_max_right _ _) h.1
    · exact h.2 x hx
theorem maxi_mem (l : List Int) : ∀ a, l.foldl max a = a ∨ l.foldl max a ∈ l := by
  induction l with
  | nil => intro a; exact .inl rfl
  | cons y r ih =>
    intro a
    rw [List.foldl_cons]
    rcases ih (max a y) with h | h
    · rw [h]
      rcases Int.le_total a y with h1 | h1
      · right; rw [Int.max_eq_right h1]; exact List.mem_cons_self
      · left; exact Int.max_eq_left h1
    · exact .inr (List.mem_cons_of_mem _ h)
theorem maxi_eq {l : List Int} {m : Int} (hp : ∀ x ∈ l, 0 < x) (hm : m ∈ l) (hge : ∀ x ∈ l, x ≤ m) : maxi l = m := by
  have h1 := (maxi_ge l 0).2 m hm
  rcases maxi_mem l 0 with h | h
  · have := hp m hm
    unfold maxi; rw [h] at h1 ⊢; omega
  · have := hge _ h
    unfold maxi; omega

theorem numVal_filter {vs : List Value} (hv : ∀ v ∈ vs, NumVal v) : ∀ v ∈ vs.filter isNum, ∃ k t, v = .int k t := by
  intro v hm
  obtain ⟨h1, h2⟩ := List.mem_filter.mp hm
  rcases hv v h1 with rfl | h
  · cases h2
  · exact h
theorem nums_filter {K : Type} {kvs : List (K × Value)} (hv : ∀ x ∈ kvs, NumVal x.2) : nums kvs = ((kvs.map (·.2)).filter isNum).map fun v => (numOf v).getD 0 := by
  induction kvs with
  | nil => rfl
  | cons x r ih =>
    have ih' := ih fun y hy => hv y (List.mem_cons_of_mem _ hy)
    unfold nums at ih' ⊢
    rcases hv x List.mem_cons_self with h | ⟨k, t, h⟩
    · rw [List.map_cons, List.filterMap_cons, h, List.filter_cons_of_neg (by simp [isNum])]; exact ih'
    · rw [List.map_cons, List.filterMap_cons, h, List.filter_cons_of_pos (by simp [isNum]), List.map_cons, ← ih']; rfl

section
variable {prog : Program} {w : World} {K : Type} [DecidableEq K] {knd : KeyKind prog w K} {A : Around} {E : Value → Shared → Prop} {s : Shared}
/-- max(filter(None, table.values()), default=d) -/
theorem call_max_filter {f it d : Addr} {ep : Nat} {kvs : List (K × Value)} {dv : Value} {Q : Value → Shared → Prop} (hh : A.handled = none) (hne : f ≠ it) (hdi : d ≠ it) (hvs : ∀ x ∈ kvs, NumVal x.2 ∧ posNum x.2)
    (hf : IsFilter s.heap f it) (hit : s.heap.IsValIter it d 0 kvs.length ep) (hm : s.heap.DictAt knd d kvs ep)
    (hQ : nums kvs ≠ [] → ∀ t h' tk, (∀ b o, b ≠ it → s.heap.get? b = some o → h'.get? b = some o) → Q (.int (maxi (nums kvs)) t) { s with heap := h', toks := tk })
    (hQ0 : nums kvs = [] → ∀ h' tk, (∀ b o, b ≠ it → s.heap.get? b = some o → h'.get? b = some o) → Q dv { s with heap := h', toks := tk }) :
    wpAny (model prog w) A (call (.builtin "max") [.ref f] [("default", dv)]) Q E s := by
  have W := Walks.filter (prog := prog) (w := w) (knd := knd) (A := A.in1) (ep := ep) (kvs := kvs) hh hne hdi hvs
  have st : ∃ j, j ≤ kvs.length ∧ ((kvs.drop j).map (·.2)).filter isNum = ((kvs.map (·.2)).filter isNum).drop 0 ∧ IsFilter s.heap f it ∧ s.heap.IsValIter it d j kvs.length ep ∧ s.heap.DictAt knd d kvs ep := ⟨0, Nat.zero_le _, rfl, hf, hit, hm⟩
  have hv : ∀ v ∈ kvs.map (·.2), NumVal v := fun v hv => by obtain ⟨x, hx, rfl⟩ := List.mem_map.mp hv; exact (hvs x hx).1
  have hints := numVal_filter hv
  have hnum := nums_filter (kvs := kvs) fun x hx => (hvs x hx).1
  have hlen : (nums kvs).length = ((kvs.map (·.2)).filter isNum).length := by rw [hnum, List.length_map]
  have hpos : ∀ x ∈ nums kvs, 0 < x := by
    intro x hx
    obtain ⟨y, hy, e⟩ := List.mem_filterMap.mp hx
    rcases hvs y hy with ⟨h1 | ⟨k, t, h1⟩, h2⟩
    · rw [h1] at e; cases e
    · rw [h1] at e h2; cases e; exact h2
  have hgetD : ∀ (i : Nat) (v : Value), ((kvs.map (·.2)).filter isNum)[i]? = some v → (nums kvs)[i]? = numOf v := by
    intro i v hi
    rw [hnum, List.getElem?_map, hi]
    obtain ⟨k, t, rfl⟩ := hints v (List.mem_of_getElem? hi)
    rfl
  have hval : ∀ (i : Nat) (v : Value), ((kvs.map (·.2)).filter isNum)[i]? = some v → ∃ t, v = .int ((nums kvs).getD i 0) t := by
    intro i v hi
    have := hgetD i v hi
    obtain ⟨k, t, rfl⟩ := hints v (List.mem_of_getElem? hi)
    exact ⟨t, by rw [List.getD, this]; rfl⟩
  refine call_max_default (W.self 0 s _ _ st ?_)
  refine ⟨f, _, _, _, _, _, _, rfl, W, st, ?_, CmpOf.ints_gt (fun i => (nums kvs).getD i 0) hval, ?_, ?_⟩
  · intro b hb
    rcases List.mem_cons.mp hb with rfl | hb
    · exact Heap.lt_size hf
    rcases List.mem_cons.mp hb with rfl | hb
    · obtain ⟨o, e, _⟩ := hit; exact Heap.lt_size e
    · rw [List.mem_singleton.mp hb]; exact hm.lt_size
  · intro hn v h' tk hP hk
    have hne' : nums kvs ≠ [] := fun e => by rw [e] at hlen; simp at hlen; omega
    obtain ⟨hb1, hb2⟩ := argBest_gt (fun i => (nums kvs).getD i 0) (((kvs.map (·.2)).filter isNum).length - 1)
    generalize argBest (fun i j => decide ((nums kvs).getD i 0 > (nums kvs).getD j 0)) (((kvs.map (·.2)).filter isNum).length - 1) = a at hb1 hb2 hP
    obtain ⟨t, rfl⟩ := hval _ _ hP
    have hlt : a < (nums kvs).length := by omega
    have hmax : maxi (nums kvs) = (nums kvs).getD a 0 := by
      have e1 : (nums kvs).getD a 0 = (nums kvs)[a] := by simp [List.getD, hlt]
      refine maxi_eq hpos (by rw [e1]; exact List.getElem_mem hlt) fun x hx => ?_
      obtain ⟨j, hj, rfl⟩ := List.mem_iff_getElem.mp hx
      have := hb2 j (by omega)
      simpa [List.getD, hj] using this
    rw [← hmax]
    exact hQ hne' t h' tk fun b o hb e => hk b o (by simpa using hb) e
  · intro hn h' tk hk
    exact hQ0 (List.length_eq_zero_iff.mp (by omega)) h' tk fun b o hb e => hk b o (by simpa using hb) e
end
end Mine

open PySem PySem.W PyProof.Rows
set_option Elab.async false
set_option maxRecDepth 100000
namespace Mine
open PySem.Calls

abbrev viewObj (T : String) (d : Addr) : Obj := { cls := .type T, data := .fields #[.ref d] }
abbrev filterObj (it : Addr) : Obj := { cls := .type "filter", data := .fields #[.none, .ref it] }

section
variable {prog : Program} {w : World} {K : Type} [DecidableEq K] {knd : KeyKind prog w K} {A : Around} {E : Value → Shared → Prop} {s : Shared} {h₀ : Heap} {L d : Addr} {m : Str → Option Value} {news : List (Addr × Obj)} {od : Obj} {kvs : List (K × Value)}

theorem dictAt_of (hd : od.IsDictOf knd kvs) : ∃ ep, ∀ h : Heap, h.get? d = some od → h.DictAt knd d kvs ep :=
  let ⟨es, ep, a, b, c, f, g⟩ := hd; ⟨ep, fun h e => ⟨od, es, e, a, b, c, f, g⟩⟩

theorem tab_method {name : Str} {id : String} {pl : Sem Bool} {Q : Value × List Value → Shared → Prop} (N : News h₀ L s.heap news) (hm : (d, od) ∈ news) (hd : od.IsDictOf knd kvs)
    (slot : Slot "dict" name id) (hty : typeOf (.builtin id) = pure (.type "method_descriptor")) (h : Q (.builtin id, [.ref d]) s) :
    wpAny (model prog w) A (getMethod (.ref d) name pl) Q E s := by
  obtain ⟨ep, hep⟩ := dictAt_of (d := d) hd
  have hD := (hep _ (N.get hm)).dictOf
  exact getMethod_builtin hD.typeIs PySem.F.plainAttrs_dict slot hty hD.mapOf.noDict h

theorem fresh_out (F : Fr h₀ L s.heap m) : h₀.get? s.heap.objs.size = none := by
  cases hq : h₀.get? s.heap.objs.size with
  | none => rfl
  | some o' => exact absurd (Heap.lt_size (F.keep _ _ hq)) (Nat.lt_irrefl _)

theorem tab_values {Q : Value → Shared → Prop} (F : Fr h₀ L s.heap m) (N : News h₀ L s.heap news) (hm : (d, od) ∈ news) (hd : od.IsDictOf knd kvs) (lo : (d == sysModules) = false)
    (h : ∀ v h', Fr h₀ L h' m → News h₀ L h' ((v, viewObj "dict_values" d) :: news) → (∀ q ∈ news, q.1 < v) → Q (.ref v) { s with heap := h' }) :
    wpAny (model prog w) A (call (.builtin "dict.values") [.ref d]) Q E s := by
  obtain ⟨ep, hep⟩ := dictAt_of (d := d) hd
  have hD := (hep _ (N.get hm)).dictOf
  refine call_meetsIn PySem.F.slot_dict_values hD.typeIs PySem.F.entry_dict_values (PySem.F.args_dict_values_1 _) (meets_dict_values knd d lo) ⟨⟨_, hD⟩, ?_⟩
  exact h _ _ (F.push _) (N.push F _) fun q hq => Heap.lt_size (N q hq).1

/-- what the filter's rule knows of the iterator within -/
structure FiltReady (knd : KeyKind prog w K) (it d : Addr) (oI od : Obj) (kvs : List (K × Value)) : Prop where
  out : ∃ ep, (∀ h : Heap, h.get? it = some oI → h.IsValIter it d 0 kvs.length ep) ∧ ∀ h : Heap, h.get? d = some od → h.DictAt knd d kvs ep

theorem tab_filter {v : Addr} {Q : Value → Shared → Prop} (F : Fr h₀ L s.heap m) (N : News h₀ L s.heap news) (hv : (v, viewObj "dict_values" d) ∈ news) (hm : (d, od) ∈ news) (hd : od.IsDictOf knd kvs)
    (h : ∀ f it oI h', Fr h₀ L h' m → News h₀ L h' ((f, filterObj it) :: (it, oI) :: news) → (∀ q ∈ news, q.1 < it) → it < f → FiltReady knd it d oI od kvs → Q (.ref f) { s with heap := h' }) :
    wpAny (model prog w) A (call (.type "filter") [.none, .ref v]) Q E s := by
  obtain ⟨ep, hep⟩ := dictAt_of (d := d) hd
  refine call_filter_values (d := d) ⟨_, N.get hv, rfl, rfl⟩ (hep _ (N.get hm)) fun h' hf hit hsz hk => ?_
  obtain ⟨oI, hoI, hc, hdt⟩ := id hit
  have hlt : ∀ q ∈ news, q.1 < s.heap.objs.size := fun q hq => Heap.lt_size (N q hq).1
  have h0 := fresh_out F
  have h1 : h₀.get? (s.heap.objs.size + 1) = none := by
    cases hq : h₀.get? (s.heap.objs.size + 1) with
    | none => rfl
    | some o' => exact absurd (Heap.lt_size (F.keep _ _ hq)) (Nat.not_lt.mpr (Nat.le_succ _))
  refine h _ _ oI h' (F.keeps hk) (fun q hq => ?_) hlt (Nat.lt_succ_self _) ⟨⟨ep, fun g e => ⟨oI, e, hc, hdt⟩, hep⟩⟩
  rcases List.mem_cons.mp hq with rfl | hq
  · exact ⟨hf, Nat.ne_of_gt (Nat.lt_succ_of_lt F.ns.lt), h1⟩
  rcases List.mem_cons.mp hq with rfl | hq
  · exact ⟨hoI, Nat.ne_of_gt F.ns.lt, h0⟩
  · exact ⟨hk _ _ (N q hq).1, (N q hq).2⟩

theorem tab_max {f it : Addr} {oI : Obj} {u : Tok} {Q : Value → Shared → Prop} (hh : A.handled = none) (F : Fr h₀ L s.heap m) (N : News h₀ L s.heap ((f, filterObj it) :: (it, oI) :: news)) (hm : (d, od) ∈ news) (hlt : ∀ q ∈ news, q.1 < it) (hf : it < f)
    (hr : FiltReady knd it d oI od kvs) (hvs : ∀ x ∈ kvs, NumVal x.2 ∧ posNum x.2)
    (h : ∀ t h' tk, Fr h₀ L h' m → News h₀ L h' news → (nums kvs = [] → Q (.int (-1) t) { s with heap := h', toks := tk }) ∧ (nums kvs ≠ [] → Q (.int (maxi (nums kvs)) t) { s with heap := h', toks := tk })) :
    wpAny (model prog w) A (call (.builtin "max") [.ref f] [("default", .int (-1) u)]) Q E s := by
  obtain ⟨ep, hi, hdd⟩ := hr.out
  have ni := N (it, oI) (List.mem_cons_of_mem _ List.mem_cons_self)
  have hdi : d ≠ it := Nat.ne_of_lt (hlt _ hm)
  have hd := hdd _ (N (d, od) (List.mem_cons_of_mem _ (List.mem_cons_of_mem _ hm))).1
  have key : ∀ h', (∀ b o, b ≠ it → s.heap.get? b = some o → h'.get? b = some o) → Fr h₀ L h' m ∧ News h₀ L h' news := by
    intro h' hk
    refine ⟨⟨F.ns.at' fun o e => hk _ o (Ne.symm ni.2.1) e, fun b o e => hk b o (fun q => ?_) (F.keep b o e), F.above⟩, fun q hq => ?_⟩
    · rw [q, ni.2.2] at e; cases e
    · have z := N q (List.mem_cons_of_mem _ (List.mem_cons_of_mem _ hq))
      exact ⟨hk _ _ (Nat.ne_of_lt (hlt q hq)) z.1, z.2⟩
  refine call_max_filter (knd := knd) hh (Nat.ne_of_gt hf) hdi hvs (N _ List.mem_cons_self).1 (hi _ ni.1) hd ?_ ?_
  · intro hne t h' tk hk
    exact (h t h' tk (key h' hk).1 (key h' hk).2).2 hne
  · intro he h' tk hk
    exact (h u h' tk (key h' hk).1 (key h' hk).2).1 he
end
end Mine

open PySem PySem.W PyProof.Rows
set_option Elab.async false
set_option maxRecDepth 100000
namespace Mine
open PySem.Calls

theorem entry_contains_iter : entryFor table "proto.contains_iter" = some Builtin.«proto.contains_iter» := entryFor_of_tree (by kernel_rfl)
section
variable {prog : Program} {w : World} {A : Around} {E : Value → Shared → Prop} {s : Shared}

theorem eqBool_num_none {v : Value} {Q : Bool → Shared → Prop} (hv : NumVal v) (h : Q (!isNum v) s) : wpAny (model prog w) A (eqBool v .none) Q E s := by
  rcases hv with rfl | ⟨k, t, rfl⟩
  · wp_walk
    exact h
  · have hr : ∀ (Q : Value → Shared → Prop) (E : Value → Shared → Prop), Q (.bool false) s → wpAny (model prog w) A (richCompare .Eq (.int k t) .none) Q E s := fun Q E h => EqNone.eq_int_none h
    wp_walk using hr
    exact h

theorem contains_loop {I : Addr} {fp wr : List Addr} {n : Nat} {vs : List Value} {St : Nat → Heap → Prop} {R : Result → Shared → Prop} (hv : ∀ v ∈ vs, NumVal v)
    {P : Nat → Value → Prop} (hPv : ∀ (i : Nat) (v : Value), P i v → vs[i]? = some v) (W : PySem.Walks prog w A.in1 I fp wr n P St) (hn : n = vs.length) : ∀ (k i : Nat) (s : Shared), n - i = k → i ≤ n → St i s.heap →
    (∀ h' tk, (∀ b o, b ∉ wr → s.heap.get? b = some o → h'.get? b = some o) → R (.ok (.ret (.bool ((vs.drop i).any fun v => !isNum v)))) { s with heap := h', toks := tk }) →
    codeAny (model prog w) A (.builtin "proto.contains_iter" ⟨[.ref I, .none], []⟩) R s := by
  intro k
  induction k with
  | zero =>
    intro i s hk hi hst hR
    refine codeAny_builtin entry_contains_iter ?_
    rw [Around.under_plainId (by decide +kernel) _]
    have hin : i = n := by omega
    subst hin
    show wpAny _ A.in1 (pyNext (.ref I) >>= _) _ _ s
    refine wpAny_bind (W.done s _ _ hst fun h' tk hk' => ?_)
    have := hR h' tk hk'
    rw [hn, List.drop_length] at this
    exact wpAny_bind (wpAny_rule (wpAny_pure this))
  | succ k ih =>
    intro i s hk hi hst hR
    refine codeAny_builtin entry_contains_iter ?_
    rw [Around.under_plainId (by decide +kernel) _]
    show wpAny _ A.in1 (pyNext (.ref I) >>= _) _ _ s
    refine wpAny_bind (W.item i s _ _ (by omega) hst fun v h' tk hP' hst' hk' => ?_)
    have hP := hPv i v hP'
    have hlt : i < vs.length := by omega
    have he : vs[i] = v := by simpa [hlt] using hP
    have hd : vs.drop i = v :: vs.drop (i + 1) := by rw [List.drop_eq_getElem_cons hlt, he]
    refine wpAny_bind (eqBool_num_none (hv v (List.mem_of_getElem? hP)) ?_)
    rw [hd, List.any_cons] at hR
    cases hb : isNum v with
    | false =>
      rw [hb] at hR
      exact wpAny_bind (wpAny_rule (wpAny_pure (hR h' tk hk')))
    | true =>
      rw [hb] at hR
      refine wpAny_pure ⟨Code.quiet_builtin _ (by decide +kernel), ih (i + 1) _ (by omega) (by omega) hst' fun h'' tk'' hk'' => ?_⟩
      exact hR h'' tk'' fun b o hb eb => hk'' b o hb (hk' b o hb eb)
end

section
variable {prog : Program} {w : World} {K : Type} [DecidableEq K] {knd : KeyKind prog w K} {A : Around} {E : Value → Shared → Prop} {s : Shared} {h₀ : Heap} {L d : Addr} {m : Str → Option Value} {news : List (Addr × Obj)} {od : Obj} {kvs : List (K × Value)}
theorem noContains_values : typeLookup (.type "dict_values") "__contains__" = pure none := by rw [typeLookup_type, builtinLookup_eq_fast]; kernel_rfl

def hasNone {K : Type} (kvs : List (K × Value)) : Bool := kvs.any fun x => !isNum x.2

theorem tab_none_in {v : Addr} {Q : Value → Shared → Prop} (hh : A.handled = none) (F : Fr h₀ L s.heap m) (N : News h₀ L s.heap news) (hv : (v, viewObj "dict_values" d) ∈ news) (hm : (d, od) ∈ news) (hd : od.IsDictOf knd kvs)
    (hvs : ∀ x ∈ kvs, NumVal x.2) (h : ∀ h' tk, Fr h₀ L h' m → News h₀ L h' news → Q (.bool (hasNone kvs)) { s with heap := h', toks := tk }) :
    wpAny (model prog w) A (compareOp .In .none (.ref v)) Q E s := by
  obtain ⟨ep, hep⟩ := dictAt_of (d := d) hd
  have hV : s.heap.IsValuesView v d := ⟨_, N.get hv, rfl, rfl⟩
  have hD := hep _ (N.get hm)
  have hT := hV.typeIs
  have hno : ∀ (Q : Option Value → Shared → Prop) (E : Value → Shared → Prop), Q none s → wpAny (model prog w) A (specialOf (.ref v) "__contains__") Q E s := fun Q E h => wpAny_specialOf hT noContains_values h
  have hun : ∀ (r : Sem Value) (Q : Option Value → Shared → Prop) (E : Value → Shared → Prop), Q none s → wpAny (model prog w) A (callSpecialUnlessNone? (.ref v) "__contains__" [.none] r) Q E s := by
    intro r Q E h
    simp only [callSpecialUnlessNone?]
    exact wpAny_bind (wpAny_specialOf hT noContains_values (wpAny_pure h))
  show wpAny _ A (contains (.ref v) .none >>= fun b => pure (.bool b)) Q E s
  refine wpAny_bind ?_
  unfold contains
  refine wpAny_holding ?_
  show wpAny _ A (specialOf (.ref v) "__contains__" >>= _) _ _ s
  refine wpAny_bind (hno _ _ ?_)
  show wpAny _ A (callSpecialUnlessNone? (.ref v) "__contains__" [.none] _ >>= _) _ _ s
  refine wpAny_bind (hun _ _ _ ?_)
  refine wpAny_bind (wpAny_rule ?_)
  refine wpAny_bind (wpAny_tryCatch (wpAny_pyIter_values hV hD ?_))
  have hdI : d ≠ s.heap.objs.size := Nat.ne_of_lt hD.lt_size
  refine wpAny_bind (wpAny_runValue ?_)
  have W := Walks.dictValues (prog := prog) (w := w) (knd := knd) (A := A.in1) hh s.heap.objs.size d hdI kvs ep
  refine contains_loop (vs := kvs.map (·.2)) (fun v hv => by obtain ⟨x, hx, rfl⟩ := List.mem_map.mp hv; exact hvs x hx) (fun i v ⟨k, e⟩ => by rw [List.getElem?_map, e]; rfl) W (by simp) _ 0 _ rfl (Nat.zero_le _)
    ⟨⟨_, Heap.get?_push_size _ rfl, rfl, rfl⟩, hD.push _⟩ fun h' tk hk => ?_
  have hk' : ∀ b o, s.heap.get? b = some o → h'.get? b = some o := fun b o e => hk b o (by simpa using Nat.ne_of_lt (Heap.lt_size e)) (Heap.get?_push_of_some _ e)
  have := h h' tk (F.keeps hk') (N.grown hk')
  have e : (List.drop 0 (kvs.map (·.2))).any (fun v => !isNum v) = hasNone kvs := by simp [hasNone, List.any_map, Function.comp_def]
  rw [e]
  exact wpAny_pure (wpAny_pure this)
end
end Mine

open PySem PySem.W PyProof.Rows
set_option Elab.async false
set_option maxRecDepth 100000
set_option maxHeartbeats 8000000
namespace Mine
open PySem.Calls

abbrev PG : Program := PySem.Challenge.rw_gc0002_01.row.prog

def TabOk (kvs : List (Int × Value)) : Prop := kvs.length ≤ 100 ∧ ∀ x ∈ kvs, NumVal x.2 ∧ posNum x.2 ∧ (match x.2 with | .int k _ => k ≤ 10000000 | _ => True)
def digits (m : Int) : Int := ((Str.ofString (toString m)).length : Int)
def widthOf (kvs : List (Int × Value)) : Int :=
  if nums kvs = [] then 0 else if max 3 (digits (maxi (nums kvs))) < 4 ∧ hasNone kvs = true then 4 else max 3 (digits (maxi (nums kvs)))

theorem nums_pos {kvs : List (Int × Value)} (h : TabOk kvs) : ∀ x ∈ nums kvs, 0 < x ∧ x ≤ 10000000 := by
  intro x hx
  obtain ⟨y, hy, e⟩ := List.mem_filterMap.mp hx
  obtain ⟨h1, h2, h3⟩ := h.2 y hy
  rcases h1 with h1 | ⟨k, t, h1⟩
  · rw [h1] at e; cases e
  · rw [h1] at e h2 h3; cases e; exact ⟨h2, h3⟩
theorem maxi_bounds {kvs : List (Int × Value)} (h : TabOk kvs) (hn : nums kvs ≠ []) : 0 < maxi (nums kvs) ∧ maxi (nums kvs) ≤ 10000000 := by
  obtain ⟨x, r, e⟩ := List.exists_cons_of_ne_nil hn
  have hx : x ∈ nums kvs := by rw [e]; exact List.mem_cons_self
  have h1 := (maxi_ge (nums kvs) 0).2 x hx
  have h2 := (nums_pos h x hx).1
  rcases maxi_mem (nums kvs) 0 with h3 | h3
  · have : maxi (nums kvs) = 0 := h3
    unfold maxi at this ⊢; omega
  · have := nums_pos h _ h3
    exact this

theorem tab_max2 {prog : Program} {w : World} {knd : KeyKind prog w Int} {A : Around} {E : Value → Shared → Prop} {s : Shared} {h₀ : Heap} {L d : Addr} {m : Str → Option Value} {news : List (Addr × Obj)} {od : Obj} {kvs : List (Int × Value)}
    {f it : Addr} {oI : Obj} {u : Tok} {Q : Value → Shared → Prop} (hh : A.handled = none) (F : Fr h₀ L s.heap m) (N : News h₀ L s.heap ((f, filterObj it) :: (it, oI) :: news))
    (hr : FiltReady knd it d oI od kvs) (hm : (d, od) ∈ news) (hlt : ∀ q ∈ news, q.1 < it) (hf : it < f) (hok : TabOk kvs)
    (h0 : ∀ t h' tk, Fr h₀ L h' m → News h₀ L h' news → nums kvs = [] → Q (.int (-1) t) { s with heap := h', toks := tk })
    (h1 : ∀ t h' tk, Fr h₀ L h' m → News h₀ L h' news → nums kvs ≠ [] → 0 < maxi (nums kvs) → maxi (nums kvs) ≤ 10000000 → Q (.int (maxi (nums kvs)) t) { s with heap := h', toks := tk }) :
    wpAny (model prog w) A (call (.builtin "max") [.ref f] [("default", .int (-1) u)]) Q E s :=
  tab_max hh F N hm hlt hf hr (fun x hx => ⟨(hok.2 x hx).1, (hok.2 x hx).2.1⟩) fun t h' tk F' N' => ⟨fun e => h0 t h' tk F' N' e, fun e => h1 t h' tk F' N' e (maxi_bounds hok e).1 (maxi_bounds hok e).2⟩

theorem w_zero {kvs : List (Int × Value)} (h : nums kvs = []) : 0 = widthOf kvs := by rw [widthOf, if_pos h]
theorem w_ne {kvs : List (Int × Value)} (h : nums kvs ≠ []) : widthOf kvs = if (if digits (maxi (nums kvs)) > 3 then digits (maxi (nums kvs)) else 3) < 4 ∧ hasNone kvs = true then 4 else if digits (maxi (nums kvs)) > 3 then digits (maxi (nums kvs)) else 3 := by
  unfold widthOf
  rw [if_neg h]
  generalize digits (maxi (nums kvs)) = D
  have hm : max 3 D = if D > 3 then D else 3 := by split <;> omega
  rw [hm]
theorem w_four {kvs : List (Int × Value)} {c : Int} (h : nums kvs ≠ []) (h2 : hasNone kvs = true) (hc : c = 4) (h1 : (if ((Str.ofString (toString (maxi (nums kvs)))).length : Int) > 3 then ((Str.ofString (toString (maxi (nums kvs)))).length : Int) else 3) < c) : c = widthOf kvs := by
  subst hc
  rw [w_ne h, if_pos ⟨h1, h2⟩]
theorem w_no {kvs : List (Int × Value)} (h : nums kvs ≠ []) (h2 : hasNone kvs = false) : (if ((Str.ofString (toString (maxi (nums kvs)))).length : Int) > 3 then ((Str.ofString (toString (maxi (nums kvs)))).length : Int) else 3) = widthOf kvs := by
  rw [w_ne h, h2]
  exact (if_neg (by simp)).symm
theorem w_wide {kvs : List (Int × Value)} {c : Int} (h : nums kvs ≠ []) (hc : c = 4) (h1 : ¬ (if ((Str.ofString (toString (maxi (nums kvs)))).length : Int) > 3 then ((Str.ofString (toString (maxi (nums kvs)))).length : Int) else 3) < c) :
    (if ((Str.ofString (toString (maxi (nums kvs)))).length : Int) > 3 then ((Str.ofString (toString (maxi (nums kvs)))).length : Int) else 3) = widthOf kvs := by
  subst hc
  rw [w_ne h]
  exact (if_neg fun e => h1 e.1).symm

def wTold (w : World) : Told (List (Int × Value)) where
  Rel := fun news v kvs => ∃ d od, v = .ref d ∧ (d, od) ∈ news ∧ od.IsDictOf (intKind PG w) kvs ∧ (d == sysModules) = false
  Ok := TabOk
  size := fun _ => 5
  Tl := fun tl => tl = []
  Out := fun _ r kvs => ∃ t, r = .int (widthOf kvs) t

local macro_rules | `(tactic| k_mem) => `(tactic| first | exact List.mem_cons_self | assumption | (refine List.mem_cons_of_mem _ ?_; k_mem))
local macro_rules | `(tactic| walk_at "getMethod ref") => `(tactic| (k_here; (with_reducible show wpAny _ _ (getMethod (Value.ref _) (Str.ofString "values") _) _ _ _); k_dflt (refine' tab_method (knd := PySem.intKind _ _) ?N ?m ?d PySem.F.slot_dict_values PySem.F.type_dict_values ?_; (case N => k_asm); (case m => k_mem); (case d => k_asm))))
local macro_rules | `(tactic| walk_at "call builtin:dict.values") => `(tactic| (k_here; k_dflt (refine' tab_values (knd := PySem.intKind _ _) ?F ?N ?m ?d ?lo ?_; (case F => k_asm); (case N => k_asm); (case m => k_mem); (case d => k_asm); (case lo => k_asm); k_whole; intro v' h' F' N' l1)))
local macro_rules | `(tactic| walk_at "call type:filter") => `(tactic| (k_here; k_dflt (refine' tab_filter (knd := PySem.intKind _ _) ?F ?N ?v ?m ?d ?_; (case F => k_asm); (case N => k_asm); (case v => k_mem); (case m => k_mem); (case d => k_asm); k_whole; intro f' it' oI' h' F' N' l1 l2 hr')))
local macro_rules | `(tactic| walk_at "call builtin:max") => `(tactic| (k_here; (with_reducible show wpAny _ _ (call (Value.builtin "max") [_] _) _ _ _); k_dflt (refine' tab_max2 ?hh ?F ?N ?r ?m ?lt ?ff ?v (fun t' h' tk' F' N' hemp' => ?_) (fun t' h' tk' F' N' hne' hb1' hb2' => ?_); (case hh => rfl); (case F => k_asm); (case N => k_asm); (case r => k_asm); (case m => k_mem); (case lt => assumption); (case ff => assumption); (case v => assumption))))
local macro_rules | `(tactic| walk_at "compareOp In none ref") => `(tactic| (k_here; k_dflt (refine' tab_none_in (knd := PySem.intKind _ _) ?hh ?F ?N ?v ?m ?d ?vs ?_; (case hh => rfl); (case F => k_asm); (case N => k_asm); (case v => k_mem); (case m => k_mem); (case d => k_asm); (case vs => assumption); k_whole; intro h' tk' F' N')))

local macro_rules | `(tactic| walk_at "call type:str") => `(tactic| (k_here; (with_reducible show wpAny _ _ (call (Value.type "str") [Value.int (maxi _) _]) _ _ _); refine str_of_int_fit (N := 10000001) (by split <;> omega) (by decide) ?_; intro hfit'))

theorem width_tells (w : World) (loose : List Str) (mean : ExcName → Option Value) (mg mb : Str → Option Value) : ∀ kvs, Tells PySem.Challenge.rw_gc0002_01.row.prog w (hd.heap_39 w.params) hd.view_39 loose mean mg mb 21 (wTold w) kvs := by
  k_fill
  intro kvs
  unfold Tells
  intro dp un gd cn cs a ccd cl outer A₀ base h₀ L m news s v Q E B F X N T hk hR hok hd hu hret
  obtain ⟨d, od, rfl, hm, ht, hlo⟩ := hR
  have hvs : ∀ x ∈ kvs, NumVal x.2 ∧ posNum x.2 := fun x hx => ⟨(hok.2 x hx).1, (hok.2 x hx).2.1⟩
  have hvs' : ∀ x ∈ kvs, NumVal x.2 := fun x hx => (hok.2 x hx).1
  have hok' : TabOk kvs := hok
  refine wpAny_call ?_
  k_dflt ktr_enter
  k_steps
  all_goals (first | (exfalso; omega) | skip)
  all_goals (rename Fr _ _ _ _ => kF1; rename News _ _ _ _ => kN1)
  all_goals (refine hret _ [] _ _ kF1 (fun p hp => kN1 p (by simp only [List.append_nil] at hp; first | exact hp | exact List.mem_cons_of_mem _ hp | exact List.mem_cons_of_mem _ (List.mem_cons_of_mem _ hp))) (fun _ _ _ h => nomatch h) rfl ⟨_, congrArg (fun z => Value.int z _) (?_ : _ = widthOf kvs)⟩)
  all_goals first
    | (rename nums _ = [] => he1; exact w_zero he1)
    | (rename nums _ ≠ [] => hn1; rename hasNone _ = true => hN1; refine w_four hn1 hN1 rfl ?_; with_reducible assumption)
    | (rename nums _ ≠ [] => hn1; rename hasNone _ = false => hN1; exact w_no hn1 hN1)
    | (rename nums _ ≠ [] => hn1; refine w_wide hn1 ?_ (by with_reducible assumption); rfl)
end Mine

open PySem PySem.W PyProof.Rows
set_option Elab.async false
set_option maxRecDepth 100000
set_option maxHeartbeats 8000000
namespace Mine
open PySem.Calls

def nTold : Told Unit where
  Rel := fun _ v _ => v = .none
  Ok := fun _ => True
  size := fun _ => 5
  Tl := fun tl => tl = []
  Out := fun _ r _ => ∃ t, r = .int 0 t

theorem none_tells (w : World) (loose : List Str) (mean : ExcName → Option Value) (mg mb : Str → Option Value) : Tells PySem.Challenge.rw_gc0002_01.row.prog w (hd.heap_39 w.params) hd.view_39 loose mean mg mb 21 nTold () := by
  k_fill
  unfold Tells
  intro dp un gd cn cs a ccd cl outer A₀ base h₀ L m news s v Q E B F X N T hk hR hok hd hu hret
  have hR' : v = .none := hR
  subst hR'
  refine wpAny_call ?_
  k_dflt ktr_enter
  k_steps
  all_goals (rename Fr _ _ _ _ => kF1; rename News _ _ _ _ => kN1)
  all_goals (refine hret _ [] _ _ kF1 (fun p hp => kN1 p (by simpa using hp)) (fun _ _ _ h => nomatch h) rfl ⟨_, rfl⟩)
end Mine

open PySem PySem.W PyProof.Rows
set_option Elab.async false
set_option maxRecDepth 100000
namespace Mine
open PySem.Calls PyProof.Rows.LCg PyProof.Rows.LCt

/-- where a comprehension over a table's values begins -/
def ValSrc (prog : Program) (w : World) (A : Around) (h₀ : Heap) (L : Addr) (m : Str → Option Value) (env : Env) (ct elt : PySem.Expr) (x : Str) (scope : Scope) (cl : List (Str × Addr)) (Fin : Shared → List Value → List (Addr × Obj) → Prop) (xv : Value) (s₁ : Shared) : Prop :=
  ∃ v d od kvs news, xv = .ref v ∧ A.handled = none ∧ Fr h₀ L s₁.heap m ∧ News h₀ L s₁.heap news ∧ (v, viewObj "dict_values" d) ∈ news ∧ (d, od) ∈ news ∧ od.IsDictOf (intKind prog w) kvs ∧ kvs.length ≤ sizeLine ∧
    ∀ g, CompRestT prog w A h₀ L m env ct elt x scope cl { s₁ with heap := g } (fun nw => (d, od) ∈ nw) (fun i u => ∃ k, kvs[i]? = some (k, u)) (Fin { s₁ with heap := g }) kvs.length 0 [] news

section
variable {prog : Program} {w : World} {A : Around} {E : Value → Shared → Prop} {s : Shared} {h₀ : Heap} {m : Str → Option Value} {env : Env}

theorem vals_assign {ct elt iter : PySem.Expr} {x y : Str} {px py : Pos} {scope : Scope} {cl : List (Str × Addr)} {pos spos : Pos} {Q : Flow → Shared → Prop} (_F₀ : Fr h₀ env.locals s.heap m)
    (hsw : swapsWith (.ListComp elt [⟨.Name x px, iter, [ct], 0⟩] scope pos) (some (.Name y py)) spos.line env = pure true)
    (hclos : closureFor scope env = pure cl) (hcell : ∀ z ∈ scope.names, z.2 ≠ .cell) (hkind : scope.kind = .function)
    (hnames : ∀ z ∈ scope.names, z.2 = .local → scope.names.lookup z.1 = some .local) (hx : scope.names.lookup x = some .local)
    (hy : env.kindOf y = some .local) (hp : (env.scope.kind == .class || (env.scope.kind == .module && env.locals != env.globals)) = false)
    (h : wpAny (model prog w) A (eval iter env) (ValSrc prog w A h₀ env.locals m env ct elt x scope cl (fun s₂ => FinA h₀ env.locals m s₂ y Q)) E s)
    (hs : ∀ x, foldedSetIterable iter env x = pure x := by intro _; rfl) :
    wpAny (model prog w) A (exec (.Assign [.Name y py] (.ListComp elt [⟨.Name x px, iter, [ct], 0⟩] scope pos) spos) env) Q E s := by
  rw [exec_Assign_Name_used _ _ _ _ hsw]
  refine wpAny_bind (wpAny_standAt (wpAny_bind ?_))
  show wpAny _ A (do let _ ← comprehension (.ListComp elt [⟨.Name x px, iter, [ct], 0⟩] scope pos) scope env _ (newList []) false (eval iter env) (some (assign (.Name y py) env))) _ _ s
  refine wpAny_bind (wpAny_mono (wpAny_comprehension_free (use := some (assign (.Name y py) env)) (Q := fun _ s' => Q .next s') rfl hs hclos hkind hnames
    (wpAny_mono h (fun xv s₁ h₁ => ?_) fun _ _ e => e)) (fun _ s' hq => wpAny_pure (wpAny_pure hq)) fun _ _ e => e)
  obtain ⟨v, d, od, kvs, news, rfl, hh, F, N, hv, hm, hd, hsz, R⟩ := h₁
  obtain ⟨ep, hep⟩ := dictAt_of (d := d) hd
  have hD := hep _ (N.get hm)
  refine wpAny_pyIter_values ⟨_, N.get hv, rfl, rfl⟩ hD ?_
  have hlt : d < s₁.heap.objs.size := hD.lt_size
  refine block_T (Walks.dictValues (knd := intKind prog w) hh s₁.heap.objs.size d (Nat.ne_of_lt hlt) kvs ep) hsz (fun i h st => by obtain ⟨o, e, _⟩ := st.1; exact ⟨o, e⟩)
    (fun i h h' o nw st e e' _ N' S => ⟨?_, hep _ (N'.get S)⟩) hcell hkind hx ⟨⟨_, Heap.get?_push_size _ rfl, rfl, rfl⟩, hD.push _⟩ (fun b hb => ?_) (F.push _) (N.grown fun _ _ e => Heap.get?_push_of_some _ e)
    (Nat.ne_of_lt F.ns.lt) (next_is_new F) (fun p hp => Nat.ne_of_lt (Heap.lt_size (N p hp).1)) hm (R _) ?_
  · obtain ⟨o', q, r⟩ := st.1
    rw [e] at q; cases q
    exact ⟨o, e', r⟩
  · show b < (s₁.heap.push _).objs.size
    rw [Heap.size_push]
    rcases List.mem_cons.mp hb with rfl | hb
    · exact Nat.lt_succ_self _
    · rw [List.mem_singleton.mp hb]; exact Nat.lt_succ_of_lt hlt
  · intro D C h' tk m' ys news' F' N' o1 hn hC₀ hD₀ hCL hDL hCD offC fin
    show wpAny _ A (assign (.Name y py) env (.ref D)) _ _ _
    refine wpAny_assign_Name (wpAny_storeName_local hy F'.ns (fun h₂ hn₂ hs₂ => ?_) hp)
    have hL₀ : h₀.get? env.locals = none := Heap.get?_none_of_le F'.above
    have F₂ : Fr h₀ env.locals h₂ (fun z => if z = y then some (.ref D) else m z) := ⟨hn₂, fun b o e => hs₂.extBut b o (fun q => by rw [q, hL₀] at e; cases e) (F'.keep b o e), F'.above⟩
    refine ⟨m', hn.sameBut hs₂ hCL, fun h'' hs'' => fin D h'' _ (F₂.change hs'' hCL hC₀) (fun p hp => ?_) o1⟩
    have z : h₂.get? p.1 = some p.2 := hs₂.extBut _ _ (N' p hp).2.1 (N' p hp).1
    refine ⟨hs''.extBut _ _ ?_ z, (N' p hp).2⟩
    rcases List.mem_cons.mp hp with rfl | hp
    · exact Ne.symm hCD
    · exact offC p hp

/-- number, for those that are not none -/
theorem vals_rest {x : Str} {p1 p2 p3 p4 : Pos} {kk} {scope : Scope} {cl : List (Str × Addr)} {S : List (Addr × Obj) → Prop} {Fin : List Value → List (Addr × Obj) → Prop} {kvs : List (Int × Value)} {news : List (Addr × Obj)} (hS : S news)
    (hvs : ∀ q ∈ kvs, NumVal q.2) (fin : ∀ ys, IntsAre ys (nums kvs) → Fin ys news)
    (hk : scope.kind = .function) (hl : ∀ C, (compEnvC scope cl C env).kindOf x = some .local) (hd : (x == ("__debug__" : Str)) = false) :
    ∀ (k i : Nat) (ys : List Value), kvs.length - i = k → i ≤ kvs.length → IntsAre ys (nums (kvs.take i)) →
    CompRestT prog w A h₀ L m env (.Compare (.Name x p1) [.IsNot] [.Constant .none kk p2] p3) (.Name x p4) x scope cl s S (fun i u => ∃ k, kvs[i]? = some (k, u)) Fin k i ys news := by
  intro k
  induction k with
  | zero =>
    intro i ys hk' hi hy
    refine CompRestT.zero (fin ys ?_)
    rwa [List.take_of_length_le (by omega)] at hy
  | succ k ih =>
    intro i ys hk' hi hy
    refine CompRestT.succ ?_
    intro v I oI C oC D m₂ h tk E' hv hC hx F N off ne
    obtain ⟨key, hkv⟩ := hv
    have hnum : NumVal v := hvs _ (List.mem_of_getElem? hkv)
    have hmC : (C, oC) ∈ (I, oI) :: (C, oC) :: (D, lst ys) :: news := List.mem_cons_of_mem _ List.mem_cons_self
    have hname : ∀ (p : Pos) (Q : Value → Shared → Prop) (E : Value → Shared → Prop), Q v { s with heap := h, toks := tk } → wpAny (model prog w) A (eval (.Name x p) (compEnvC scope cl C env)) Q E { s with heap := h, toks := tk } :=
      fun p Q E q => LCgL.ld_own (news := (I, oI) :: (C, oC) :: (D, lst ys) :: news) N hmC hC hx q (by simp [compEnvC, relabel, hk]) (hl C) hd
    have htake : nums (kvs.take (i + 1)) = nums (kvs.take i) ++ (match numOf v with | some n => [n] | none => []) := by
      rw [List.take_add_one, hkv]
      unfold nums
      simp only [Option.toList, List.filterMap_append, List.filterMap_cons, List.filterMap_nil]
      cases numOf v <;> rfl
    refine wpAny_isTrue_Compare1 (hname _ _ _ ?_)
    rcases hnum with rfl | ⟨n, t, rfl⟩
    · walk1; walk1; walk1
      simp only [Bool.false_eq_true, if_false]
      refine CompEnd.intro (h₀ := h₀) F N news (fun p hp => hp) off hS ?_
      refine ih (i + 1) ys (by omega) (by omega) ?_
      rw [htake]
      simpa [numOf] using hy
    · walk1; walk1; walk1
      simp only [if_true]
      refine hname _ _ _ ?_
      refine CompEnd.intro (h₀ := h₀) F N news (fun p hp => hp) off hS ?_
      refine ih (i + 1) _ (by omega) (by omega) ?_
      rw [htake]
      exact IntsAre.append hy (.cons n t .nil)
theorem end_same {h₀ : Heap} {L I C D : Addr} {m : Str → Option Value} {s₁ : Shared} {oI oC oD : Obj} {S : List (Addr × Obj) → Prop} {rest : Value → List (Addr × Obj) → Prop} {y : Value} {h' : Heap} {tk : Nat} {news : List (Addr × Obj)}
    (F : Fr h₀ L h' m) (N : News h₀ L h' ((I, oI) :: (C, oC) :: (D, oD) :: news)) (off : Off3 I C D news) (hS : S news) (r : rest y news) :
    CompEnd h₀ L m s₁ I oI C oC D oD S rest y { s₁ with heap := h', toks := tk } := .intro F N news (fun _ h => h) off hS r

/-- one turn of 10 ** k -/
theorem pow_turn {x : Str} {p1 p2 p3 : Pos} {kk} {scope : Scope} {cl : List (Str × Addr)} {Fin : List Value → List (Addr × Obj) → Prop} {news : List (Addr × Obj)}
    (hk : scope.kind = .function) (hl : ∀ C, (compEnvC scope cl C env).kindOf x = some .local) (hd : (x == ("__debug__" : Str)) = false) (k i : Nat) (ys : List Value) (hi : i ≤ 7)
    (h : ∀ t, CompRest prog w A h₀ L m env (.BinOp (.Constant (.int 10) kk p1) .Pow (.Name x p2) p3) x scope cl s (fun _ => True) (fun i v => ∃ t, v = .int (0 + (i : Int)) t) Fin k (i + 1) (ys ++ [.int (10 ^ i) t]) news) :
    CompRest prog w A h₀ L m env (.BinOp (.Constant (.int 10) kk p1) .Pow (.Name x p2) p3) x scope cl s (fun _ => True) (fun i v => ∃ t, v = .int (0 + (i : Int)) t) Fin (k + 1) i ys news := by
  refine CompRest.succ ?_
  intro v I oI C oC D m₂ hp tk E' hv hC hx F N off ne
  obtain ⟨t, rfl⟩ := hv
  have hmC : (C, oC) ∈ (I, oI) :: (C, oC) :: (D, lst ys) :: news := List.mem_cons_of_mem _ List.mem_cons_self
  have hname : ∀ (v : Value) (p : Pos) (tk' : Nat) (Q : Value → Shared → Prop) (E : Value → Shared → Prop), m₂ x = some v → Q v { s with heap := hp, toks := tk' } → wpAny (model prog w) A (eval (.Name x p) (compEnvC scope cl C env)) Q E { s with heap := hp, toks := tk' } :=
    fun v p tk' Q E hx q => LCgL.ld_own (news := (I, oI) :: (C, oC) :: (D, lst ys) :: news) N hmC hC hx q (by simp [compEnvC, relabel, hk]) (hl C) hd
  rw [Int.zero_add] at hx
  have done : ∀ (z : Int) (t : Tok) (tk' : Nat), z = 10 ^ i → CompEnd h₀ L m { s with heap := hp, toks := tk } I oI C oC D (lst ys) (fun _ => True) (fun y news' => CompRest prog w A h₀ L m env (.BinOp (.Constant (.int 10) kk p1) .Pow (.Name x p2) p3) x scope cl s (fun _ => True) (fun i v => ∃ t, v = .int (0 + (i : Int)) t) Fin k (i + 1) (ys ++ [y]) news') (.int z t) { s with heap := hp, toks := tk' } := by
    rintro z t tk' rfl
    exact end_same (s₁ := { s with heap := hp, toks := tk }) F N off trivial (h t)
  have hcases : i = 0 ∨ i = 1 ∨ i = 2 ∨ i = 3 ∨ i = 4 ∨ i = 5 ∨ i = 6 ∨ i = 7 := by omega
  rcases hcases with rfl | rfl | rfl | rfl | rfl | rfl | rfl | rfl
  all_goals (walk1; walk1; dsimp only; refine hname _ _ _ _ _ hx ?_; walk1; exact done _ _ _ rfl)
theorem pow_rest {x : Str} {p1 p2 p3 : Pos} {kk} {scope : Scope} {cl : List (Str × Addr)} {Fin : List Value → List (Addr × Obj) → Prop} {news : List (Addr × Obj)}
    (hk : scope.kind = .function) (hl : ∀ C, (compEnvC scope cl C env).kindOf x = some .local) (hd : (x == ("__debug__" : Str)) = false)
    (fin : ∀ t0 t1 t2 t3 t4 t5 t6 t7, Fin [.int 1 t0, .int 10 t1, .int 100 t2, .int 1000 t3, .int 10000 t4, .int 100000 t5, .int 1000000 t6, .int 10000000 t7] news) :
    CompRest prog w A h₀ L m env (.BinOp (.Constant (.int 10) kk p1) .Pow (.Name x p2) p3) x scope cl s (fun _ => True) (fun i v => ∃ t, v = .int (0 + (i : Int)) t) Fin 8 0 [] news := by
  refine pow_turn hk hl hd _ _ _ (by decide) fun t0 => ?_
  refine pow_turn hk hl hd _ _ _ (by decide) fun t1 => ?_
  refine pow_turn hk hl hd _ _ _ (by decide) fun t2 => ?_
  refine pow_turn hk hl hd _ _ _ (by decide) fun t3 => ?_
  refine pow_turn hk hl hd _ _ _ (by decide) fun t4 => ?_
  refine pow_turn hk hl hd _ _ _ (by decide) fun t5 => ?_
  refine pow_turn hk hl hd _ _ _ (by decide) fun t6 => ?_
  refine pow_turn hk hl hd _ _ _ (by decide) fun t7 => ?_
  exact CompRest.zero (fin t0 t1 t2 t3 t4 t5 t6 t7)

/-- numbers == [] -/
theorem num_eq_nil {news : List (Addr × Obj)} {D l : Addr} {ol : Obj} {ys : List Value} {ns : List Int} {Q : Value → Shared → Prop} (N : News h₀ L s.heap news) (hD : (D, lst ys) ∈ news) (hl : (l, ol) ∈ news) (hi : IntsAre ys ns)
    (hc : ol.cls = .type "list") (hdt : ∃ c, ol.data = .seq #[] c) (hu : A.units + 64 < cLine) (h0 : ns = [] → Q (.bool true) s) (h1 : ns ≠ [] → Q (.bool false) s) :
    wpAny (model prog w) A (compareOp .Eq (.ref D) (.ref l)) Q E s := by
  obtain ⟨c, hdt⟩ := hdt
  refine ke_eq_ints (xs := ys) (ys := []) (ns := ns) (ms := []) ⟨_, N.get hD, rfl, _, rfl⟩ ⟨_, N.get hl, hc, c, hdt⟩ hi .nil hu ?_
  by_cases e : ns = []
  · rw [decide_eq_true e]; exact h0 e
  · rw [decide_eq_false e]; exact h1 e
theorem num_ne_nil {news : List (Addr × Obj)} {D l : Addr} {ol : Obj} {ys : List Value} {ns : List Int} {Q : Value → Shared → Prop} (N : News h₀ L s.heap news) (hD : (D, lst ys) ∈ news) (hl : (l, ol) ∈ news) (hi : IntsAre ys ns)
    (hc : ol.cls = .type "list") (hdt : ∃ c, ol.data = .seq #[] c) (hu : A.units + 64 < cLine) (h0 : ns = [] → Q (.bool false) s) (h1 : ns ≠ [] → Q (.bool true) s) :
    wpAny (model prog w) A (compareOp .NotEq (.ref D) (.ref l)) Q E s := by
  obtain ⟨c, hdt⟩ := hdt
  refine ke_ne_ints (xs := ys) (ys := []) (ns := ns) (ms := []) ⟨_, N.get hD, rfl, _, rfl⟩ ⟨_, N.get hl, hc, c, hdt⟩ hi .nil hu ?_
  by_cases e : ns = []
  · rw [decide_eq_true e]; exact h0 e
  · rw [decide_eq_false e]; exact h1 e
theorem num_max {news : List (Addr × Obj)} {D : Addr} {ys : List Value} {kvs : List (Int × Value)} {Q : Value → Shared → Prop} (hh : A.handled = none) (F : Fr h₀ L s.heap m) (N : News h₀ L s.heap news) (hD : (D, lst ys) ∈ news) (hi : IntsAre ys (nums kvs)) (hok : TabOk kvs) (hne : nums kvs ≠ [])
    (h : ∀ t h' tk, Fr h₀ L h' m → News h₀ L h' news → 0 < maxi (nums kvs) → maxi (nums kvs) ≤ 10000000 → Q (.int (maxi (nums kvs)) t) { s with heap := h', toks := tk }) :
    wpAny (model prog w) A (call (.builtin "max") [.ref D]) Q E s := by
  refine kso_max F N ⟨_, N.get hD, rfl, _, rfl⟩ hi (List.length_pos_iff.mpr hne) hh fun h' M t tk F' N' hM hge => ?_
  have e := maxi_eq (fun x hx => (nums_pos hok x hx).1) hM hge
  subst e
  exact h t h' tk F' N' (maxi_bounds hok hne).1 (maxi_bounds hok hne).2

end
end Mine

open PySem PySem.W PyProof.Rows
set_option Elab.async false
set_option maxRecDepth 100000
namespace Mine

theorem digits_le {M : Int} {k : Nat} (h0 : 0 < M) (hk : 0 < k) : digits M ≤ (k : Int) ↔ M < 10 ^ k := by
  obtain ⟨n, rfl⟩ : ∃ n : Nat, M = (n : Int) := ⟨M.toNat, by omega⟩
  have e : digits (n : Int) = ((Nat.repr n).length : Int) := by
    unfold digits
    rw [PySem.ofString_length]
    rfl
  rw [e]
  have := @Nat.length_repr_le_iff n k hk
  have e2 : ((10 : Int) ^ k) = ((10 ^ k : Nat) : Int) := by rw [Int.natCast_pow]; rfl
  rw [e2]
  constructor
  · intro h; have := this.mp (by omega); omega
  · intro h; have := this.mpr (by omega); omega
theorem dig_eq {M : Int} (b : Nat) (hb : 0 < b) (hlo : ¬ M < 10 ^ b) (hhi : M < 10 ^ (b + 1)) : digits M = ((b + 1 : Nat) : Int) := by
  have h10 : (0 : Int) < 10 ^ b := Int.pow_pos (by decide)
  have h0 : 0 < M := by omega
  have h1 := (digits_le (k := b + 1) h0 (by omega)).mpr hhi
  have h2 := mt (digits_le (k := b) h0 hb).mp hlo
  omega
theorem dig1 {M : Int} (h0 : 0 < M) (hhi : M < 10) : digits M = 1 := by
  have h1 := (digits_le (k := 1) h0 (by omega)).mpr hhi
  have h2 : 0 < digits M := by
    unfold digits
    rw [PySem.ofString_length]
    obtain ⟨n, rfl⟩ : ∃ n : Nat, M = (n : Int) := ⟨M.toNat, by omega⟩
    show ((0 : Nat) : Int) < ((Nat.repr n).length : Int)
    have := @Nat.length_repr_pos n
    omega
  omega
theorem dig2 {M : Int} (hlo : ¬ M < 10) (hhi : M < 100) : digits M = 2 := dig_eq 1 (by decide) hlo hhi
theorem dig3 {M : Int} (hlo : ¬ M < 100) (hhi : M < 1000) : digits M = 3 := dig_eq 2 (by decide) hlo hhi
theorem dig4 {M : Int} (hlo : ¬ M < 1000) (hhi : M < 10000) : digits M = 4 := dig_eq 3 (by decide) hlo hhi
theorem dig5 {M : Int} (hlo : ¬ M < 10000) (hhi : M < 100000) : digits M = 5 := dig_eq 4 (by decide) hlo hhi
theorem dig6 {M : Int} (hlo : ¬ M < 100000) (hhi : M < 1000000) : digits M = 6 := dig_eq 5 (by decide) hlo hhi
theorem dig7 {M : Int} (hlo : ¬ M < 1000000) (hhi : M < 10000000) : digits M = 7 := dig_eq 6 (by decide) hlo hhi
theorem dig8 {M : Int} (hlo : ¬ M < 10000000) (hhi : M ≤ 10000000) : digits M = 8 := dig_eq 7 (by decide) hlo (by
  have : (10 : Int) ^ (7 + 1) = 100000000 := by decide
  omega)

theorem lw_big {kvs : List (Int × Value)} {V b : Int} (hne : nums kvs ≠ []) (hD : digits (maxi (nums kvs)) = b) (hb : 3 < b) (hV : V = b) : V = widthOf kvs := by
  rw [w_ne hne, hD, hV, if_pos hb, if_neg (by omega)]
theorem lw_none {kvs : List (Int × Value)} {V b : Int} (hne : nums kvs ≠ []) (hN : hasNone kvs = true) (hD : digits (maxi (nums kvs)) = b) (hb : ¬ 3 < b) (hV : V = 4) : V = widthOf kvs := by
  rw [w_ne hne, hD, hV, if_neg hb, if_pos ⟨by omega, hN⟩]
theorem lw_full {kvs : List (Int × Value)} {V b : Int} (hne : nums kvs ≠ []) (hN : hasNone kvs = false) (hD : digits (maxi (nums kvs)) = b) (hb : ¬ 3 < b) (hV : V = 3) : V = widthOf kvs := by
  rw [w_ne hne, hD, hV, hN, if_neg hb, if_neg (by simp)]
end Mine

open PySem PySem.W PyProof.Rows
set_option Elab.async false
set_option maxRecDepth 100000
set_option maxHeartbeats 8000000
namespace Mine
open PySem.Calls PyProof.Rows.LCg PyProof.Rows.LCt

def lTold (w : World) : Told (List (Int × Value)) where
  Rel := fun news v kvs => ∃ d od, v = .ref d ∧ (d, od) ∈ news ∧ od.IsDictOf (intKind PG w) kvs ∧ (d == sysModules) = false
  Ok := TabOk
  size := fun _ => 20
  Tl := fun tl => tl = []
  Out := fun _ r kvs => ∃ t, r = .int (widthOf kvs) t

local macro_rules | `(tactic| k_mem) => `(tactic| first | with_reducible exact List.mem_cons_self | with_reducible assumption | (refine List.mem_cons_of_mem _ ?_; k_mem))
local macro_rules | `(tactic| walk_at "getMethod ref") => `(tactic| (k_here; (with_reducible show wpAny _ _ (getMethod (Value.ref _) (Str.ofString "values") _) _ _ _); k_dflt (refine' tab_method (knd := PySem.intKind _ _) ?N ?m ?d PySem.F.slot_dict_values PySem.F.type_dict_values ?_; (case N => k_asm); (case m => k_mem); (case d => k_asm))))
local macro_rules | `(tactic| walk_at "call builtin:dict.values") => `(tactic| (k_here; k_dflt (refine' tab_values (knd := PySem.intKind _ _) ?F ?N ?m ?d ?lo ?_; (case F => k_asm); (case N => k_asm); (case m => k_mem); (case d => k_asm); (case lo => k_asm); k_whole; intro v' h' F' N' l1)))
local macro_rules | `(tactic| walk_at "compareOp In none ref") => `(tactic| (k_here; k_dflt (refine' tab_none_in (knd := PySem.intKind _ _) ?hh ?F ?N ?v ?m ?d ?vs ?_; (case hh => rfl); (case F => k_asm); (case N => k_asm); (case v => k_mem); (case m => k_mem); (case d => k_asm); (case vs => assumption); k_whole; intro h' tk' F' N')))
local macro_rules | `(tactic| walk_at "CompSrc") => `(tactic| (k_here; k_dflt (refine' CompSrc.range (n := 8) ?h ?F ?N ?r ?s ?n ?z (fun g' => pow_rest rfl (fun _ => rfl) (by decide) (fun t0' t1' t2' t3' t4' t5' t6' t7' => ?_)); (case h => rfl); (case F => k_asm); (case N => k_asm); (case r => assumption); (case s => decide); (case n => rfl); (case z => decide))))
local macro_rules | `(tactic| walk_at "compareOp Eq ref ref") => `(tactic| (k_here; k_dflt (refine' num_eq_nil ?N ?D ?l ?i ?c ?d ?u (fun hemp' => ?_) (fun hne' => ?_); (case N => k_asm); (case D => k_mem); (case l => k_mem); (case i => assumption); (case c => rfl); (case d => exact ⟨_, rfl⟩); (case u => ktr_units))))
local macro_rules | `(tactic| walk_at "call builtin:max") => `(tactic| (k_here; (with_reducible show wpAny _ _ (call (Value.builtin "max") [Value.ref _]) _ _ _); k_dflt (refine' num_max ?h ?F ?N ?D ?i ?o ?e (fun t' h' tk' F' N' hb1' hb2' => ?_); (case h => rfl); (case F => k_asm); (case N => k_asm); (case D => k_mem); (case i => assumption); (case o => assumption); (case e => assumption))))
local macro_rules | `(tactic| walk_at "exec Assign cons ListComp") => `(tactic| (k_here; lct_look; k_dflt (refine' vals_assign ?F ?a ?b ?c ?d ?e ?f ?g ?h ?_ ?i; (case F => k_asm); (case a => with_unfolding_all rfl); (case b => with_unfolding_all rfl); (case c => decide); (case d => rfl); (case e => decide); (case f => rfl); (case g => rfl); (case h => rfl); (case i => intro _; rfl))))
local macro_rules | `(tactic| walk_at "ValSrc") => `(tactic| (k_dflt (refine' ⟨_, _, _, _, _, rfl, rfl, ?F, ?N, ?v, ?m, ?d, ?z, fun g' => vals_rest ?hS ?vs (fun ys' hys' => ?_) rfl (fun _ => rfl) (by decide) _ 0 [] rfl (Nat.zero_le _) .nil⟩; (case F => k_asm); (case N => k_asm); (case v => k_mem); (case m => k_mem); (case d => k_asm); (case z => (rw [sizeLine_eq]; (rename TabOk _ => hz8); (have hz9 := hz8.1); omega)); (case hS => k_mem); (case vs => assumption))))

local macro_rules | `(tactic| k_room) => `(tactic| ktr_room)
theorem lwidth_tells (w : World) (loose : List Str) (mean : ExcName → Option Value) (mg mb : Str → Option Value) : ∀ kvs, Tells PySem.Challenge.rw_gc0002_01.row.prog w (hd.heap_39 w.params) hd.view_39 loose mean mg mb 42 (lTold w) kvs := by
  k_fill
  intro kvs
  unfold Tells
  intro dp un gd cn cs a ccd cl outer A₀ base h₀ L m news s v Q E B F X N T hk hR hok hd hu hret
  obtain ⟨d, od, rfl, hm, ht, hlo⟩ := hR
  have hvs : ∀ x ∈ kvs, NumVal x.2 ∧ posNum x.2 := fun x hx => ⟨(hok.2 x hx).1, (hok.2 x hx).2.1⟩
  have hvs' : ∀ x ∈ kvs, NumVal x.2 := fun x hx => (hok.2 x hx).1
  have hok' : TabOk kvs := hok
  have hu' : un + 8 * 20 < cLine := hu
  have hd' : dp + 20 < recursionLimit := hd
  refine wpAny_call ?_
  k_dflt ktr_enter
  k_steps
  all_goals (rename Fr _ _ _ _ => kF1; rename News _ _ _ _ => kN1)
  all_goals (refine hret _ [] _ _ kF1 (fun p hp => kN1 p (by simp only [List.append_nil] at hp; repeat (first | exact hp | refine List.mem_cons_of_mem _ ?_))) (fun _ _ _ h => nomatch h) rfl ⟨_, congrArg (fun z => Value.int z _) (?_ : _ = widthOf kvs)⟩)
  all_goals first
    | (rename nums _ = [] => he1; exact w_zero he1)
    | (rename nums _ ≠ [] => hn1; rename 0 < maxi (nums _) => hb1; rename maxi (nums _) ≤ 10000000 => hb2; first
      | exact lw_big hn1 (dig4 (by assumption) (by assumption)) (by decide) (by decide)
      | exact lw_big hn1 (dig5 (by assumption) (by assumption)) (by decide) (by decide)
      | exact lw_big hn1 (dig6 (by assumption) (by assumption)) (by decide) (by decide)
      | exact lw_big hn1 (dig7 (by assumption) (by assumption)) (by decide) (by decide)
      | exact lw_big hn1 (dig8 (by assumption) hb2) (by decide) (by decide)
      | (rename hasNone _ = true => hN1; first
        | exact lw_none hn1 hN1 (dig1 hb1 (by assumption)) (by decide) (by decide)
        | exact lw_none hn1 hN1 (dig2 (by assumption) (by assumption)) (by decide) (by decide)
        | exact lw_none hn1 hN1 (dig3 (by assumption) (by assumption)) (by decide) (by decide))
      | (rename hasNone _ = false => hN1; first
        | exact lw_full hn1 hN1 (dig1 hb1 (by assumption)) (by decide) (by decide)
        | exact lw_full hn1 hN1 (dig2 (by assumption) (by assumption)) (by decide) (by decide)
        | exact lw_full hn1 hN1 (dig3 (by assumption) (by assumption)) (by decide) (by decide)))
end Mine

open PySem PySem.W PyProof.Rows
set_option Elab.async false
set_option maxRecDepth 100000
namespace Mine
open PySem.Calls

/-- what a table's value says: none, or a number -/
def cellv (n : Int) : Option Int := if n % 5 = 0 then none else some (1 + (n.natAbs : Int) % 10000000)
def ValIs (v : Value) : Option Int → Prop
  | none => v = .none
  | some k => ∃ t, v = .int k t
/-- a table of places to cells -/
def TabIs (kvs : List (Int × Value)) (ns : List Int) : Prop := kvs.length = ns.length ∧ ∀ (i : Nat) (n : Int), ns[i]? = some n → ∃ v, kvs[i]? = some ((i : Int), v) ∧ ValIs v (cellv n)
theorem TabIs.nil : TabIs [] [] := ⟨rfl, fun i n h => by simp at h⟩
theorem TabIs.snoc {kvs : List (Int × Value)} {ns : List Int} {n : Int} {v : Value} (h : TabIs kvs ns) (hv : ValIs v (cellv n)) : TabIs (kvs ++ [((ns.length : Int), v)]) (ns ++ [n]) := by
  refine ⟨by simp [h.1], fun i m hm => ?_⟩
  rcases Nat.lt_trichotomy i ns.length with hi | hi | hi
  · rw [List.getElem?_append_left hi] at hm
    obtain ⟨u, hu, hu2⟩ := h.2 i m hm
    exact ⟨u, by rw [List.getElem?_append_left (by rw [h.1]; exact hi)]; exact hu, hu2⟩
  · subst hi
    simp at hm
    subst hm
    exact ⟨v, by rw [← h.1]; simp [h.1], hv⟩
  · rw [List.getElem?_eq_none (by rw [List.length_append, List.length_singleton]; omega)] at hm; cases hm
theorem TabIs.key_lt {kvs : List (Int × Value)} {ns : List Int} (h : TabIs kvs ns) : ∀ x ∈ kvs, x.1 < (ns.length : Int) := by
  intro x hx
  obtain ⟨i, hi, rfl⟩ := List.mem_iff_getElem.mp hx
  have hi' : i < ns.length := h.1 ▸ hi
  obtain ⟨v, hv, _⟩ := h.2 i ns[i] (by simp [hi'])
  have : kvs[i] = ((i : Int), v) := by simpa [hi] using hv
  rw [this]; simp; exact hi'
theorem TabIs.stored {kvs : List (Int × Value)} {ns : List Int} (h : TabIs kvs ns) (v : Value) : stored kvs (ns.length : Int) v = kvs ++ [((ns.length : Int), v)] := by
  unfold PySem.stored
  rw [if_neg]
  rw [List.any_eq_true]
  rintro ⟨x, hx, he⟩
  have := h.key_lt x hx
  have := of_decide_eq_true he
  omega

theorem cellv_none {n : Int} (h : n.fmod 5 = 0) : ValIs .none (cellv n) := by
  rw [Int.fmod_eq_emod_of_nonneg _ (by decide)] at h
  unfold cellv; rw [if_pos h]; rfl
theorem cellv_some {n : Int} {t : Tok} (h : n.fmod 5 ≠ 0) : ValIs (.int (1 + (if n < 0 then -n else n).fmod (10 ^ Int.toNat 7)) t) (cellv n) := by
  rw [Int.fmod_eq_emod_of_nonneg _ (by decide)] at h
  unfold cellv; rw [if_neg h]
  have e : (10 : Int) ^ Int.toNat 7 = 10000000 := by decide
  rw [e, Int.fmod_eq_emod_of_nonneg _ (by decide)]
  have e2 : (if n < 0 then -n else n) = (n.natAbs : Int) := by split <;> omega
  rw [e2]
  exact ⟨t, rfl⟩
theorem TabIs.ok {kvs : List (Int × Value)} {ns : List Int} (h : TabIs kvs (List.take 10 ns)) : TabOk kvs := by
  refine ⟨by rw [h.1, List.length_take]; omega, fun x hx => ?_⟩
  obtain ⟨i, hi, rfl⟩ := List.mem_iff_getElem.mp hx
  have hi' : i < (List.take 10 ns).length := h.1 ▸ hi
  obtain ⟨v, hv, hv2⟩ := h.2 i (List.take 10 ns)[i] (by rw [List.getElem?_eq_getElem hi'])
  have e : kvs[i] = ((i : Int), v) := by simpa [hi] using hv
  rw [e]
  generalize (List.take 10 ns)[i] = n at hv2
  unfold cellv at hv2
  split at hv2
  · have hv3 : v = .none := hv2
    subst hv3
    exact ⟨.inl rfl, trivial, trivial⟩
  · obtain ⟨t, rfl⟩ := hv2
    refine ⟨.inr ⟨_, t, rfl⟩, ?_, ?_⟩
    · show (0 : Int) < 1 + _
      omega
    · show 1 + _ ≤ (10000000 : Int)
      omega

/-- the end of a turn of the filling loop -/
def TabTurn (prog : Program) (w : World) (h₀ : Heap) (L : Addr) (s : Shared) (d : Addr) (rest : List (Addr × Obj)) (i : Nat) (ns : List Int) (m₀ : Str → Option Value) (xi xc : Str) (f : Flow) (s₂ : Shared) : Prop :=
  f = .next ∧ ∃ h' tk₂ m' o₂ kvs₂, s₂ = { s with heap := h', toks := tk₂ } ∧ Fr h₀ L h' m' ∧ News h₀ L h' ((d, o₂) :: rest) ∧ o₂.IsDictOf (intKind prog w) kvs₂ ∧ TabIs kvs₂ (ns.take (i + 1)) ∧ ∀ z, z ≠ xi → z ≠ xc → m' z = m₀ z
theorem TabTurn.intro {prog : Program} {w : World} {h₀ h' : Heap} {L d : Addr} {s : Shared} {rest : List (Addr × Obj)} {i tk : Nat} {ns : List Int} {m₀ m' : Str → Option Value} {xi xc : Str} {o₂ : Obj} {kvs : List (Int × Value)} {n : Int} {v : Value}
    (F : Fr h₀ L h' m') (N : News h₀ L h' ((d, o₂) :: rest)) (hd : o₂.IsDictOf (intKind prog w) (stored kvs (i : Int) v)) (ht : TabIs kvs (ns.take i)) (hn : ns[i]? = some n) (hv : ValIs v (cellv n)) (hm : ∀ z, z ≠ xi → z ≠ xc → m' z = m₀ z) :
    TabTurn prog w h₀ L s d rest i ns m₀ xi xc .next { s with heap := h', toks := tk } := by
  have hil : i < ns.length := (List.getElem?_eq_some_iff.mp hn).1
  have hlen : (ns.take i).length = i := by rw [List.length_take]; omega
  have e1 : stored kvs (i : Int) v = kvs ++ [((i : Int), v)] := by have := ht.stored v; rwa [hlen] at this
  rw [e1] at hd
  refine ⟨rfl, h', tk, m', o₂, _, rfl, F, N, hd, ?_, hm⟩
  have e2 : ns.take (i + 1) = ns.take i ++ [n] := by rw [List.take_add_one, hn]; rfl
  rw [e2]
  have := ht.snoc hv
  rwa [hlen] at this

section
variable {prog : Program} {w : World} {A : Around} {E : Value → Shared → Prop} {s : Shared} {h₀ : Heap} {m₀ : Str → Option Value} {env : Env} {d D : Addr} {o dl : Obj} {post : List (Addr × Obj)} {vs : List Value} {ns : List Int}

/-- the loop that fills the table -/
theorem enum_tab {xi xc : Str} {body : List Stmt} {Q : Flow → Shared → Prop} (hh : A.handled = none) (F : Fr h₀ env.locals s.heap m₀) (N : News h₀ env.locals s.heap ((d, o) :: post)) (hD : (D, dl) ∈ post) (hc : dl.cls = .type "list") (hdl : ∃ c, dl.data = .seq vs.toArray c) (hi : IntsAre vs ns)
    (hdd : o.IsDictOf (intKind prog w) []) (hdp : ∀ p ∈ post, p.1 ≠ d)
    (turn : ∀ (i : Nat) n t tk o₁ kvs h tk' own, ns[i]? = some n → TabIs kvs (ns.take i) → o₁.IsDictOf (intKind prog w) kvs → (∀ p ∈ post ++ own, p.1 ≠ d) → i ≤ kvs.length →
      Fr h₀ env.locals h (fun y => if y = xc then some (.int n t) else if y = xi then some (.int i tk) else m₀ y) → News h₀ env.locals h ((d, o₁) :: (post ++ own)) →
      wpAny (model prog w) A (execs body env) (TabTurn prog w h₀ env.locals s d (post ++ own) i ns m₀ xi xc) E { s with heap := h, toks := tk' })
    (done : ∀ h' tk (u : Str → Option Value) o₁ kvs, Fr h₀ env.locals h' (fun z => if z = xc then u z else if z = xi then u z else m₀ z) → News h₀ env.locals h' ((d, o₁) :: post) → o₁.IsDictOf (intKind prog w) kvs → TabIs kvs ns → Q .next { s with heap := h', toks := tk }) :
    wpAny (model prog w) A (call (.type "enumerate") [.ref D]) (fun xv s₁ => wpAny (model prog w) A (pyIter xv) (fun it s₂ => PairAt3 prog w A h₀ env xi xc body Q E it s₂) E s₁) E s := by
  have hDn := N (D, dl) (List.mem_cons_of_mem _ hD)
  have hl : s.heap.IsList D vs.toArray := ⟨dl, hDn.1, hc, hdl⟩
  have hlt : ∀ p ∈ (d, o) :: post, p.1 < s.heap.objs.size := fun p hp => Heap.lt_size (N p hp).1
  have hDlt : D < s.heap.objs.size := hlt _ (List.mem_cons_of_mem _ hD)
  refine call_enumerate_list hl fun h' he hit hsz hk => ?_
  refine wpAny_pyIter_enum he ?_
  have F' := F.keeps hk
  have N' : News h₀ env.locals h' ((d, o) :: post) := N.grown hk
  have W := WalksT.enumerate (prog := prog) (w := w) (A := A) hh (s.heap.objs.size + 1) s.heap.objs.size D (Nat.succ_ne_self _) (Nat.ne_of_lt (Nat.lt_succ_of_lt hDlt)) (Nat.ne_of_lt hDlt) vs.toArray
  have hsz2 : vs.toArray.size = ns.length := by simp [hi.length]
  rw [hsz2] at W
  have hLlt : env.locals < s.heap.objs.size := F.ns.lt
  have n0 := fresh_out F
  have n1 : h₀.get? (s.heap.objs.size + 1) = none := by
    cases hq : h₀.get? (s.heap.objs.size + 1) with
    | none => rfl
    | some o' => exact absurd (Heap.lt_size (F.keep _ _ hq)) (Nat.not_lt.mpr (Nat.le_succ _))
  refine ⟨s.heap.objs.size + 1, _, _, ns.length, _, _, _, (fun i v0 v1 => ∃ t n u, ns[i]? = some n ∧ v0 = .int i t ∧ v1 = .int n u), m₀, (d, o) :: post,
    (fun i m₁ news₁ => ∃ o₁ kvs, news₁ = (d, o₁) :: post ∧ o₁.IsDictOf (intKind prog w) kvs ∧ TabIs kvs (ns.take i) ∧ ∀ z, z ≠ xi → z ≠ xc → m₁ z = m₀ z), rfl, W, ?_, ?_, ?_, ?_, ⟨⟨_, he⟩, hit, hl.at fun o e => hk _ _ e⟩, F', N', ⟨o, [], rfl, hdd, TabIs.nil, fun _ _ _ => rfl⟩, ?_, ?_⟩
  · rintro i vals ⟨t, x, hx, rfl⟩
    refine ⟨_, _, rfl, ?_⟩
    have hil : i < vs.length := by
      have := (Array.getElem?_eq_some_iff.mp hx).1
      simpa using this
    obtain ⟨u, hu⟩ := hi.get i ns[i] (by simp [hi.length ▸ hil])
    have hx' : vs[i]? = some x := by simpa using hx
    rw [hu] at hx'
    cases hx'
    exact ⟨t, _, u, by simp [hi.length ▸ hil], rfl, rfl⟩
  · intro hm
    rcases List.mem_cons.mp hm with e | hm
    · exact absurd e (Nat.ne_of_lt (Nat.lt_succ_of_lt hLlt))
    rcases List.mem_cons.mp hm with e | hm
    · exact absurd e (Nat.ne_of_lt hLlt)
    · exact hDn.2.1 (List.mem_singleton.mp hm).symm
  · intro b hb
    rcases List.mem_cons.mp hb with rfl | hb
    · exact n1
    · rw [List.mem_singleton.mp hb]; exact n0
  · intro p hp hm
    have := hlt p hp
    rcases List.mem_cons.mp hm with e | hm
    · exact absurd e (Nat.ne_of_lt (Nat.lt_succ_of_lt this))
    · exact absurd (List.mem_singleton.mp hm) (Nat.ne_of_lt this)
  · rintro i v0 v1 m₁ news₁ s₁ own ⟨h, tk', rfl⟩ hin ⟨t, n, u, hn, rfl, rfl⟩ ⟨o₁, kvs, rfl, hd1, ht1, hm1⟩ hadr hown F₁ N₁
    have e : (fun y => if y = xc then some (Value.int n u) else if y = xi then some (Value.int i t) else m₁ y) = fun y => if y = xc then some (Value.int n u) else if y = xi then some (Value.int i t) else m₀ y := by
      funext y
      by_cases h1 : y = xc
      · simp [h1]
      · by_cases h2 : y = xi
        · simp [h2]
        · simp only [if_neg h1, if_neg h2]; exact hm1 y h2 h1
    rw [e] at F₁
    have hoff : ∀ p ∈ post ++ own, p.1 ≠ d := by
      intro p hp
      rcases List.mem_append.mp hp with hp | hp
      · exact hdp p hp
      · have hdlt := hlt (d, o) List.mem_cons_self
        rcases List.mem_cons.mp (hown p hp) with e1 | e1
        · rw [e1]; exact Nat.ne_of_gt (Nat.lt_succ_of_lt hdlt)
        rcases List.mem_cons.mp e1 with e1 | e1
        · rw [e1]; exact Nat.ne_of_gt hdlt
        · rw [List.mem_singleton.mp e1]; exact hdp _ hD
    have N₂ : News h₀ env.locals h ((d, o₁) :: (post ++ own)) := fun p hp => N₁ p (by
      rcases List.mem_cons.mp hp with rfl | hp
      · exact List.mem_append_right _ List.mem_cons_self
      rcases List.mem_append.mp hp with hp | hp
      · exact List.mem_append_right _ (List.mem_cons_of_mem _ hp)
      · exact List.mem_append_left _ hp)
    have hle : i ≤ kvs.length := by rw [ht1.1, List.length_take]; omega
    refine wpAny_mono (turn i n u t o₁ kvs h tk' own hn ht1 hd1 hoff hle F₁ N₂) (fun f s₂ hp => ?_) fun _ _ e => e
    obtain ⟨rfl, h2, tk2, m', o₂, kvs₂, rfl, F₂, N₂', hd2, ht2, hm2⟩ := hp
    refine ⟨rfl, h2, tk2, m', (d, o₂) :: post, rfl, F₂, fun p hp => N₂' p ?_, rfl, o₂, kvs₂, rfl, hd2, ht2, hm2⟩
    rcases List.mem_append.mp hp with hp | hp
    · exact List.mem_cons_of_mem _ (List.mem_append_right _ hp)
    rcases List.mem_cons.mp hp with rfl | hp
    · exact List.mem_cons_self
    · exact List.mem_cons_of_mem _ (List.mem_append_left _ hp)
  · rintro h2 tk m' news' F₂ N₂ hadr ⟨o₁, kvs, rfl, hd1, ht1, hm1⟩
    rw [List.take_length] at ht1
    refine done h2 tk m' o₁ kvs ?_ N₂ hd1 ht1
    have e : (fun z => if z = xc then m' z else if z = xi then m' z else m₀ z) = m' := by
      funext z
      by_cases h1 : z = xc
      · simp [h1]
      · by_cases h2 : z = xi
        · simp [h2]
        · simp only [if_neg h1, if_neg h2]; exact (hm1 z h2 h1).symm
    rw [e]; exact F₂

theorem tab_store {L : Addr} {m : Str → Option Value} {rest : List (Addr × Obj)} {kvs : List (Int × Value)} {k : Int} {t : Tok} {v : Value} {Q : Unit → Shared → Prop} (F : Fr h₀ L s.heap m) (N : News h₀ L s.heap ((d, o) :: rest)) (hoff : ∀ p ∈ rest, p.1 ≠ d) (hd : o.IsDictOf (intKind prog w) kvs)
    (hz : kvs.length ≤ 1000)
    (h : ∀ h' o', Fr h₀ L h' m → News h₀ L h' ((d, o') :: rest) → o'.IsDictOf (intKind prog w) (stored kvs k v) → Q () { s with heap := h', toks := s.toks + 1 }) :
    wpAny (model prog w) A (setItem (.ref d) (.int k t) v) Q E s := by
  have hm := N (d, o) List.mem_cons_self
  refine wpAny_setItem_pairs (hsz := by rw [sizeLine_eq]; omega) (intKind_is prog w k t) (Heap.dictOf_iff.mpr ⟨o, hm.1, hd⟩) fun h' hmm hs => ?_
  obtain ⟨o', ho', hd'⟩ := Heap.dictOf_iff.mp hmm
  refine h h' o' (F.change hs hm.2.1 hm.2.2) (fun p hp => ?_) hd'
  rcases List.mem_cons.mp hp with rfl | hp
  · exact ⟨ho', hm.2⟩
  · have z := N p (List.mem_cons_of_mem _ hp)
    exact ⟨(hs.2 _ (hoff p hp)).trans z.1, z.2⟩
end
end Mine

open PySem PySem.W PyProof.Rows
set_option Elab.async false
set_option maxRecDepth 100000
namespace Mine
open PySem.Calls

theorem lk_list_getattr : typeLookup (.type "list") "__getattr__" = pure none := by rw [typeLookup_type, builtinLookup_eq_fast]; kernel_rfl
theorem lk_list_keys : typeLookup (.type "list") "keys" = pure none := by rw [typeLookup_type, builtinLookup_eq_fast]; kernel_rfl

section
variable {prog : Program} {w : World} {A : Around} {E : Value → Shared → Prop} {h : Heap} {g : Array GenState} {d : Drawn} {t : Nat} {os : OsState} {a : Addr} {o : Obj}

theorem sub_attrerr : isSubtype (.type "AttributeError") (.type "AttributeError") = pure true := by rw [isSubtype_type]; kernel_rfl

theorem raise_attr {α : Type} {x : Value} {nm msg : Str} {Q : α → Shared → Prop} {s : Shared} (hh : A.handled = none) (hm : msg.length ≤ sizeLine)
    (hE : ∀ e h' tk, (∃ x, h'.get? e = some x ∧ x.cls = .type "AttributeError") → (∀ b x, s.heap.get? b = some x → h'.get? b = some x) → E (.ref e) { s with heap := h', toks := tk }) :
    wpAny (model prog w) A (raiseAttrError x nm msg) Q E s := by
  unfold raiseAttrError
  refine wpAny_bind (wpAny_mkStr (wpAny_bind ?_) hm)
  unfold newExc newTuple
  refine wpAny_bind (wpAny_newObj_type ?_)
  refine wpAny_bind (m := firstArgMember _ _) (wpAny_of_eq (a := Value.none) (by simp only [firstArgMember]; rfl) ?_)
  refine wpAny_newObj_type ?_
  refine wpAny_bind (wpAny_mkText ?_)
  refine wpAny_bind ?_
  unfold noteAttr
  dsimp only
  obtain ⟨hp, g, d, tk, os⟩ := s
  dsimp only at *
  have hz : (hp.push { cls := Value.type "tuple", data := Data.seq #[Value.str msg tk] }).objs.size = hp.objs.size + 1 := Heap.size_push ..
  generalize hH : ((hp.push { cls := Value.type "tuple", data := Data.seq #[Value.str msg tk] }).push { cls := Value.type "AttributeError", data := Data.fields (#[Value.ref hp.objs.size, Value.none, Value.none, Value.none, Value.bool false, Value.none] ++ ownMembersOf (Value.type "AttributeError") [Value.str msg tk]) }) = H
  have he : H.get? (hp.objs.size + 1) = some { cls := Value.type "AttributeError", data := Data.fields #[Value.ref hp.objs.size, Value.none, Value.none, Value.none, Value.bool false, Value.none, rawInt 0, rawInt 0] } := by
    rw [← hH, ← hz]; exact Heap.get?_push_size _ rfl
  have hold : ∀ b x, hp.get? b = some x → H.get? b = some x := fun b x e => hH ▸ Heap.get?_push_of_some _ (Heap.get?_push_of_some _ e)
  rw [hz]
  have hlt : ∀ b x, hp.get? b = some x → b ≠ hp.objs.size + 1 := fun b x e => Nat.ne_of_lt (Nat.lt_succ_of_lt (Heap.lt_size e))
  generalize hp.objs.size + 1 = e at he hlt ⊢
  have hT : (⟨H, g, d, tk + 1 + 1, os⟩ : Shared).TypeIs (.ref e) "AttributeError" := ⟨_, he, rfl⟩
  have hsub := sub_attrerr
  repeat (any_goals (first | assumption | wp_step))
  unfold raiseNew
  refine wpAny_bind (wpAny_handled ?_)
  rw [hh]
  first
    | refine wpAny_throw ?_
    | refine wpAny_bind (wpAny_pure (wpAny_throw ?_))
  exact hE _ _ _ ⟨_, Heap.get?_update_self _ he rfl, rfl⟩ (fun b x hb => (Heap.get?_update_other _ _ (Ne.symm (hlt b x hb))).trans (hold b x hb))

theorem keys_entry {tk : Tok} {Q : Fin → Shared → Prop} (hh : A.handled = none) (hx : h.get? a = some o) (hc : o.cls = .type "list") (hdi : o.dict = none) (hs : ∃ its c, o.data = .seq its c)
    (hE : ∀ e h' tk, (∃ x, h'.get? e = some x ∧ x.cls = .type "AttributeError") → (∀ b x, h.get? b = some x → h'.get? b = some x) → E (.ref e) ⟨h', g, d, tk, os⟩) :
    wpAny (model prog w) A (Builtin.«object.__getattribute__» ⟨[.ref a, .str "keys" tk], []⟩) Q E ⟨h, g, d, t, os⟩ := by
  have hT : (⟨h, g, d, t, os⟩ : Shared).TypeIs (.ref a) "list" := ⟨_, hx, hc⟩
  obtain ⟨its, c, hs⟩ := hs
  obtain ⟨oc, od, odt, osl⟩ := o
  dsimp only at hc hdi hs
  subst hc hdi hs
  have f4 := lk_list_keys
  repeat (any_goals (first | assumption | wp_step))
  exact raise_attr (s := ⟨h, g, d, t, os⟩) hh (by size_fits) hE

theorem keys_call {tk : Tok} {R : Result → Shared → Prop} (hh : A.handled = none) (hx : h.get? a = some o) (hc : o.cls = .type "list") (hdi : o.dict = none) (hs : ∃ its c, o.data = .seq its c)
    (hE : ∀ e h' tk, (∃ x, h'.get? e = some x ∧ x.cls = .type "AttributeError") → (∀ b x, h.get? b = some x → h'.get? b = some x) → R (.error (.ref e)) ⟨h', g, d, tk, os⟩) :
    codeAny (model prog w) A (.call (.builtin "list.__getattribute__") ⟨[.ref a, .str "keys" tk], []⟩) R ⟨h, g, d, t, os⟩ :=
  codeAny_call_builtin F.slot_list_getattribute.plain F.entry_list_ga (F.slot_list_getattribute.check _ _ _ _ _ _ _ _ (show (⟨h, g, d, t, os⟩ : Shared).TypeIs (.ref a) "list" from ⟨_, hx, hc⟩) (F.args_list_getattribute_2 _ _) (keys_entry (show A.in1.handled = none from hh) hx hc hdi hs hE))

theorem keys_by {tk : Tok} {Q : Value → Shared → Prop} (hh : A.handled = none) (hx : h.get? a = some o) (hc : o.cls = .type "list") (hdi : o.dict = none) (hs : ∃ its c, o.data = .seq its c)
    (hE : ∀ e h' tk, (∃ x, h'.get? e = some x ∧ x.cls = .type "AttributeError") → (∀ b x, h.get? b = some x → h'.get? b = some x) → E (.ref e) ⟨h', g, d, tk, os⟩) :
    wpAny (model prog w) A (getAttrBy (.ref a) (.str "keys" tk) false) Q E ⟨h, g, d, t, os⟩ := by
  have hT : (⟨h, g, d, t, os⟩ : Shared).TypeIs (.ref a) "list" := ⟨_, hx, hc⟩
  have f2 := F.slot_list_getattribute.lookup
  have f3 := F.slot_list_getattribute.bind (.ref a)
  have f4 := lk_list_getattr
  have hsub := sub_attrerr
  repeat (any_goals (first | assumption | wp_step))
  refine keys_call (show A.in1.handled = none from hh) hx hc hdi hs ?_
  intro e h' tk' he hk
  have hT' : (⟨h', g, d, tk', os⟩ : Shared).TypeIs (.ref e) "AttributeError" := he
  repeat (any_goals (first | assumption | wp_step))
  exact hE _ _ _ he hk

theorem keys_none {s : Shared} {Q : Option Value → Shared → Prop} (hh : A.handled = none) (hx : s.heap.get? a = some o) (hc : o.cls = .type "list") (hdi : o.dict = none) (hs : ∃ its c, o.data = .seq its c)
    (hQ : ∀ h' tk, (∀ b x, s.heap.get? b = some x → h'.get? b = some x) → Q none { s with heap := h', toks := tk }) :
    wpAny (model prog w) A (getAttr? (.ref a) "keys") Q E s := by
  obtain ⟨h, g, d, t, os⟩ := s
  have hsub := sub_attrerr
  unfold getAttr? getAttrBy?
  refine wpAny_bind (wpAny_mkText (wpAny_bind (wpAny_attempt (keys_by hh hx hc hdi hs ?_))))
  intro e h' tk' he hk
  have hT' : (⟨h', g, d, tk', os⟩ : Shared).TypeIs (.ref e) "AttributeError" := he
  repeat (any_goals (first | assumption | wp_step))
  exact hQ _ _ hk
end
end Mine

open PySem PySem.W PyProof.Rows
set_option Elab.async false
set_option maxRecDepth 100000
namespace Mine
open PySem.Calls PyProof.Rows.LCg

theorem entry_update_loop : entryFor table "dict.update.loop" = some Builtin.«dict.update.loop» := entryFor_of_tree (by kernel_rfl)
theorem plain_update_loop : plainId "dict.update.loop" = true := by decide +kernel

abbrev tupOf (k : Int) (t : Tok) (v : Value) : Obj := { cls := .type "tuple", data := .seq #[.int k t, v] }

/-- a list's items are pairs, tuples of the ledger -/
def PairsIn (tups : List (Addr × Obj)) (ys : List Value) (kvs : List (Int × Value)) : Prop :=
  ys.length = kvs.length ∧ ∀ (i : Nat) (k : Int) (v : Value), kvs[i]? = some (k, v) → ∃ T t, ys[i]? = some (.ref T) ∧ (T, tupOf k t v) ∈ tups
theorem PairsIn.nil : PairsIn [] [] [] := ⟨rfl, fun i k v h => by simp at h⟩
theorem PairsIn.snoc {tups : List (Addr × Obj)} {ys : List Value} {kvs : List (Int × Value)} {T : Addr} {k : Int} {t : Tok} {v : Value} (h : PairsIn tups ys kvs) : PairsIn ((T, tupOf k t v) :: tups) (ys ++ [.ref T]) (kvs ++ [(k, v)]) := by
  refine ⟨by simp [h.1], fun i k' v' hi => ?_⟩
  rcases Nat.lt_trichotomy i kvs.length with hl | hl | hl
  · rw [List.getElem?_append_left hl] at hi
    obtain ⟨T', t', e, hm⟩ := h.2 i k' v' hi
    exact ⟨T', t', by rw [List.getElem?_append_left (by rw [h.1]; exact hl)]; exact e, List.mem_cons_of_mem _ hm⟩
  · subst hl
    simp at hi
    obtain ⟨rfl, rfl⟩ := hi
    exact ⟨T, t, by rw [← h.1]; simp, List.mem_cons_self⟩
  · rw [List.getElem?_eq_none (by rw [List.length_append, List.length_singleton]; omega)] at hi; cases hi

def PairsAt (h : Heap) (ys : List Value) (kvs : List (Int × Value)) (I d : Addr) : Prop :=
  ys.length = kvs.length ∧ ∀ (i : Nat) (k : Int) (v : Value), kvs[i]? = some (k, v) → ∃ T t, ys[i]? = some (.ref T) ∧ h.get? T = some (tupOf k t v) ∧ T ≠ I ∧ T ≠ d

theorem stored_snoc {kvs : List (Int × Value)} {i : Nat} {k : Int} {v : Value} (hn : (kvs.map (·.1)).Nodup) (hi : kvs[i]? = some (k, v)) : stored (kvs.take i) k v = kvs.take (i + 1) := by
  have hlt : i < kvs.length := (List.getElem?_eq_some_iff.mp hi).1
  have he : kvs[i] = (k, v) := by simpa [hlt] using hi
  unfold stored
  rw [if_neg, List.take_add_one, hi]
  · rfl
  · rw [List.any_eq_true]
    rintro ⟨x, hx, hk⟩
    have hk := of_decide_eq_true hk
    obtain ⟨j, hj, rfl⟩ := List.mem_iff_getElem.mp hx
    rw [List.length_take] at hj
    rw [List.getElem_take] at hk
    have hji : j < i := by omega
    have := (List.pairwise_iff_getElem.mp hn) j i (by simp; omega) (by simpa using hlt) hji
    simp only [List.getElem_map, he] at this
    exact this hk

section
variable {prog : Program} {w : World} {A : Around} {E : Value → Shared → Prop} {s : Shared} {h₀ : Heap} {L : Addr} {m : Str → Option Value}

theorem dictOf_at {h h' : Heap} {d : Addr} {kvs : List (Int × Value)} (x : h.DictOf (intKind prog w) d kvs) (k : ∀ o, h.get? d = some o → h'.get? d = some o) : h'.DictOf (intKind prog w) d kvs :=
  let ⟨o, es, ep, ho, r⟩ := x; ⟨o, es, ep, k o ho, r⟩

theorem update_loop {R : Result → Shared → Prop} {I D d : Addr} {ys : List Value} {kvs : List (Int × Value)} (hh : A.handled = none) (hn : (kvs.map (·.1)).Nodup) (hDI : D ≠ I) (hdI : d ≠ I) (hdD : d ≠ D) (hz : kvs.length ≤ 1000) :
    ∀ (k i : Nat) (s : Shared), kvs.length - i = k → i ≤ kvs.length → s.heap.IsListIter I D i → s.heap.IsList D ys.toArray → PairsAt s.heap ys kvs I d → s.heap.DictOf (intKind prog w) d (kvs.take i) →
    (∀ h' tk, h'.DictOf (intKind prog w) d kvs → (∀ b o, b ≠ I → b ≠ d → s.heap.get? b = some o → h'.get? b = some o) → R (.ok (.ret .none)) { s with heap := h', toks := tk }) →
    codeAny (model prog w) A (.builtin "dict.update.loop" ⟨[.ref d, .ref I, .int (i : Nat) 0, .none], []⟩) R s := by
  have W := Walks.list (prog := prog) (w := w) (A := A.in1) hh I D hDI ys.toArray
  intro k
  induction k with
  | zero =>
    intro i s hk hi hit hl hp hd hR
    have hin : i = kvs.length := by omega
    subst hin
    have hsz : ys.toArray.size = kvs.length := by simp [hp.1]
    refine codeAny_builtin entry_update_loop ?_
    rw [Around.under_plainId plain_update_loop _]
    show wpAny _ A.in1 (pyNext (.ref I) >>= _) _ _ s
    rw [hsz] at W
    refine wpAny_bind (W.done s _ _ ⟨hit, hl⟩ fun h' tk hk' => ?_)
    rw [List.take_length] at hd
    refine wpAny_bind (wpAny_pure (wpAny_pure (hR h' tk (dictOf_at hd fun o e => hk' _ o (by simpa using hdI) e) fun b o hb _ e => hk' b o (by simpa using hb) e)))
  | succ k ih =>
    intro i s hk hi hit hl hp hd hR
    have hlt : i < kvs.length := by omega
    obtain ⟨⟨key, v⟩, hx⟩ : ∃ p, kvs[i]? = some p := ⟨kvs[i], by simp [hlt]⟩
    obtain ⟨T, t, hy, hT, hTI, hTd⟩ := hp.2 i key v hx
    refine codeAny_builtin entry_update_loop ?_
    rw [Around.under_plainId plain_update_loop _]
    show wpAny _ A.in1 (pyNext (.ref I) >>= _) _ _ s
    refine wpAny_bind (W.item i s _ _ (by simp [hp.1]; exact hlt) ⟨hit, hl⟩ fun v' h' tk hP hst' hk' => ?_)
    have e : v' = .ref T := by
      have : ys[i]? = some v' := by simpa using hP
      rw [hy] at this; cases this; rfl
    subst e
    have hT' : h'.get? T = some (tupOf key t v) := hk' _ _ (by simpa using hTI) hT
    have hd' : h'.DictOf (intKind prog w) d (kvs.take i) := dictOf_at hd fun o e => hk' _ o (by simpa using hdI) e
    have hTy : ({ s with heap := h', toks := tk } : Shared).TypeIs (.ref T) "tuple" := ⟨_, hT', rfl⟩
    dsimp only
    refine wpAny_bind (wpAny_holding (wpAny_bind (wpAny_tryCatch ?_)))
    unfold Builtin.Dict.pairItems
    refine wpAny_bind (wpAny_typeOf hTy ?_)
    rw [if_pos (by decide)]
    refine wpAny_bind (wpAny_seqItems hT' rfl (wpAny_pure ?_))
    show wpAny _ A.in1 (holding [Value.int key t, v] (dictSet d (.int key t) v)) _ _ _
    refine wpAny_holding (wpAny_dictSet_pairs (hsz := by rw [sizeLine_eq, List.length_take]; omega) (intKind_is prog w key t) hd' fun h'' hd'' hs'' => ?_)
    rw [stored_snoc hn hx] at hd''
    have hk2 : ∀ b o, b ≠ I → b ≠ d → s.heap.get? b = some o → h''.get? b = some o := fun b o h1 h2 e => hs''.extBut b o h2 (hk' b o (by simpa using h1) e)
    refine wpAny_pure ⟨plainId_quiet plain_update_loop _, ih (i + 1) _ (by omega) hlt (hst'.1.at fun o e => hs''.extBut _ o (Ne.symm hdI) e) (hst'.2.at fun o e => hs''.extBut _ o (Ne.symm hdD) e) ⟨hp.1, fun j k' v' hj => ?_⟩ hd'' ?_⟩
    · obtain ⟨T', t', h1, h2, h3, h4⟩ := hp.2 j k' v' hj
      exact ⟨T', t', h1, hk2 _ _ h3 h4 h2, h3, h4⟩
    · intro h3 tk3 hd3 hk3
      exact hR h3 tk3 hd3 fun b o h1 h2 e => hk3 b o h1 h2 (hk2 b o h1 h2 e)

/-- dict(list of pairs) -/
theorem call_dict_pairs {D : Addr} {oD : Obj} {ys : List Value} {kvs : List (Int × Value)} {Q : Value → Shared → Prop} (hh : A.handled = none) (hD : s.heap.get? D = some oD) (hc : oD.cls = .type "list") (hdi : oD.dict = none) (hdt : ∃ c, oD.data = .seq ys.toArray c)
    (hp : ys.length = kvs.length ∧ ∀ (i : Nat) (k : Int) (v : Value), kvs[i]? = some (k, v) → ∃ T t, ys[i]? = some (.ref T) ∧ s.heap.get? T = some (tupOf k t v)) (hn : (kvs.map (·.1)).Nodup) (hz : kvs.length ≤ 1000)
    (h : ∀ h' tk, h'.DictOf (intKind prog w) s.heap.objs.size kvs → (∀ b o, s.heap.get? b = some o → h'.get? b = some o) → Q (.ref s.heap.objs.size) { s with heap := h', toks := tk }) :
    wpAny (model prog w) A (call (.type "dict") [.ref D]) Q E s := by
  refine callType_codes (Q₁ := fun obj s₁ => obj = .ref s.heap.objs.size ∧ s₁ = { s with heap := s.heap.push { cls := .type "dict", data := .dict #[] } }) PySem.F.kt_called_dict (PySem.F.kt_typeCall_dict_1 _) PySem.F.entry_dict_init (kt_code_dict_new _ ⟨rfl, rfl⟩) ?_
  rintro obj s₁ ⟨rfl, rfl⟩
  have hnew : (s.heap.push { cls := .type "dict", data := .dict #[] }).DictOf (intKind prog w) s.heap.objs.size [] := Heap.DictOf.new s.heap
  have hlt : D < s.heap.objs.size := Heap.lt_size hD
  generalize hd : s.heap.objs.size = d at hnew hlt ⊢
  generalize hH : s.heap.push { cls := .type "dict", data := .dict #[] } = H at hnew ⊢
  have old : ∀ b o, s.heap.get? b = some o → H.get? b = some o := fun b o e => hH ▸ Heap.get?_push_of_some _ e
  have hDT : (⟨H, s.gens, s.drawn, s.toks, s.os⟩ : Shared).TypeIs (.ref D) "list" := ⟨_, old _ _ hD, hc⟩
  refine ⟨hnew.typeIs, PySem.F.args_dict_init_2 _ _, ?_⟩
  unfold Builtin.«dict.__init__»
  refine wpAny_bind ?_
  unfold Builtin.Dict.selfAndRest
  refine wpAny_bind (wpAny_notOrdered_dict hnew.typeIs ?_)
  show wpAny _ _ (pure (d, [Value.ref D])) _ _ _
  refine wpAny_pure ?_
  show wpAny _ _ (Builtin.Dict.updateFrom "dict.__init__" d (.ref D) [] .none) _ _ _
  unfold Builtin.Dict.updateFrom
  refine wpAny_bind (wpAny_typeOf hDT ?_)
  rw [if_pos (by decide)]
  refine wpAny_bind (keys_none (A := A.in1.in1) (show A.in1.in1.handled = none from hh) (old _ _ hD) hc hdi (let ⟨c, e⟩ := hdt; ⟨_, c, e⟩) fun h1 tk1 hk1 => ?_)
  rw [if_pos (by decide)]
  dsimp only
  obtain ⟨c, hdt⟩ := hdt
  have hl1 : h1.IsList D ys.toArray := ⟨oD, hk1 _ _ (old _ _ hD), hc, c, hdt⟩
  refine wpAny_bind (wpAny_rule (wpAny_bind (wpAny_pyIter_list (s := { s with heap := h1, toks := tk1 }) hl1 ?_)))
  have hd1 : h1.DictOf (intKind prog w) d [] := dictOf_at hnew fun o e => hk1 _ _ e
  have hdlt : d < h1.objs.size := by obtain ⟨o, _, _, e, _⟩ := hd1; exact Heap.lt_size e
  have hDlt : D < h1.objs.size := by obtain ⟨o, e, _⟩ := hl1; exact Heap.lt_size e
  refine wpAny_pure ⟨plainId_quiet plain_update_loop _, ?_⟩
  have hTs : ∀ T o, s.heap.get? T = some o → T < d := fun T o e => hd ▸ Heap.lt_size e
  refine update_loop (A := A.in1) (I := h1.objs.size) (D := D) (d := d) (ys := ys) (kvs := kvs) (show A.in1.handled = none from hh) hn (Nat.ne_of_lt hDlt) (Nat.ne_of_lt hdlt) (Nat.ne_of_gt hlt) hz _ 0 _ rfl (Nat.zero_le _) ⟨_, Heap.get?_push_size _ rfl, rfl, rfl⟩ (hl1.push _) ⟨hp.1, fun i k v hi => ?_⟩ (dictOf_at hd1 fun o e => Heap.get?_push_of_some _ e) ?_
  · obtain ⟨T, t, e1, e2⟩ := hp.2 i k v hi
    have hT := hTs _ _ e2
    exact ⟨T, t, e1, Heap.get?_push_of_some _ (hk1 _ _ (old _ _ e2)), Nat.ne_of_lt (Nat.lt_trans hT hdlt), Nat.ne_of_lt hT⟩
  · intro h' tk hd' hk'
    subst hd
    exact ⟨rfl, h h' tk hd' fun b o e => hk' b o (Nat.ne_of_lt (Nat.lt_trans (hTs _ _ e) hdlt)) (Nat.ne_of_lt (hTs _ _ e)) (Heap.get?_push_of_some _ (hk1 _ _ (old _ _ e)))⟩

/-- dict(list of pairs), over a ledger -/
theorem dict_pairs {D : Addr} {ys : List Value} {tups news : List (Addr × Obj)} {kvs : List (Int × Value)} {Q : Value → Shared → Prop} (hh : A.handled = none) (hbig : sysModules < h₀.objs.size) (F : Fr h₀ L s.heap m) (N : News h₀ L s.heap ((D, lst ys) :: (tups ++ news))) (hp : PairsIn tups ys kvs) (hn : (kvs.map (·.1)).Nodup) (hz : kvs.length ≤ 1000)
    (h : ∀ d o h' tk, Fr h₀ L h' m → News h₀ L h' ((d, o) :: news) → o.IsDictOf (intKind prog w) kvs → (d == sysModules) = false → (∀ p ∈ news, p.1 < d) → Q (.ref d) { s with heap := h', toks := tk }) :
    wpAny (model prog w) A (call (.type "dict") [.ref D]) Q E s := by
  refine call_dict_pairs hh (N.get List.mem_cons_self) rfl rfl ⟨_, rfl⟩ ⟨hp.1, fun i k v hi => ?_⟩ hn hz fun h' tk hd hk => ?_
  · obtain ⟨T, t, e1, e2⟩ := hp.2 i k v hi
    exact ⟨T, t, e1, N.get (List.mem_cons_of_mem _ (List.mem_append_left _ e2))⟩
  · obtain ⟨o, ho, hd'⟩ := Heap.dictOf_iff.mp hd
    have n0 := fresh_out F
    refine h _ o h' tk (F.keeps hk) (fun p hp => ?_) hd' (F.notModules hbig) fun p hp => Heap.lt_size (N p (List.mem_cons_of_mem _ (List.mem_append_right _ hp))).1
    rcases List.mem_cons.mp hp with rfl | hp
    · exact ⟨ho, Nat.ne_of_gt F.ns.lt, n0⟩
    · have z := N p (List.mem_cons_of_mem _ (List.mem_append_right _ hp))
      exact ⟨hk _ _ z.1, z.2⟩
end
end Mine

open PySem PySem.W PyProof.Rows
set_option Elab.async false
set_option maxRecDepth 100000
namespace Mine
open PySem.Calls PyProof.Rows.LCg PyProof.Rows.LCt

theorem valueAt_get : ∀ {kvs : List (Int × Value)} {i : Nat} {k : Int} {v : Value}, (kvs.map (·.1)).Nodup → kvs[i]? = some (k, v) → valueAt kvs k = some v
  | [], i, k, v, _, h => by simp at h
  | q :: r, 0, k, v, _, h => by
    simp at h; subst h
    simp [valueAt]
  | q :: r, i + 1, k, v, hn, h => by
    rw [List.map_cons, List.nodup_cons] at hn
    simp only [List.getElem?_cons_succ] at h
    have ih := valueAt_get hn.2 h
    have hne : q.1 ≠ k := fun e => hn.1 (by rw [e]; exact List.mem_map.mpr ⟨(k, v), List.mem_of_getElem? h, rfl⟩)
    unfold valueAt at ih ⊢
    rw [List.find?_cons_of_neg (by simpa using hne)]
    exact ih

section
variable {prog : Program} {w : World} {A : Around} {E : Value → Shared → Prop} {s : Shared} {h₀ : Heap} {L : Addr} {m : Str → Option Value} {env : Env}

/-- a turn's end with a pair made -/
theorem end_pair {I C D T : Addr} {s₁ : Shared} {oI oC oD oT : Obj} {rest : Value → List (Addr × Obj) → Prop} {y : Value} {h' : Heap} {tk : Nat} {news : List (Addr × Obj)} {S : List (Addr × Obj) → Prop}
    (F : Fr h₀ L h' m) (N : News h₀ L h' ((T, oT) :: (I, oI) :: (C, oC) :: (D, oD) :: news)) (l : ∀ p ∈ (I, oI) :: (C, oC) :: (D, oD) :: news, p.1 < T) (off : Off3 I C D news) (hS : S ((T, oT) :: news)) (r : rest y ((T, oT) :: news)) :
    CompEnd h₀ L m s₁ I oI C oC D oD S rest y { s₁ with heap := h', toks := tk } := by
  refine .intro F N ((T, oT) :: news) (fun p hp => ?_) ⟨⟨Nat.ne_of_gt (l (I, oI) List.mem_cons_self), Nat.ne_of_gt (l (C, oC) (List.mem_cons_of_mem _ List.mem_cons_self)), Nat.ne_of_gt (l (D, oD) (List.mem_cons_of_mem _ (List.mem_cons_of_mem _ List.mem_cons_self)))⟩, off⟩ hS r
  rcases List.mem_cons.mp hp with rfl | hp
  · exact List.mem_cons_of_mem _ List.mem_cons_self
  rcases List.mem_cons.mp hp with rfl | hp
  · exact List.mem_cons_of_mem _ (List.mem_cons_of_mem _ List.mem_cons_self)
  rcases List.mem_cons.mp hp with rfl | hp
  · exact List.mem_cons_of_mem _ (List.mem_cons_of_mem _ (List.mem_cons_of_mem _ List.mem_cons_self))
  rcases List.mem_cons.mp hp with rfl | hp
  · exact List.mem_cons_self
  · exact List.mem_cons_of_mem _ (List.mem_cons_of_mem _ (List.mem_cons_of_mem _ (List.mem_cons_of_mem _ hp)))

/-- (place, table[place]) for place in range(n) -/
theorem pairs_rest {x tb : Str} {p1 p2 p3 p4 p5 : Pos} {kk} {scope : Scope} {cl : List (Str × Addr)} {Fin : List Value → List (Addr × Obj) → Prop} {news : List (Addr × Obj)} {d c : Addr} {od oc : Obj} {kvs : List (Int × Value)} {n : Nat}
    (hm : (d, od) ∈ news) (hd : od.IsDictOf (intKind prog w) kvs) (hc : cl.lookup tb = some c) (hcm : (c, oc) ∈ news) (hcd : oc.data = .cell (some (.ref d)))
    (hkeys : ∀ (i : Nat) (q : Int × Value), kvs[i]? = some q → q.1 = (i : Int)) (hnd : (kvs.map (·.1)).Nodup) (hn : n ≤ kvs.length)
    (hk : scope.kind = .function) (hlx : ∀ C, (compEnvC scope cl C env).kindOf x = some .local) (hlt : ∀ C, (compEnvC scope cl C env).kindOf tb = some .cell) (hdx : (x == ("__debug__" : Str)) = false) (hdt : (tb == ("__debug__" : Str)) = false)
    (fin : ∀ ys tups, PairsIn tups ys (kvs.take n) → Fin ys (tups ++ news)) :
    ∀ (k i : Nat) (ys : List Value) (tups : List (Addr × Obj)), n - i = k → i ≤ n → PairsIn tups ys (kvs.take i) →
    CompRest prog w A h₀ L m env (.Tuple [.Name x p1, .Subscript (.Name tb p2) (.Name x p3) p4] kk p5) x scope cl s (fun _ => True) (fun i v => ∃ t, v = .int (0 + (i : Int)) t) Fin k i ys (tups ++ news) := by
  intro k
  induction k with
  | zero =>
    intro i ys tups hk' hi hp
    have : i = n := by omega
    subst this
    exact CompRest.zero (fin ys tups hp)
  | succ k ih =>
    intro i ys tups hk' hi hp
    refine CompRest.succ ?_
    intro v I oI C oC D m₂ h tk E' hv hC hx F N off ne
    obtain ⟨t, rfl⟩ := hv
    rw [Int.zero_add] at hx
    have hlt' : i < kvs.length := by omega
    obtain ⟨⟨key, v⟩, hkv⟩ : ∃ p, kvs[i]? = some p := ⟨kvs[i], by simp [hlt']⟩
    have hkey := hkeys i _ hkv
    dsimp only at hkey
    subst hkey
    have hmC : (C, oC) ∈ (I, oI) :: (C, oC) :: (D, lst ys) :: (tups ++ news) := List.mem_cons_of_mem _ List.mem_cons_self
    have up : ∀ q ∈ news, q ∈ (I, oI) :: (C, oC) :: (D, lst ys) :: (tups ++ news) := fun q hq => List.mem_cons_of_mem _ (List.mem_cons_of_mem _ (List.mem_cons_of_mem _ (List.mem_append_right _ hq)))
    have hname : ∀ (p : Pos) (tk' : Nat) (Q : Value → Shared → Prop) (E : Value → Shared → Prop), Q (.int i t) { s with heap := h, toks := tk' } → wpAny (model prog w) A (eval (.Name x p) (compEnvC scope cl C env)) Q E { s with heap := h, toks := tk' } :=
      fun p tk' Q E q => LCgL.ld_own (news := (I, oI) :: (C, oC) :: (D, lst ys) :: (tups ++ news)) N hmC hC hx q (by simp [compEnvC, relabel, hk]) (hlx C) hdx
    have htab : ∀ (p : Pos) (tk' : Nat) (Q : Value → Shared → Prop) (E : Value → Shared → Prop), Q (.ref d) { s with heap := h, toks := tk' } → wpAny (model prog w) A (eval (.Name tb p) (compEnvC scope cl C env)) Q E { s with heap := h, toks := tk' } :=
      fun p tk' Q E q => lcf_cell (news := (I, oI) :: (C, oC) :: (D, lst ys) :: (tups ++ news)) N hc (up _ hcm) hcd q (by simp [compEnvC, relabel, hk]) (hlt C) hdt
    refine Tuple_ ?_
    walk1
    refine hname _ _ _ _ ?_
    walk1
    walk1
    refine htab _ _ _ _ (hname _ _ _ _ ?_)
    refine kda_item (knd := intKind prog w) (news := (I, oI) :: (C, oC) :: (D, lst ys) :: (tups ++ news)) N (up _ hm) hd (intKind_is prog w _ _) (valueAt_get hnd hkv) ?_
    walk1
    refine kup_newTuple (news := (I, oI) :: (C, oC) :: (D, lst ys) :: (tups ++ news)) F N (fun T h' F' N' l => ?_) (by show 2 ≤ sizeLine; rw [sizeLine_eq]; decide)
    refine end_pair (s₁ := { s with heap := h, toks := tk }) F' N' l off trivial (ih (i + 1) _ ((T, tupOf i t v) :: tups) (by omega) (by omega) ?_)
    have e : kvs.take (i + 1) = kvs.take i ++ [((i : Int), v)] := by rw [List.take_add_one, hkv]; rfl
    rw [e]
    exact hp.snoc

theorem pairs_all {x tb : Str} {p1 p2 p3 p4 p5 : Pos} {kk} {scope : Scope} {cl : List (Str × Addr)} {Fin : List Value → List (Addr × Obj) → Prop} {news : List (Addr × Obj)} {d c : Addr} {od oc : Obj} {kvs : List (Int × Value)} {n : Nat}
    (hm : (d, od) ∈ news) (hd : od.IsDictOf (intKind prog w) kvs) (hc : cl.lookup tb = some c) (hcm : (c, oc) ∈ news) (hcd : oc.data = .cell (some (.ref d)))
    (hkeys : ∀ (i : Nat) (q : Int × Value), kvs[i]? = some q → q.1 = (i : Int)) (hnd : (kvs.map (·.1)).Nodup) (hn : n ≤ kvs.length)
    (hk : scope.kind = .function) (hlx : ∀ C, (compEnvC scope cl C env).kindOf x = some .local) (hlt : ∀ C, (compEnvC scope cl C env).kindOf tb = some .cell) (hdx : (x == ("__debug__" : Str)) = false) (hdt : (tb == ("__debug__" : Str)) = false)
    (fin : ∀ ys tups, PairsIn tups ys (kvs.take n) → Fin ys (tups ++ news)) :
    CompRest prog w A h₀ L m env (.Tuple [.Name x p1, .Subscript (.Name tb p2) (.Name x p3) p4] kk p5) x scope cl s (fun _ => True) (fun i v => ∃ t, v = .int (0 + (i : Int)) t) Fin n 0 [] news :=
  pairs_rest hm hd hc hcm hcd hkeys hnd hn hk hlx hlt hdx hdt fin n 0 [] [] rfl (Nat.zero_le _) PairsIn.nil

abbrev keyVal (q : Int × Value) : (Tok → Value) × Value := (fun t => .int q.1 t, q.2)

/-- (place, number) for place, number in table.items() if place != out -/
theorem others_rest {a b o : Str} {p1 p2 p3 p4 p5 p6 : Pos} {kk} {scope : Scope} {cl : List (Str × Addr)} {Fin : List Value → List (Addr × Obj) → Prop} {news : List (Addr × Obj)} {d c : Addr} {od oc : Obj} {z : Int} {tz : Tok}
    (hm : (d, od) ∈ news) (hc : cl.lookup o = some c) (hcm : (c, oc) ∈ news) (hcd : oc.data = .cell (some (.int z tz)))
    (hk : scope.kind = .function) (hla : ∀ C, (compEnvC scope cl C env).kindOf a = some .local) (hlb : ∀ C, (compEnvC scope cl C env).kindOf b = some .local) (hlo : ∀ C, (compEnvC scope cl C env).kindOf o = some .cell)
    (hda : (a == ("__debug__" : Str)) = false) (hdb : (b == ("__debug__" : Str)) = false) (hdo : (o == ("__debug__" : Str)) = false) :
    ∀ (r pre : List (Int × Value)) (ys : List Value) (tups : List (Addr × Obj)), PairsIn tups ys pre → (∀ ys tups, PairsIn tups ys (pre ++ r.filter fun q => decide (q.1 ≠ z)) → Fin ys (tups ++ news)) →
    KctRest prog w A h₀ L m env (.Compare (.Name a p1) [.NotEq] [.Name o p2] p3) (.Tuple [.Name a p4, .Name b p5] kk p6) a b scope cl s (KcpAt d od) Fin (r.map keyVal) ys (tups ++ news) := by
  intro r
  induction r with
  | nil =>
    intro pre ys tups hp fin
    exact KctRest.nil (fin ys tups (by simpa using hp))
  | cons q r ih =>
    intro pre ys tups hp fin
    obtain ⟨k, v⟩ := q
    refine KctRest.cons ?_
    intro t I oI C oC D m₂ h tk E' hC ha hb F N off ne
    dsimp only at ha hb
    have hmC : (C, oC) ∈ (I, oI) :: (C, oC) :: (D, lst ys) :: (tups ++ news) := List.mem_cons_of_mem _ List.mem_cons_self
    have up : ∀ q ∈ news, q ∈ (I, oI) :: (C, oC) :: (D, lst ys) :: (tups ++ news) := fun q hq => List.mem_cons_of_mem _ (List.mem_cons_of_mem _ (List.mem_cons_of_mem _ (List.mem_append_right _ hq)))
    have ha' : ∀ (p : Pos) (tk' : Nat) (Q : Value → Shared → Prop) (E : Value → Shared → Prop), Q (.int k t) { s with heap := h, toks := tk' } → wpAny (model prog w) A (eval (.Name a p) (compEnvC scope cl C env)) Q E { s with heap := h, toks := tk' } :=
      fun p tk' Q E q => LCgL.ld_own (news := (I, oI) :: (C, oC) :: (D, lst ys) :: (tups ++ news)) N hmC hC ha q (by simp [compEnvC, relabel, hk]) (hla C) hda
    have hb' : ∀ (p : Pos) (tk' : Nat) (Q : Value → Shared → Prop) (E : Value → Shared → Prop), Q v { s with heap := h, toks := tk' } → wpAny (model prog w) A (eval (.Name b p) (compEnvC scope cl C env)) Q E { s with heap := h, toks := tk' } :=
      fun p tk' Q E q => LCgL.ld_own (news := (I, oI) :: (C, oC) :: (D, lst ys) :: (tups ++ news)) N hmC hC hb q (by simp [compEnvC, relabel, hk]) (hlb C) hdb
    have ho' : ∀ (p : Pos) (tk' : Nat) (Q : Value → Shared → Prop) (E : Value → Shared → Prop), Q (.int z tz) { s with heap := h, toks := tk' } → wpAny (model prog w) A (eval (.Name o p) (compEnvC scope cl C env)) Q E { s with heap := h, toks := tk' } :=
      fun p tk' Q E q => lcf_cell (news := (I, oI) :: (C, oC) :: (D, lst ys) :: (tups ++ news)) N hc (up _ hcm) hcd q (by simp [compEnvC, relabel, hk]) (hlo C) hdo
    refine wpAny_isTrue_Compare1 (ha' _ _ _ _ (ho' _ _ _ _ ?_))
    walk1
    walk1
    have hS : KcpAt d od (tups ++ news) := .inr ⟨od, List.mem_append_right _ hm, rfl, 0, rfl⟩
    by_cases hkz : k = z
    · rw [if_neg (by simp [hkz])]
      refine end_same (s₁ := { s with heap := h, toks := tk }) F N off hS (ih pre ys tups hp fun ys' tups' hp' => fin ys' tups' ?_)
      rw [List.filter_cons_of_neg (by simp [hkz])]
      exact hp'
    · rw [if_pos (by simp [hkz])]
      refine Tuple_ ?_
      walk1
      refine ha' _ _ _ _ ?_
      walk1
      refine hb' _ _ _ _ ?_
      walk1
      refine kup_newTuple (news := (I, oI) :: (C, oC) :: (D, lst ys) :: (tups ++ news)) F N (fun T h' F' N' l => ?_) (by show 2 ≤ sizeLine; rw [sizeLine_eq]; decide)
      refine end_pair (s₁ := { s with heap := h, toks := tk }) F' N' l off (.inr ⟨od, List.mem_cons_of_mem _ (List.mem_append_right _ hm), rfl, 0, rfl⟩) (ih (pre ++ [(k, v)]) _ ((T, tupOf k t v) :: tups) hp.snoc fun ys' tups' hp' => fin ys' tups' ?_)
      rw [List.filter_cons_of_pos (by simp [hkz])]
      simpa using hp'
end
end Mine

open PySem PySem.W PyProof.Rows
set_option Elab.async false
set_option maxRecDepth 100000
namespace Mine
open PySem.Calls PyProof.Rows.LCg PyProof.Rows.LCt

abbrev never : Value → Shared → Prop := fun _ _ => False

section
variable {prog : Program} {w : World} {A : Around} {E : Value → Shared → Prop} {R : Result → Shared → Prop} {s : Shared}

theorem turn0_eq (elt t0 i0 t1 i1 : PySem.Expr) (scope : Scope) (pos : Pos) (it acc : Value) (env : Env) :
    compTurn (.ListComp elt [⟨t0, i0, [], 0⟩, ⟨t1, i1, [], 0⟩] scope pos) 0 it acc env = (standAt i0.pos >>= fun _ => pyNext it >>= fun r => match r with
      | none => pure (.done .next)
      | some v => letOwnedTupleGo t0 it v >>= fun _ => assign t0 env v >>= fun _ =>
        (eval i1 env >>= fun x => standAt i1.pos >>= fun _ => foldedSetIterable i1 env x >>= fun x => holding [x] (pyIter x) >>= fun it2 => runOwn (.compStart (.ListComp elt [⟨t0, i0, [], 0⟩, ⟨t1, i1, [], 0⟩] scope pos) 1 it2 acc env) env >>= fun _ =>
          again (.compLoop (.ListComp elt [⟨t0, i0, [], 0⟩, ⟨t1, i1, [], 0⟩] scope pos) 0 it acc env))) := by rfl
theorem turn1_eq (elt t0 i0 t1 i1 : PySem.Expr) (scope : Scope) (pos : Pos) (it acc : Value) (env : Env) :
    compTurn (.ListComp elt [⟨t0, i0, [], 0⟩, ⟨t1, i1, [], 0⟩] scope pos) 1 it acc env = (standAt i1.pos >>= fun _ => pyNext it >>= fun r => match r with
      | none => pure (.done .next)
      | some v => letOwnedTupleGo t1 it v >>= fun _ => assign t1 env v >>= fun _ =>
        (eval elt env >>= fun x => call (.builtin "list.append") [acc, x] >>= fun _ => pure ()) >>= fun _ =>
          again (.compLoop (.ListComp elt [⟨t0, i0, [], 0⟩, ⟨t1, i1, [], 0⟩] scope pos) 1 it acc env)) := by rfl

theorem never_mono {α : Type} {M : Model} {t : Sem α} {Q : α → Shared → Prop} (h : wpAny M A t Q never s) : wpAny M A t Q E s := wpAny_mono h (fun _ _ q => q) fun _ _ e => e.elim

theorem loop1 {elt t0 i0 t1 i1 : PySem.Expr} {scope : Scope} {pos : Pos} {it acc : Value} {env : Env} (ht : ∀ v, letOwnedTupleGo t1 it v = pure ()) (I : Nat → Shared → Prop)
    (turn : ∀ n s, I n s → wpAny (model prog w) A (pyNext it) (fun r s₁ => match r with
      | none => R (.ok .next) s₁
      | some v => wpAny (model prog w) A (assign t1 env v) (fun _ s₂ => wpAny (model prog w) A (eval elt env) (fun x s₃ => wpAny (model prog w) A (call (.builtin "list.append") [acc, x]) (fun _ s₄ => ∃ m, m < n ∧ I m s₄) never s₃) never s₂) never s₁) never s)
    (n : Nat) (h : I n s) : codeAny (model prog w) A (.compLoop (.ListComp elt [⟨t0, i0, [], 0⟩, ⟨t1, i1, [], 0⟩] scope pos) 1 it acc env) R s := by
  refine codeAny_loop rfl I (fun n s hI => ?_) n h
  show wpAny _ A ((compTurn (.ListComp elt [⟨t0, i0, [], 0⟩, ⟨t1, i1, [], 0⟩] scope pos) 1 it acc env).onRaise (fun x => do noteFrame x env; theTreesLotGoes x)) _ _ s
  refine wpAny_onRaise (never_mono ?_)
  rw [turn1_eq]
  refine wpAny_bind (wpAny_standAt (wpAny_bind (wpAny_mono (turn n s hI) (fun r s₁ h₁ => ?_) fun _ _ h' => h')))
  cases r with
  | none => exact wpAny_pure h₁
  | some v =>
    refine wpAny_bind (wpAny_of_eq (ht v) ?_)
    refine wpAny_bind (wpAny_mono h₁ (fun _ s₂ h₂ => ?_) fun _ _ h' => h')
    exact wpAny_bind (wpAny_bind (wpAny_mono h₂ (fun x s₃ h₃ => wpAny_bind (wpAny_mono h₃ (fun _ s₄ h₄ => wpAny_pure (wpAny_pure ⟨rfl, h₄⟩)) fun _ _ h' => h')) fun _ _ h' => h'))

theorem start1 {elt t0 i0 t1 i1 : PySem.Expr} {scope : Scope} {pos : Pos} {it acc : Value} {env : Env}
    (h0 : codeAny (model prog w) A (.compLoop (.ListComp elt [⟨t0, i0, [], 0⟩, ⟨t1, i1, [], 0⟩] scope pos) 1 it acc env) R s)
    (h : wpAny (model prog w) A (pyIter it) (fun it' s' => codeAny (model prog w) A (.compLoop (.ListComp elt [⟨t0, i0, [], 0⟩, ⟨t1, i1, [], 0⟩] scope pos) 1 it' acc env) R s') never s) :
    codeAny (model prog w) A (.compStart (.ListComp elt [⟨t0, i0, [], 0⟩, ⟨t1, i1, [], 0⟩] scope pos) 1 it acc env) R s := by
  refine codeAny_of_tree ?_
  show wpAny _ _ ((compStart (.ListComp elt [⟨t0, i0, [], 0⟩, ⟨t1, i1, [], 0⟩] scope pos) 1 it acc env).onRaise (fun x => do noteFrame x env; standAt theWindowsPlace)) _ _ s
  refine wpAny_onRaise (never_mono ?_)
  unfold compStart
  show wpAny _ _ (ask >>= _) _ _ s
  refine wpAny_bind (wpAny_askSetting (wpAny_ite ?_))
  split
  · first
      | exact wpAny_bind (wpAny_pure (wpAny_pure (And.intro rfl h0)))
      | exact wpAny_pure (And.intro rfl h0)
  · refine wpAny_bind (wpAny_rule ?_)
    show wpAny _ _ (standAt i1.pos >>= _) _ _ s
    exact wpAny_bind (wpAny_standAt (wpAny_bind (wpAny_mono h (fun it' s' h' => wpAny_pure (And.intro rfl h')) fun _ _ x => x)))

theorem loop0 {elt t0 i0 t1 i1 : PySem.Expr} {scope : Scope} {pos : Pos} {it acc : Value} {env : Env} (hs : ∀ x, foldedSetIterable i1 env x = pure x) (I : Nat → Shared → Prop)
    (turn : ∀ n s, I n s → wpAny (model prog w) A (pyNext it) (fun r s₁ => match r with
      | none => R (.ok .next) s₁
      | some v => wpAny (model prog w) A (letOwnedTupleGo t0 it v) (fun _ s₀ => wpAny (model prog w) A (assign t0 env v) (fun _ s₂ => wpAny (model prog w) A (eval i1 env) (fun x s₃ => wpAny (model prog w) A (pyIter x) (fun it2 s₄ =>
          codeAny (model prog w) A (.compStart (.ListComp elt [⟨t0, i0, [], 0⟩, ⟨t1, i1, [], 0⟩] scope pos) 1 it2 acc env) (fun r s₅ => match r with | .ok _ => ∃ m, m < n ∧ I m s₅ | .error _ => False) s₄) never s₃) never s₂) never s₀) never s₁) never s)
    (n : Nat) (h : I n s) : codeAny (model prog w) A (.compLoop (.ListComp elt [⟨t0, i0, [], 0⟩, ⟨t1, i1, [], 0⟩] scope pos) 0 it acc env) R s := by
  refine codeAny_loop rfl I (fun n s hI => ?_) n h
  show wpAny _ A ((compTurn (.ListComp elt [⟨t0, i0, [], 0⟩, ⟨t1, i1, [], 0⟩] scope pos) 0 it acc env).onRaise (fun x => do noteFrame x env; theTreesLotGoes x)) _ _ s
  refine wpAny_onRaise (never_mono ?_)
  rw [turn0_eq]
  refine wpAny_bind (wpAny_standAt (wpAny_bind (wpAny_mono (turn n s hI) (fun r s₁ h₁ => ?_) fun _ _ h' => h')))
  cases r with
  | none => exact wpAny_pure h₁
  | some v =>
    refine wpAny_bind (wpAny_mono h₁ (fun _ s₀ h₀' => ?_) fun _ _ h' => h')
    refine wpAny_bind (wpAny_mono h₀' (fun _ s₂ h₂ => ?_) fun _ _ h' => h')
    refine wpAny_bind (wpAny_mono h₂ (fun x s₃ h₃ => wpAny_bind (wpAny_standAt (wpAny_bind (wpAny_of_eq (hs x) (wpAny_bind (wpAny_holding (wpAny_mono h₃ (fun it2 s₄ h₄ => ?_) fun _ _ h' => h'))))))) fun _ _ h' => h')
    refine wpAny_bind ?_
    unfold runOwn
    refine wpAny_onRaise (never_mono (wpAny_run ?_))
    rw [Around.mark_none]
    refine codeAny_mono h₄ fun r s' hr => ?_
    cases r with
    | ok f => exact wpAny_pure ⟨rfl, hr⟩
    | error e => exact hr
end
end Mine

open PySem PySem.W PyProof.Rows
set_option Elab.async false
set_option maxRecDepth 100000
namespace Mine
open PySem.Calls PyProof.Rows.LCg PyProof.Rows.LCt

section
variable {prog : Program} {w : World} {A : Around} {E : Value → Shared → Prop} {R : Result → Shared → Prop} {s : Shared} {h₀ : Heap} {L : Addr} {m : Str → Option Value} {env : Env}

/-- the inner clause: two numbers -/
theorem inner2 {t0 i0 i1 : PySem.Expr} {a b sh : Str} {ps q1 q2 q3 q4 q5 : Pos} {kk} {scope : Scope} {cl : List (Str × Addr)} {pos : Pos} {I C D J Z : Addr} {oI : Obj} {news : List (Addr × Obj)} {pre : List (Int × Value)} {key : Int} {t ta tb : Tok} {v : Value}
    (hh : A.handled = none) (hk : scope.kind = .function) (hxs : scope.names.lookup sh = some .local) (hla : (compEnvC scope cl C env).kindOf a = some .local) (hlb : (compEnvC scope cl C env).kindOf b = some .local) (hls : (compEnvC scope cl C env).kindOf sh = some .local)
    (hda : (a == ("__debug__" : Str)) = false) (hdb : (b == ("__debug__" : Str)) = false) (hds : (sh == ("__debug__" : Str)) = false) (has : ¬ a = sh) (hbs : ¬ b = sh)
    (hIJ : I ≠ J) (hCJ : C ≠ J) (hDJ : D ≠ J) (hZJ : Z ≠ J) (hZC : Z ≠ C) (hZD : Z ≠ D) (hLJ : L ≠ J) (hJ₀ : h₀.get? J = none) (hIC : I ≠ C) (hID : I ≠ D) (hCD : C ≠ D) (hz : pre.length ≤ 3000) :
    ∀ (k j : Nat) (s : Shared) (oC : Obj) (m₂ : Str → Option Value) (ys : List Value) (tups : List (Addr × Obj)), 2 - j = k → j ≤ 2 → s.heap.IsListIter J Z j → s.heap.IsList Z #[.int 0 ta, .int 99 tb] → Fr h₀ L s.heap m → News h₀ L s.heap ((I, oI) :: (C, oC) :: (D, lst ys) :: (tups ++ news)) → NsObj oC m₂ → m₂ a = some (.int key t) → m₂ b = some v →
      Off3 I C D (tups ++ news) → (∀ p ∈ tups ++ news, p.1 ≠ J) → PairsIn tups ys (pre ++ [(key + 0, v), (key + 99, v)].take j) →
      (∀ h' tk oC' m₃ ys' tups', Fr h₀ L h' m → News h₀ L h' ((I, oI) :: (C, oC') :: (D, lst ys') :: (tups' ++ news)) → NsObj oC' m₃ → Off3 I C D (tups' ++ news) → PairsIn tups' ys' (pre ++ [(key + 0, v), (key + 99, v)]) → R (.ok .next) { s with heap := h', toks := tk }) →
      codeAny (model prog w) A (.compLoop (.ListComp (.Tuple [.BinOp (.Name a q1) .Add (.Name sh q2) q3, .Name b q4] kk q5) [⟨t0, i0, [], 0⟩, ⟨.Name sh ps, i1, [], 0⟩] scope pos) 1 (.ref J) (.ref D) (compEnvC scope cl C env)) R s := by
  intro k₀ j₀ s₀ oC₀ m₀ ys₀ tups₀ hk₀ hj₀ hit₀ hl₀ F₀ N₀ hC₀ ha₀ hb₀ off₀ offJ₀ hp₀ hR
  have W := Walks.list (prog := prog) (w := w) (A := A) hh J Z hZJ #[Value.int 0 ta, Value.int 99 tb]
  refine loop1 (fun _ => rfl) (fun k s => ∃ h tk j oC m₂ ys tups, s = { s₀ with heap := h, toks := tk } ∧ j ≤ 2 ∧ k = 3 - j ∧ h.IsListIter J Z j ∧ h.IsList Z #[.int 0 ta, .int 99 tb] ∧ Fr h₀ L h m ∧ News h₀ L h ((I, oI) :: (C, oC) :: (D, lst ys) :: (tups ++ news)) ∧ NsObj oC m₂ ∧ m₂ a = some (.int key t) ∧ m₂ b = some v ∧
      Off3 I C D (tups ++ news) ∧ (∀ p ∈ tups ++ news, p.1 ≠ J) ∧ PairsIn tups ys (pre ++ [(key + 0, v), (key + 99, v)].take j)) ?_ (3 - j₀)
    ⟨s₀.heap, s₀.toks, j₀, oC₀, m₀, ys₀, tups₀, rfl, hj₀, rfl, hit₀, hl₀, F₀, N₀, hC₀, ha₀, hb₀, off₀, offJ₀, hp₀⟩
  rintro k s ⟨h, tk, j, oC, m₂, ys, tups, rfl, hj, rfl, hit, hl, F, N, hC, ha, hb, off, offJ, hp⟩
  have zoff : ∀ p ∈ (I, oI) :: (C, oC) :: (D, lst ys) :: (tups ++ news), p.1 ≠ J := by
    intro p hp
    rcases List.mem_cons.mp hp with rfl | hp
    · exact hIJ
    rcases List.mem_cons.mp hp with rfl | hp
    · exact hCJ
    rcases List.mem_cons.mp hp with rfl | hp
    · exact hDJ
    · exact offJ p hp
  by_cases hlt : j < 2
  · refine W.item j _ _ _ hlt ⟨hit, hl⟩ fun v' h₂ tk₂ hP hst₂ hk₂ => ?_
    obtain ⟨z, tz, rfl, hz'⟩ : ∃ (z : Int) (tz : Tok), v' = .int z tz ∧ ([(key + 0, v), (key + 99, v)] : List (Int × Value))[j]? = some (key + z, v) := by
      rcases (show j = 0 ∨ j = 1 by omega) with rfl | rfl
      · exact ⟨0, ta, by simpa using hP.symm, rfl⟩
      · exact ⟨99, tb, by simpa using hP.symm, rfl⟩
    have F₂ := fr_but F hk₂ hLJ hJ₀
    have N₂ := news_but N hk₂ zoff
    have hCm : (C, oC) ∈ (I, oI) :: (C, oC) :: (D, lst ys) :: (tups ++ news) := List.mem_cons_of_mem _ List.mem_cons_self
    have zC := N₂ _ hCm
    refine wpAny_assign_Name (wpAny_storeName_local (lookup_relabel_local hxs) (hC.ns zC.1) (fun h₃ hn₃ hs₃ => ?_) (by simp [compEnvC, relabel, hk]))
    obtain ⟨oC', heC, hoC'⟩ := ns_obj hn₃
    have offm := off.mem
    have F₃ : Fr h₀ L h₃ m := F₂.change hs₃ zC.2.1 zC.2.2
    have N₃ : News h₀ L h₃ ((I, oI) :: (C, oC') :: (D, lst ys) :: (tups ++ news)) := fun p hp => by
      rcases List.mem_cons.mp hp with rfl | hp
      · have z := N₂ _ List.mem_cons_self
        exact ⟨hs₃.extBut _ _ hIC z.1, z.2⟩
      rcases List.mem_cons.mp hp with rfl | hp
      · exact ⟨heC, zC.2⟩
      have z := N₂ _ (List.mem_cons_of_mem _ (List.mem_cons_of_mem _ hp))
      refine ⟨hs₃.extBut _ _ ?_ z.1, z.2⟩
      rcases List.mem_cons.mp hp with rfl | hp
      · exact Ne.symm hCD
      · exact (offm p hp).2.1
    have hst₃ : h₃.IsListIter J Z (j + 1) ∧ h₃.IsList Z #[.int 0 ta, .int 99 tb] := ⟨hst₂.1.at fun o e => hs₃.extBut _ o (Ne.symm hCJ) e, hst₂.2.at fun o e => hs₃.extBut _ o hZC e⟩
    have hmC : (C, oC') ∈ (I, oI) :: (C, oC') :: (D, lst ys) :: (tups ++ news) := List.mem_cons_of_mem _ List.mem_cons_self
    have hname : ∀ (x : Str) (u : Value) (p : Pos) (tk' : Nat) (Q : Value → Shared → Prop) (E : Value → Shared → Prop), (compEnvC scope cl C env).kindOf x = some .local → (x == ("__debug__" : Str)) = false → (fun x => if x = sh then some (Value.int z tz) else m₂ x) x = some u →
        Q u { s₀ with heap := h₃, toks := tk' } → wpAny (model prog w) A (eval (.Name x p) (compEnvC scope cl C env)) Q E { s₀ with heap := h₃, toks := tk' } :=
      fun x u p tk' Q E hkd hdb hx q => LCgL.ld_own (news := (I, oI) :: (C, oC') :: (D, lst ys) :: (tups ++ news)) N₃ hmC hoC' hx q (by simp [compEnvC, relabel, hk]) hkd hdb
    dsimp only
    refine Tuple_ ?_
    walk1
    walk1
    refine hname a (.int key t) _ _ _ _ hla hda (by simp [has, ha]) ?_
    refine hname sh (.int z tz) _ _ _ _ hls hds (by simp) ?_
    walk1
    walk1
    refine hname b v _ _ _ _ hlb hdb (by simp [hbs, hb]) ?_
    walk1
    refine wpAny_newTuple ?_ (by show 2 ≤ sizeLine; rw [sizeLine_eq]; decide)
    have l4 : ∀ p ∈ (I, oI) :: (C, oC') :: (D, lst ys) :: (tups ++ news), p.1 < h₃.objs.size := fun p hp => Heap.lt_size (N₃ p hp).1
    have N₄ := N₃.push F₃ (tupOf (key + z) (tk₂ + 1) v)
    have F₄ := F₃.push (tupOf (key + z) (tk₂ + 1) v)
    have hJlt : J < h₃.objs.size := by obtain ⟨o, e, _⟩ := hst₃.1; exact Heap.lt_size e
    have hlen : ys.length ≤ 3002 := by
      rw [hp.1, List.length_append, List.length_take]
      have : ([(key + 0, v), (key + 99, v)] : List (Int × Value)).length = 2 := rfl
      omega
    generalize hT : h₃.objs.size = T at N₄ l4 hJlt
    dsimp only
    have zD := N₄ (D, lst ys) (List.mem_cons_of_mem _ (List.mem_cons_of_mem _ (List.mem_cons_of_mem _ List.mem_cons_self)))
    refine append_at (hsz := by rw [sizeLine_eq, List.size_toArray]; omega) zD.1 fun h₅ hs₅ hD₅ => ?_
    have hTI : T ≠ I := Nat.ne_of_gt (l4 _ List.mem_cons_self)
    have hTC : T ≠ C := Nat.ne_of_gt (l4 _ (List.mem_cons_of_mem _ List.mem_cons_self))
    have hTD : T ≠ D := Nat.ne_of_gt (l4 _ (List.mem_cons_of_mem _ (List.mem_cons_of_mem _ List.mem_cons_self)))
    refine ⟨3 - (j + 1), by omega, h₅, _, j + 1, oC', _, ys ++ [.ref T], (T, tupOf (key + z) (tk₂ + 1) v) :: tups, rfl, hlt, rfl, (hst₃.1.at fun o e => hs₅.extBut _ o (Ne.symm hDJ) (Heap.get?_push_of_some _ e)), (hst₃.2.at fun o e => hs₅.extBut _ o hZD (Heap.get?_push_of_some _ e)), F₄.change hs₅ zD.2.1 zD.2.2, fun p hp => ?_, hoC', by simp [has, ha], by simp [hbs, hb], ⟨⟨hTI, hTC, hTD⟩, off⟩, fun p hp => ?_, ?_⟩
    · rcases List.mem_cons.mp hp with rfl | hp
      · have z := N₄ _ (List.mem_cons_of_mem _ List.mem_cons_self)
        exact ⟨hs₅.extBut _ _ hID z.1, z.2⟩
      rcases List.mem_cons.mp hp with rfl | hp
      · have z := N₄ _ (List.mem_cons_of_mem _ (List.mem_cons_of_mem _ List.mem_cons_self))
        exact ⟨hs₅.extBut _ _ hCD z.1, z.2⟩
      rcases List.mem_cons.mp hp with rfl | hp
      · exact ⟨hD₅.trans (congrArg some (lst_snoc ys (.ref T))), zD.2⟩
      rcases List.mem_cons.mp hp with rfl | hp
      · have z := N₄ _ List.mem_cons_self
        exact ⟨hs₅.extBut _ _ hTD z.1, z.2⟩
      · have z := N₄ _ (List.mem_cons_of_mem _ (List.mem_cons_of_mem _ (List.mem_cons_of_mem _ (List.mem_cons_of_mem _ hp))))
        exact ⟨hs₅.extBut _ _ (offm p hp).2.2 z.1, z.2⟩
    · rcases List.mem_cons.mp hp with rfl | hp
      · exact Nat.ne_of_gt hJlt
      · exact offJ p hp
    · have e : ([(key + 0, v), (key + 99, v)] : List (Int × Value)).take (j + 1) = ([(key + 0, v), (key + 99, v)] : List (Int × Value)).take j ++ [(key + z, v)] := by rw [List.take_add_one, hz']; rfl
      rw [e, ← List.append_assoc]
      exact hp.snoc
  · have hj2 : j = 2 := by omega
    subst hj2
    refine W.done _ _ _ ⟨hit, hl⟩ fun h₂ tk₂ hk₂ => ?_
    exact hR h₂ tk₂ oC m₂ ys tups (fr_but F hk₂ hLJ hJ₀) (news_but N hk₂ zoff) hC off hp
end
end Mine

open PySem PySem.W PyProof.Rows
set_option Elab.async false
set_option maxRecDepth 100000
namespace Mine
open PySem.Calls PyProof.Rows.LCg PyProof.Rows.LCt

def twiceOf (kvs : List (Int × Value)) : List (Int × Value) := kvs.flatMap fun q => [(q.1 + 0, q.2), (q.1 + 99, q.2)]
theorem twiceOf_length (kvs : List (Int × Value)) : (twiceOf kvs).length = 2 * kvs.length := by
  induction kvs with
  | nil => rfl
  | cons q r ih => unfold twiceOf at ih ⊢; rw [List.flatMap_cons, List.length_append, ih, List.length_cons]; simp; omega
theorem twiceOf_snoc {kvs : List (Int × Value)} {i : Nat} {q : Int × Value} (h : kvs[i]? = some q) : twiceOf (kvs.take (i + 1)) = twiceOf (kvs.take i) ++ [(q.1 + 0, q.2), (q.1 + 99, q.2)] := by
  rw [List.take_add_one, h]; unfold twiceOf; simp

section
variable {prog : Program} {w : World} {A : Around} {E : Value → Shared → Prop} {R : Result → Shared → Prop} {s : Shared} {h₀ : Heap} {L : Addr} {m : Str → Option Value} {env : Env}

abbrev twElt (a b sh : Str) (q1 q2 q3 q4 q5 : Pos) (kk : Nat) : PySem.Expr := .Tuple [.BinOp (.Name a q1) .Add (.Name sh q2) q3, .Name b q4] kk q5
abbrev twList (k0 k1 : Nat) (c0 c1 pl : Pos) : PySem.Expr := .List [.Constant (.int 0) k0 c0, .Constant (.int 99) k1 c1] pl

theorem twice_block {iter : PySem.Expr} {a b sh : Str} {pa pb tp ps q1 q2 q3 q4 q5 c0 c1 pl : Pos} {kk kt k0 k1 : Nat} {scope : Scope} {cl : List (Str × Addr)} {pos : Pos} {s₂ : Shared} {I d : Addr} {od : Obj} {ok ov : Value} {kvs : List (Int × Value)} {ep : Nat} {news : List (Addr × Obj)}
    {RR : Value → Addr → Result → Shared → Prop}
    (hh : A.handled = none) (hne : d ≠ I) (hsz : kvs.length ≤ 1000) (hat : KdkAt (intKind prog w) od kvs ep) (hmd : (d, od) ∈ news)
    (hit : IsItemIter s₂.heap I d 0 kvs.length ep ok ov)
    (hcell : ∀ y ∈ scope.names, y.2 ≠ .cell) (hkind : scope.kind = .function) (hxa : scope.names.lookup a = some .local) (hxb : scope.names.lookup b = some .local) (hxs : scope.names.lookup sh = some .local) (hab : ¬ a = b) (has : ¬ a = sh) (hbs : ¬ b = sh)
    (hda : (a == ("__debug__" : Str)) = false) (hdb : (b == ("__debug__" : Str)) = false) (hds : (sh == ("__debug__" : Str)) = false)
    (F : Fr h₀ L s₂.heap m) (N : News h₀ L s₂.heap news) (hIL : L ≠ I) (hI₀ : h₀.get? I = none) (off : ∀ p ∈ news, p.1 ≠ I)
    (hRR : ∀ D C h tk m' ys tups, Fr h₀ L h m → News h₀ L h ((D, lst ys) :: (tups ++ news)) → Off1 D (tups ++ news) → h.Ns C m' → h₀.get? C = none → h₀.get? D = none → C ≠ L → D ≠ L → C ≠ D → (∀ p ∈ tups ++ news, p.1 ≠ C) → PairsIn tups ys (twiceOf kvs) → RR (.ref D) C (.ok .next) { s₂ with heap := h, toks := tk }) :
    wpAny (model prog w) A (newList []) (fun acc s₃ => wpAny (model prog w) A (newFunctionEnv scope env.globals cl [] env.qual none .none (some env)) (fun cenv s₄ =>
      codeAny (model prog w) A (.compStart (.ListComp (twElt a b sh q1 q2 q3 q4 q5 kk) [⟨.Tuple [.Name a pa, .Name b pb] kt tp, iter, [], 0⟩, ⟨.Name sh ps, twList k0 k1 c0 c1 pl, [], 0⟩] scope pos) 0 (.ref I) acc { cenv with scope := relabel scope env }) (RR acc cenv.locals) s₄) E s₃) E s₂ := by
  refine wpAny_newObj_type (wpAny_newFunctionEnv hcell (by intro y hy; simp at hy) (fun h₁ hns₁ hsb₁ => ?_) hkind)
  dsimp only at hns₁ hsb₁ ⊢
  obtain ⟨D, hD⟩ : ∃ D : Nat, s₂.heap.objs.size = D := ⟨_, rfl⟩
  obtain ⟨C, hC⟩ : ∃ C : Nat, (s₂.heap.push { cls := .type "list", dict := none, data := .seq ([] : List Value).toArray }).objs.size = C := ⟨_, rfl⟩
  have hCD1 : C = D + 1 := by rw [← hC, Heap.size_push, hD]
  have hIlt : I < D := hD ▸ Heap.lt_size hit
  have hLlt : L < D := hD ▸ F.ns.lt
  have hnl : ∀ p ∈ news, p.1 < D := fun p hp => hD ▸ Heap.lt_size (N p hp).1
  have fresh₀ : ∀ a : Nat, D ≤ a → h₀.get? a = none := fun a ha => by
    cases e : h₀.get? a with
    | none => rfl
    | some o' => exact absurd (Heap.lt_size (F.keep a o' e)) (Nat.not_lt.mpr (hD ▸ ha))
  have ltC : ∀ b : Nat, b < D → b ≠ C := fun b hb => by omega
  have old : ∀ b o, s₂.heap.get? b = some o → h₁.get? b = some o := fun b o e => by
    have hb : b < D := hD ▸ Heap.lt_size e
    exact hsb₁.extBut b o (hC ▸ ltC b hb) (Heap.get?_push_of_some _ (Heap.get?_push_of_some _ e))
  have hacc : h₁.get? D = some (lst []) := hsb₁.extBut _ _ (by rw [hC]; exact Nat.ne_of_lt (by omega)) (Heap.get?_push_of_some _ (hD ▸ Heap.get?_push_size _ rfl))
  rw [hC] at hns₁
  have hIC : I ≠ C := ltC I hIlt
  have hID : I ≠ D := Nat.ne_of_lt hIlt
  have hCD : C ≠ D := by omega
  have hLC : L ≠ C := ltC L hLlt
  have hLD : L ≠ D := Nat.ne_of_lt hLlt
  have hC₀ : h₀.get? C = none := fresh₀ C (by omega)
  have hD₀ : h₀.get? D = none := fresh₀ D (Nat.le_refl _)
  have W := kti_itemsTurns (prog := prog) (w := w) (A := A) (knd := intKind prog w) (elts := [.Name a pa, .Name b pb]) (kk := kt) (pos := tp) hh I d hne kvs ep
  have hit₁ : IsItemIter h₁ I d 0 kvs.length ep ok ov := old _ _ hit
  have hka : (compEnvC scope cl C env).kindOf a = some .local := lookup_relabel_local hxa
  have hkb : (compEnvC scope cl C env).kindOf b = some .local := lookup_relabel_local hxb
  have hks : (compEnvC scope cl C env).kindOf sh = some .local := lookup_relabel_local hxs
  have loop : ∀ s₃ : Shared, s₃ = { s₂ with heap := h₁, toks := s₂.toks + ([] : List (Str × Value)).length } →
      codeAny (model prog w) A (.compLoop (.ListComp (twElt a b sh q1 q2 q3 q4 q5 kk) [⟨.Tuple [.Name a pa, .Name b pb] kt tp, iter, [], 0⟩, ⟨.Name sh ps, twList k0 k1 c0 c1 pl, [], 0⟩] scope pos) 0 (.ref I) (.ref D) (compEnvC scope cl C env))
        (RR (.ref D) C) s₃ := by
    rintro s₃ rfl
    refine loop0 (fun _ => rfl)
      (fun k s' => ∃ h' tk i ys m' tups, s' = { s₂ with heap := h', toks := tk } ∧ i ≤ kvs.length ∧ k = kvs.length + 1 - i ∧ (∃ ok ov, IsItemIter h' I d i kvs.length ep ok ov) ∧ Fr h₀ L h' m ∧ h'.Ns C m' ∧
        News h₀ L h' ((D, lst ys) :: (tups ++ news)) ∧ Off3 I C D (tups ++ news) ∧ PairsIn tups ys (twiceOf (kvs.take i))) ?_ (kvs.length + 1)
      ⟨h₁, _, 0, [], _, [], rfl, Nat.zero_le _, rfl, ⟨_, _, hit₁⟩, F.keeps old, hns₁, fun p hp => ?_, Off3.of fun p hp => ⟨off p hp, ltC _ (hnl p hp), Nat.ne_of_lt (hnl p hp)⟩, PairsIn.nil⟩
    · rintro k s' ⟨h', tk, i, ys, m', tups, rfl, hi, rfl, hit', F', hn', N', off', hp'⟩
      have off3 := off'.mem
      have hD' : h'.DictAt (intKind prog w) d kvs ep := hat.dictAt (N' _ (List.mem_cons_of_mem _ (List.mem_append_right _ hmd))).1
      by_cases hlt : i < kvs.length
      · refine W.item i _ _ _ hlt ⟨hit', hD'⟩ fun v h₂ tk₂ hMd hk₂ => ?_
        refine W.go i v _ _ _ hMd fun h₃ hP hst₃ hk₃ => ?_
        obtain ⟨T, key, k, x, rfl, hx, hkey, hT⟩ := hP
        have up₃ : ∀ c o, c ≠ I → h'.get? c = some o → h₃.get? c = some o := fun c o hc e => hk₃ c o (by simpa using hc) (hk₂ c o (by simpa using hc) e)
        obtain ⟨t, rfl⟩ := Value.isInt_shape hkey
        refine kcp_assign (env := compEnvC scope cl C env) hh hT hka hkb (by simp [compEnvC, relabel, hkind]) (hn'.at' fun o e => up₃ _ o (Ne.symm hIC) e) fun h₄ tk₄ hn₄ hs₄ => ?_
        have up : ∀ c o, c ≠ I → c ≠ C → h'.get? c = some o → h₄.get? c = some o := fun c o h1 h2 e => hs₄ c o h2 (up₃ c o h1 e)
        obtain ⟨⟨ok', ov', hI₃⟩, _⟩ := hst₃
        have hI₄ : IsItemIter h₄ I d (i + 1) kvs.length ep ok' ov' := hs₄ I _ hIC hI₃
        obtain ⟨oI, heI, hoI⟩ : ∃ oI : Obj, h₄.get? I = some oI ∧ ∀ h : Heap, h.get? I = some oI → ∃ ok ov, IsItemIter h I d (i + 1) kvs.length ep ok ov := ⟨_, hI₄, fun _ e => ⟨_, _, e⟩⟩
        obtain ⟨oC, heC, hoC⟩ := ns_obj hn₄
        have F₄ : Fr h₀ L h₄ m := ⟨F'.ns.at' fun o e => up _ o hIL hLC e, fun c o e => up c o (fun q => by rw [q, hI₀] at e; cases e) (fun q => by rw [q, hC₀] at e; cases e) (F'.keep c o e), F'.above⟩
        have N₄ : News h₀ L h₄ ((I, oI) :: (C, oC) :: (D, lst ys) :: (tups ++ news)) := fun q hq => by
          rcases List.mem_cons.mp hq with rfl | hq
          · exact ⟨heI, Ne.symm hIL, hI₀⟩
          rcases List.mem_cons.mp hq with rfl | hq
          · exact ⟨heC, Ne.symm hLC, hC₀⟩
          have z := N' q hq
          refine ⟨up _ _ ?_ ?_ z.1, z.2⟩
          · rcases List.mem_cons.mp hq with rfl | hq
            · exact Ne.symm hID
            · exact (off3 q hq).1
          · rcases List.mem_cons.mp hq with rfl | hq
            · exact Ne.symm hCD
            · exact (off3 q hq).2.1
        dsimp only
        refine List_ ?_
        repeat walk1
        rename_i h₅ F₅ N₅
        have l5 : ∀ p ∈ (I, oI) :: (C, oC) :: (D, lst ys) :: (tups ++ news), p.1 < h₄.objs.size := fun p hp => Heap.lt_size (N₄ p hp).1
        dsimp only at N₅ ⊢
        generalize h₄.objs.size = Z at N₅ l5 ⊢
        have hl : h₅.IsList Z #[Value.int 0 tk₄, Value.int 99 (tk₄ + 1)] := ⟨_, N₅.get List.mem_cons_self, rfl, _, rfl⟩
        have hlt5 : ∀ p ∈ (Z, ({ cls := Value.type "list", data := Data.seq #[Value.int 0 tk₄, Value.int 99 (tk₄ + 1)] } : Obj)) :: (I, oI) :: (C, oC) :: (D, lst ys) :: (tups ++ news), p.1 < h₅.objs.size := fun p hp => Heap.lt_size (N₅ p hp).1
        have hZJ : Z < h₅.objs.size := hlt5 _ List.mem_cons_self
        have hLJ : L < h₅.objs.size := F₅.ns.lt
        refine wpAny_pyIter_list (s := { s₂ with heap := h₅, toks := tk₄ + 1 + 1 }) hl ?_
        have F₆ := F₅.push { cls := .type "list_iterator", data := .fields #[.ref Z, .int 0 0] }
        have hJ₀ : h₀.get? h₅.objs.size = none := next_is_new F₅
        have N₆ : News h₀ L (h₅.push { cls := .type "list_iterator", data := .fields #[.ref Z, .int 0 0] }) ((I, oI) :: (C, oC) :: (D, lst ys) :: (tups ++ news)) := fun p hp => ⟨Heap.get?_push_of_some _ (N₅ p (List.mem_cons_of_mem _ hp)).1, (N₅ p (List.mem_cons_of_mem _ hp)).2⟩
        have hJ : (h₅.push { cls := .type "list_iterator", data := .fields #[.ref Z, .int 0 0] }).IsListIter h₅.objs.size Z 0 := ⟨_, Heap.get?_push_size _ rfl, rfl, rfl⟩
        have hl₆ := hl.push { cls := .type "list_iterator", data := .fields #[.ref Z, .int 0 0] }
        dsimp only
        generalize (h₅.push { cls := .type "list_iterator", data := .fields #[.ref Z, .int 0 0] }) = h₆ at F₆ N₆ hJ hl₆ ⊢
        generalize h₅.objs.size = J at hJ hJ₀ hlt5 hZJ hLJ ⊢
        have mI : (I, oI) ∈ (I, oI) :: (C, oC) :: (D, lst ys) :: (tups ++ news) := List.mem_cons_self
        have mC : (C, oC) ∈ (I, oI) :: (C, oC) :: (D, lst ys) :: (tups ++ news) := List.mem_cons_of_mem _ List.mem_cons_self
        have mD : (D, lst ys) ∈ (I, oI) :: (C, oC) :: (D, lst ys) :: (tups ++ news) := List.mem_cons_of_mem _ (List.mem_cons_of_mem _ List.mem_cons_self)
        have lp : codeAny (model prog w) A (.compLoop (.ListComp (twElt a b sh q1 q2 q3 q4 q5 kk) [⟨.Tuple [.Name a pa, .Name b pb] kt tp, iter, [], 0⟩, ⟨.Name sh ps, twList k0 k1 c0 c1 pl, [], 0⟩] scope pos) 1 (.ref J) (.ref D) (compEnvC scope cl C env)) (fun r s₅ =>
          match r with
          | .ok _ => ∃ m_1, m_1 < kvs.length + 1 - i ∧ ∃ h' tk i ys m' tups, s₅ = { s₂ with heap := h', toks := tk } ∧ i ≤ kvs.length ∧ m_1 = kvs.length + 1 - i ∧ (∃ ok ov, IsItemIter h' I d i kvs.length ep ok ov) ∧ Fr h₀ L h' m ∧ h'.Ns C m' ∧
              News h₀ L h' ((D, lst ys) :: (tups ++ news)) ∧ Off3 I C D (tups ++ news) ∧ PairsIn tups ys (twiceOf (kvs.take i))
          | .error _ => False) { s₂ with heap := h₆, toks := tk₄ + 1 + 1 } := by
          refine inner2 (pre := twiceOf (kvs.take i)) (key := k) (t := t) (v := x) hh hkind hxs hka hkb hks hda hdb hds has hbs (Nat.ne_of_lt (hlt5 _ (List.mem_cons_of_mem _ mI))) (Nat.ne_of_lt (hlt5 _ (List.mem_cons_of_mem _ mC))) (Nat.ne_of_lt (hlt5 _ (List.mem_cons_of_mem _ mD))) (Nat.ne_of_lt hZJ)
            (Nat.ne_of_gt (l5 _ mC)) (Nat.ne_of_gt (l5 _ mD)) (Nat.ne_of_lt hLJ) hJ₀ hIC hID hCD (by rw [twiceOf_length, List.length_take]; omega) 2 0 _ oC _ ys tups rfl (by decide) hJ hl₆ F₆ N₆ hoC (by simp [hab]) (by simp) off' (fun p hp => Nat.ne_of_lt (hlt5 p (List.mem_cons_of_mem _ (List.mem_cons_of_mem _ (List.mem_cons_of_mem _ (List.mem_cons_of_mem _ hp)))))) (by simpa using hp') ?_
          intro h' tk oC' m₃ ys' tups' F₇ N₇ hC₇ off₇ hp₇
          refine ⟨kvs.length + 1 - (i + 1), by omega, h', tk, i + 1, ys', m₃, tups', rfl, hlt, rfl, hoI h' (N₇.get List.mem_cons_self), F₇, hC₇.ns (N₇.get (List.mem_cons_of_mem _ List.mem_cons_self)), fun p hp => N₇ p (List.mem_cons_of_mem _ (List.mem_cons_of_mem _ hp)), off₇, ?_⟩
          rw [twiceOf_snoc hx]
          exact hp₇
        have W2 := Walks.list (prog := prog) (w := w) (A := A) hh J Z (Nat.ne_of_lt hZJ) #[Value.int 0 tk₄, Value.int 99 (tk₄ + 1)]
        exact start1 lp (W2.self 0 _ _ _ ⟨hJ, hl₆⟩ lp)
      · have hin : i = kvs.length := by omega
        subst hin
        rw [List.take_length] at hp'
        refine W.done _ _ _ ⟨hit', hD'⟩ fun h₂ tk₂ hk₂ => ?_
        exact hRR _ _ h₂ tk₂ _ ys tups (fr_but F' hk₂ hIL hI₀) (news_but N' hk₂ fun p hp => by
          rcases List.mem_cons.mp hp with rfl | hp
          · exact Ne.symm hID
          · exact (off3 p hp).1) off'.one (hn'.at' fun o e => hk₂ _ o (by simpa using Ne.symm hIC) e) hC₀ hD₀ (Ne.symm hLC) (Ne.symm hLD) hCD (fun p hp => (off3 p hp).2.1) hp'
    · rcases List.mem_cons.mp hp with rfl | hp
      · exact ⟨hacc, Ne.symm hLD, hD₀⟩
      · exact ⟨old _ _ (N p hp).1, (N p hp).2⟩
  rw [hD, hC]
  exact codeAny_compStart_list (loop _ rfl) (kcp_self hit₁ (loop _ rfl))
end
end Mine

open PySem PySem.W PyProof.Rows
set_option Elab.async false
set_option maxRecDepth 100000
namespace Mine
open PySem.Calls PyProof.Rows.LCg PyProof.Rows.LCt

/-- where a comprehension over a table's items begins -/
def ItSrc (prog : Program) (w : World) (A : Around) (h₀ : Heap) (L : Addr) (m : Str → Option Value) (f : List (Int × Value) → List (Int × Value)) (Q : Value → Shared → Prop) (xv : Value) (s₁ : Shared) : Prop :=
  ∃ vw d od kvs news, xv = .ref vw ∧ A.handled = none ∧ Fr h₀ L s₁.heap m ∧ News h₀ L s₁.heap news ∧ (∃ ov, s₁.heap.get? vw = some ov ∧ ov.cls = .type "dict_items" ∧ ov.data = .fields #[.ref d]) ∧ (d, od) ∈ news ∧ od.IsDictOf (intKind prog w) kvs ∧ kvs.length ≤ 1000 ∧
    ∀ ys tups, PairsIn tups ys (f kvs) → FinE h₀ L m s₁ Q ys (tups ++ news)

/-- where a comprehension over a table's items begins, under a test by a name that is closed over -/
def OthSrc (prog : Program) (w : World) (A : Around) (h₀ : Heap) (L : Addr) (m : Str → Option Value) (cl : List (Str × Addr)) (o : Str) (Q : Value → Shared → Prop) (xv : Value) (s₁ : Shared) : Prop :=
  ∃ vw d od kvs news c oc z tz, xv = .ref vw ∧ A.handled = none ∧ Fr h₀ L s₁.heap m ∧ News h₀ L s₁.heap news ∧ (∃ ov, s₁.heap.get? vw = some ov ∧ ov.cls = .type "dict_items" ∧ ov.data = .fields #[.ref d]) ∧ (d, od) ∈ news ∧ od.IsDictOf (intKind prog w) kvs ∧ kvs.length ≤ 1000 ∧
    cl.lookup o = some c ∧ (c, oc) ∈ news ∧ oc.data = .cell (some (.int z tz)) ∧ ∀ ys tups, PairsIn tups ys (kvs.filter fun q => decide (q.1 ≠ z)) → FinE h₀ L m s₁ Q ys (tups ++ news)

section
variable {prog : Program} {w : World} {A : Around} {E : Value → Shared → Prop} {s : Shared} {h₀ : Heap} {L : Addr} {m : Str → Option Value} {env : Env}

theorem twice_ListComp {iter : PySem.Expr} {a b sh : Str} {pa pb tp ps q1 q2 q3 q4 q5 c0 c1 pl : Pos} {kk kt k0 k1 : Nat} {scope : Scope} {cl : List (Str × Addr)} {pos : Pos} {Q : Value → Shared → Prop} (_F₀ : Fr h₀ L s.heap m)
    (hclos : closureFor scope env = pure cl) (hcell : ∀ y ∈ scope.names, y.2 ≠ .cell) (hkind : scope.kind = .function)
    (hnames : ∀ y ∈ scope.names, y.2 = .local → scope.names.lookup y.1 = some .local) (hxa : scope.names.lookup a = some .local) (hxb : scope.names.lookup b = some .local) (hxs : scope.names.lookup sh = some .local) (hab : ¬ a = b) (has : ¬ a = sh) (hbs : ¬ b = sh)
    (hda : (a == ("__debug__" : Str)) = false) (hdb : (b == ("__debug__" : Str)) = false) (hds : (sh == ("__debug__" : Str)) = false)
    (h : wpAny (model prog w) A (eval iter env) (ItSrc prog w A h₀ L m twiceOf Q) E s)
    (hs : ∀ x, foldedSetIterable iter env x = pure x := by intro _; rfl) :
    wpAny (model prog w) A (eval (.ListComp (twElt a b sh q1 q2 q3 q4 q5 kk) [⟨.Tuple [.Name a pa, .Name b pb] kt tp, iter, [], 0⟩, ⟨.Name sh ps, twList k0 k1 c0 c1 pl, [], 0⟩] scope pos) env) Q E s := by
  rw [eval_ListComp]
  refine wpAny_comprehension_free (use := none) rfl hs hclos hkind hnames (wpAny_mono h (fun xv s₁ h₁ => ?_) fun _ _ e => e)
  obtain ⟨vw, d, od, kvs, news, rfl, hh, F, N, hv, hmd, hd, hsz, fin⟩ := h₁
  obtain ⟨ep, hat⟩ := KdkAt.of hd
  refine wpAny_pyIter_items hv (hat.dictAt (N _ hmd).1) ?_
  refine twice_block (kvs := kvs) (ep := ep) hh (Nat.ne_of_lt (Heap.lt_size (N _ hmd).1)) hsz hat hmd (Heap.get?_push_size _ rfl) hcell hkind hxa hxb hxs hab has hbs hda hdb hds (F.push _)
    (fun p hp => ⟨Heap.get?_push_of_some _ (N p hp).1, (N p hp).2⟩) (Nat.ne_of_lt F.ns.lt) (next_is_new F) (fun p hp => Nat.ne_of_lt (Heap.lt_size (N p hp).1)) ?_
  intro D C h tk m' ys tups F' N' o1 hn hC₀ hD₀ hCL hDL hCD offC hp
  refine ⟨m', hn, fun h'' hs'' => fin ys tups hp D h'' tk (F'.change hs'' hCL hC₀) (fun p hp => ?_) o1⟩
  refine ⟨hs''.extBut _ _ ?_ (N' p hp).1, (N' p hp).2⟩
  rcases List.mem_cons.mp hp with rfl | hp
  · exact Ne.symm hCD
  · exact offC p hp

/-- table.items() under a test place != out -/
theorem others_ListComp {iter : PySem.Expr} {a b o : Str} {pa pb tp p1 p2 p3 p4 p5 p6 : Pos} {kk kt : Nat} {scope : Scope} {cl : List (Str × Addr)} {pos : Pos} {Q : Value → Shared → Prop} (F₀ : Fr h₀ L s.heap m)
    (hclos : closureFor scope env = pure cl) (hcell : ∀ y ∈ scope.names, y.2 ≠ .cell) (hkind : scope.kind = .function)
    (hnames : ∀ y ∈ scope.names, y.2 = .local → scope.names.lookup y.1 = some .local) (hxa : scope.names.lookup a = some .local) (hxb : scope.names.lookup b = some .local) (hab : ¬ a = b)
    (hlo : ∀ C, (compEnvC scope cl C env).kindOf o = some .cell)
    (hda : (a == ("__debug__" : Str)) = false) (hdb : (b == ("__debug__" : Str)) = false) (hdo : (o == ("__debug__" : Str)) = false)
    (h : wpAny (model prog w) A (eval iter env) (OthSrc prog w A h₀ L m cl o Q) E s)
    (hs : ∀ x, foldedSetIterable iter env x = pure x := by intro _; rfl) :
    wpAny (model prog w) A (eval (.ListComp (.Tuple [.Name a p4, .Name b p5] kk p6) [⟨.Tuple [.Name a pa, .Name b pb] kt tp, iter, [.Compare (.Name a p1) [.NotEq] [.Name o p2] p3], 0⟩] scope pos) env) Q E s := by
  refine kct_ListComp (intKind prog w) F₀ hclos hcell hkind hnames hxa hxb hab (wpAny_mono h (fun xv s₁ h₁ => ?_) fun _ _ e => e) hs
  obtain ⟨vw, d, od, kvs, news, c, oc, z, tz, rfl, hh, F, N, hv, hmd, hd, hsz, hc, hcm, hcd, fin⟩ := h₁
  refine ⟨vw, d, od, kvs, kvs.map keyVal, news, rfl, hh, F, N, hv, hmd, hd, by rw [sizeLine_eq]; omega, by rw [List.length_map], fun i k x key hi hkey => ?_, fun g => ?_⟩
  · obtain ⟨t, rfl⟩ := Value.isInt_shape hkey
    exact ⟨keyVal (k, x), by rw [List.getElem?_map, hi]; rfl, rfl, t, rfl⟩
  · exact others_rest (c := c) (od := od) (d := d) hmd hc hcm hcd hkind (fun C => lookup_relabel_local hxa) (fun C => lookup_relabel_local hxb) hlo hda hdb hdo kvs [] [] [] PairsIn.nil (fun ys tups hp => by
      have := fin ys tups (by simpa using hp)
      exact this)
end
end Mine

open PySem PySem.W PyProof.Rows
set_option Elab.async false
set_option maxRecDepth 100000
namespace Mine

theorem digits_mono {a b : Int} (ha : 0 < a) (hab : a ≤ b) : digits a ≤ digits b := by
  have hb : 0 < b := by omega
  have h0 : 0 < digits b := by
    unfold digits
    rw [PySem.ofString_length]
    obtain ⟨n, rfl⟩ : ∃ n : Nat, b = (n : Int) := ⟨b.toNat, by omega⟩
    show ((0 : Nat) : Int) < ((Nat.repr n).length : Int)
    have := @Nat.length_repr_pos n
    omega
  obtain ⟨k, hk⟩ : ∃ k : Nat, digits b = (k : Int) := ⟨(digits b).toNat, by omega⟩
  rw [hk]
  have h1 := (digits_le (k := k) hb (by omega)).mp (by omega)
  exact (digits_le (k := k) ha (by omega)).mpr (by omega)

theorem mem_nums {kvs : List (Int × Value)} {x : Int} : x ∈ nums kvs ↔ ∃ q ∈ kvs, numOf q.2 = some x := by
  unfold nums; rw [List.mem_filterMap]
theorem hasNone_iff {kvs : List (Int × Value)} : hasNone kvs = true ↔ ∃ q ∈ kvs, isNum q.2 = false := by
  unfold hasNone; rw [List.any_eq_true]; simp
theorem maxi_le_of {a b : List Int} (h : ∀ x ∈ a, ∃ y ∈ b, x ≤ y) : maxi a ≤ maxi b := by
  rcases maxi_mem a 0 with h1 | h1
  · have := (maxi_ge b 0).1
    unfold maxi; omega
  · obtain ⟨y, hy, hle⟩ := h _ h1
    have := (maxi_ge b 0).2 y hy
    unfold maxi; omega
theorem hasNone_congr {a b : List (Int × Value)} (h : (∃ q ∈ a, isNum q.2 = false) ↔ ∃ q ∈ b, isNum q.2 = false) : hasNone a = hasNone b := by
  rw [← hasNone_iff, ← hasNone_iff] at h
  cases ha : hasNone a <;> cases hb : hasNone b <;> simp_all

theorem width_nonneg (kvs : List (Int × Value)) : 0 ≤ widthOf kvs := by
  unfold widthOf
  split
  · omega
  · split <;> omega
theorem width_mono {a b : List (Int × Value)} (ha : TabOk a) (hn : ∀ x ∈ nums a, x ∈ nums b) (hh : hasNone a = true → hasNone b = true) : widthOf a ≤ widthOf b := by
  by_cases e : nums a = []
  · have := width_nonneg b
    unfold widthOf; rw [if_pos e]; exact this
  · have e' : nums b ≠ [] := by
      obtain ⟨x, r, h⟩ := List.exists_cons_of_ne_nil e
      intro q
      have := hn x (by rw [h]; exact List.mem_cons_self)
      rw [q] at this; cases this
    have hm : maxi (nums a) ≤ maxi (nums b) := maxi_le_of fun x hx => ⟨x, hn x hx, Int.le_refl _⟩
    have hd := digits_mono (maxi_bounds ha e).1 hm
    unfold widthOf
    rw [if_neg e, if_neg e']
    split <;> split <;> rename_i h1 h2
    · omega
    · have := hh h1.2
      have : ¬ max 3 (digits (maxi (nums b))) < 4 := fun q => h2 ⟨q, this⟩
      omega
    · omega
    · omega
theorem width_congr {a b : List (Int × Value)} (e1 : nums a = [] ↔ nums b = []) (e2 : nums a ≠ [] → maxi (nums a) = maxi (nums b)) (e3 : hasNone a = hasNone b) : widthOf a = widthOf b := by
  unfold widthOf
  by_cases e : nums a = []
  · rw [if_pos e, if_pos (e1.mp e)]
  · rw [if_neg e, if_neg (fun q => e (e1.mpr q)), e2 e, e3]

/-- a table with a place more is no narrower -/
theorem width_prefix {kvs : List (Int × Value)} (h : TabOk kvs) (k : Nat) : widthOf (kvs.take k) ≤ widthOf (kvs.take (k + 1)) := by
  have hs : ∀ q ∈ kvs.take k, q ∈ kvs.take (k + 1) := fun q hq => List.mem_of_mem_take (i := k) (by rw [List.take_take, Nat.min_eq_left (Nat.le_succ k)]; exact hq)
  refine width_mono ⟨?_, fun x hx => h.2 x (List.mem_of_mem_take hx)⟩ (fun x hx => ?_) fun hx => ?_
  · have := h.1; rw [List.length_take]; omega
  · obtain ⟨q, hq, e⟩ := mem_nums.mp hx
    exact mem_nums.mpr ⟨q, hs q hq, e⟩
  · obtain ⟨q, hq, e⟩ := hasNone_iff.mp hx
    exact hasNone_iff.mpr ⟨q, hs q hq, e⟩

theorem mem_twice {kvs : List (Int × Value)} {q : Int × Value} : q ∈ twiceOf kvs ↔ ∃ p ∈ kvs, q = (p.1 + 0, p.2) ∨ q = (p.1 + 99, p.2) := by
  unfold twiceOf
  rw [List.mem_flatMap]
  constructor
  · rintro ⟨p, hp, h⟩; exact ⟨p, hp, by simpa using h⟩
  · rintro ⟨p, hp, h⟩; exact ⟨p, hp, by simpa using h⟩
/-- each number told twice -/
theorem width_twice (kvs : List (Int × Value)) : widthOf (twiceOf kvs) = widthOf kvs := by
  have hmem : ∀ x, x ∈ nums (twiceOf kvs) ↔ x ∈ nums kvs := by
    intro x
    rw [mem_nums, mem_nums]
    constructor
    · rintro ⟨q, hq, e⟩
      obtain ⟨p, hp, rfl | rfl⟩ := mem_twice.mp hq
      · exact ⟨p, hp, e⟩
      · exact ⟨p, hp, e⟩
    · rintro ⟨p, hp, e⟩
      exact ⟨(p.1 + 0, p.2), mem_twice.mpr ⟨p, hp, .inl rfl⟩, e⟩
  refine width_congr ?_ (fun _ => ?_) (hasNone_congr ?_)
  · rw [List.eq_nil_iff_forall_not_mem, List.eq_nil_iff_forall_not_mem]
    exact forall_congr' fun x => not_congr (hmem x)
  · exact Int.le_antisymm (maxi_le_of fun x hx => ⟨x, (hmem x).mp hx, Int.le_refl _⟩) (maxi_le_of fun x hx => ⟨x, (hmem x).mpr hx, Int.le_refl _⟩)
  · constructor
    · rintro ⟨q, hq, e⟩
      obtain ⟨p, hp, rfl | rfl⟩ := mem_twice.mp hq
      · exact ⟨p, hp, e⟩
      · exact ⟨p, hp, e⟩
    · rintro ⟨p, hp, e⟩
      exact ⟨(p.1 + 0, p.2), mem_twice.mpr ⟨p, hp, .inl rfl⟩, e⟩

abbrev restOf (kvs : List (Int × Value)) (z : Int) : List (Int × Value) := kvs.filter fun q => decide (q.1 ≠ z)
/-- a number taken out that isn't the greatest, beside others -/
theorem width_rest {kvs : List (Int × Value)} {z n : Int} {t : Tok} (hk : ∀ q ∈ kvs, q.1 = z → q.2 = .int n t) (hne : nums (restOf kvs z) ≠ []) (hle : n ≤ maxi (nums (restOf kvs z))) : widthOf (restOf kvs z) = widthOf kvs := by
  have hs : ∀ x ∈ nums (restOf kvs z), x ∈ nums kvs := by
    intro x hx
    obtain ⟨q, hq, e⟩ := mem_nums.mp hx
    exact mem_nums.mpr ⟨q, (List.mem_filter.mp hq).1, e⟩
  obtain ⟨x₀, r₀, hx₀⟩ := List.exists_cons_of_ne_nil hne
  have hx₀m : x₀ ∈ nums (restOf kvs z) := by rw [hx₀]; exact List.mem_cons_self
  refine width_congr ⟨fun e => absurd e hne, fun e => ?_⟩ (fun _ => ?_) (hasNone_congr ⟨?_, ?_⟩)
  · have := hs _ hx₀m
    rw [e] at this; cases this
  · refine Int.le_antisymm (maxi_le_of fun x hx => ⟨x, hs x hx, Int.le_refl _⟩) ?_
    rcases maxi_mem (nums kvs) 0 with h1 | h1
    · have := (maxi_ge (nums (restOf kvs z)) 0).1
      unfold maxi; omega
    · obtain ⟨q, hq, e⟩ := mem_nums.mp h1
      by_cases hz : q.1 = z
      · rw [hk q hq hz] at e
        have e' : some n = some (List.foldl max 0 (nums kvs)) := e
        have : n = maxi (nums kvs) := by cases e'; rfl
        omega
      · exact (maxi_ge (nums (restOf kvs z)) 0).2 _ (mem_nums.mpr ⟨q, List.mem_filter.mpr ⟨hq, by simp [hz]⟩, e⟩)
  · rintro ⟨q, hq, e⟩
    exact ⟨q, (List.mem_filter.mp hq).1, e⟩
  · rintro ⟨q, hq, e⟩
    refine ⟨q, List.mem_filter.mpr ⟨hq, ?_⟩, e⟩
    have : q.1 ≠ z := fun hz => by rw [hk q hq hz] at e; cases e
    simp [this]

theorem TabOk.take {kvs : List (Int × Value)} (h : TabOk kvs) (k : Nat) : TabOk (kvs.take k) := ⟨by have := h.1; rw [List.length_take]; omega, fun x hx => h.2 x (List.mem_of_mem_take hx)⟩
theorem TabOk.rest {kvs : List (Int × Value)} (h : TabOk kvs) (z : Int) : TabOk (restOf kvs z) := ⟨Nat.le_trans (List.length_filter_le _ _) h.1, fun x hx => h.2 x (List.mem_filter.mp hx).1⟩

/-- the whole table -/
structure Whole (kvs : List (Int × Value)) : Prop where
  ok : TabOk kvs
  len : kvs.length ≤ 10
  keys : ∀ (i : Nat) (q : Int × Value), kvs[i]? = some q → q.1 = (i : Int)
theorem TabIs.whole {kvs : List (Int × Value)} {ns : List Int} (h : TabIs kvs (List.take 10 ns)) : Whole kvs where
  ok := h.ok
  len := by rw [h.1, List.length_take]; omega
  keys := fun i q hi => by
    have hlt : i < (List.take 10 ns).length := by rw [← h.1]; exact (List.getElem?_eq_some_iff.mp hi).1
    obtain ⟨v, e, _⟩ := h.2 i _ (List.getElem?_eq_getElem hlt)
    rw [hi] at e; cases e; rfl
theorem Whole.nodup {kvs : List (Int × Value)} (h : Whole kvs) : (kvs.map (·.1)).Nodup := by
  rw [List.Nodup, List.pairwise_iff_getElem]
  intro i j hi hj hij e
  simp only [List.getElem_map] at e
  rw [List.length_map] at hi hj
  have h1 := h.keys i _ (List.getElem?_eq_getElem hi)
  have h2 := h.keys j _ (List.getElem?_eq_getElem hj)
  omega
theorem Whole.takeNodup {kvs : List (Int × Value)} (h : Whole kvs) (k : Nat) : ((kvs.take k).map (·.1)).Nodup := by
  rw [List.map_take]; exact List.Nodup.sublist (List.take_sublist _ _) h.nodup
theorem Whole.restNodup {kvs : List (Int × Value)} (h : Whole kvs) (z : Int) : ((restOf kvs z).map (·.1)).Nodup := List.Nodup.sublist (List.Sublist.map _ List.filter_sublist) h.nodup
theorem Whole.at_key {kvs : List (Int × Value)} (h : Whole kvs) {i : Nat} {v : Value} (hi : kvs[i]? = some ((i : Int), v)) : ∀ q ∈ kvs, q.1 = (i : Int) → q.2 = v := by
  intro q hq e
  obtain ⟨j, hj, rfl⟩ := List.mem_iff_getElem.mp hq
  have h1 := h.keys j _ (List.getElem?_eq_getElem hj)
  have : j = i := by omega
  subst this
  rw [List.getElem?_eq_getElem hj] at hi
  cases hi' : kvs[j]
  rw [hi'] at hi; cases hi; rfl
theorem Whole.twiceNodup {kvs : List (Int × Value)} (h : Whole kvs) : ((twiceOf kvs).map (·.1)).Nodup := by
  have hk : ∀ q ∈ kvs, 0 ≤ q.1 ∧ q.1 < 10 := by
    intro q hq
    obtain ⟨j, hj, rfl⟩ := List.mem_iff_getElem.mp hq
    have h1 := h.keys j _ (List.getElem?_eq_getElem hj)
    have := h.len
    omega
  have hn := h.nodup
  clear h
  induction kvs with
  | nil => exact List.nodup_nil
  | cons q r ih =>
    rw [List.map_cons, List.nodup_cons] at hn
    have hq := hk q List.mem_cons_self
    have hr := fun p hp => hk p (List.mem_cons_of_mem _ hp)
    have ih' := ih hr hn.2
    have hno : ∀ x ∈ (twiceOf r).map (·.1), x ≠ q.1 + 0 ∧ x ≠ q.1 + 99 := by
      intro x hx
      obtain ⟨u, hu, rfl⟩ := List.mem_map.mp hx
      obtain ⟨p, hp, e⟩ := mem_twice.mp hu
      have h1 := hr p hp
      have h2 : p.1 ≠ q.1 := fun e => hn.1 (by rw [← e]; exact List.mem_map.mpr ⟨p, hp, rfl⟩)
      rcases e with rfl | rfl
      · show p.1 + 0 ≠ q.1 + 0 ∧ p.1 + 0 ≠ q.1 + 99; omega
      · show p.1 + 99 ≠ q.1 + 0 ∧ p.1 + 99 ≠ q.1 + 99; omega
    have e : (twiceOf (q :: r)).map (·.1) = (q.1 + 0) :: (q.1 + 99) :: (twiceOf r).map (·.1) := rfl
    rw [e, List.nodup_cons, List.nodup_cons]
    refine ⟨fun hm => ?_, fun hm => (hno _ hm).2 rfl, ih'⟩
    rcases List.mem_cons.mp hm with e | hm
    · omega
    · exact (hno _ hm).1 rfl
theorem Whole.twiceOk {kvs : List (Int × Value)} (h : Whole kvs) : TabOk (twiceOf kvs) := by
  refine ⟨by rw [twiceOf_length]; have := h.len; omega, fun x hx => ?_⟩
  obtain ⟨p, hp, rfl | rfl⟩ := mem_twice.mp hx
  · exact h.ok.2 p hp
  · exact h.ok.2 p hp
end Mine

open PySem PySem.W PyProof.Rows
set_option Elab.async false
set_option maxRecDepth 100000
namespace Mine
open PySem.Calls PyProof.Rows.LCg PyProof.Rows.LCt

section
variable {prog : Program} {w : World} {A : Around} {E : Value → Shared → Prop} {s : Shared} {h₀ : Heap} {m₀ : Str → Option Value} {env : Env} {news : List (Addr × Obj)}

/-- a turn's end: the ledger stands as it stood, two names may have turned -/
def KeepTurn (h₀ : Heap) (L : Addr) (m₀ : Str → Option Value) (nw : List (Addr × Obj)) (x y : Str) (Q : Flow → Shared → Prop) (s : Shared) (f : Flow) (s₂ : Shared) : Prop :=
  match f with
  | .ret v => Q (.ret v) s₂
  | .brk => Q .next s₂
  | _ => ∃ h' tk m', s₂ = { s with heap := h', toks := tk } ∧ Fr h₀ L h' m' ∧ News h₀ L h' nw ∧ ∀ z, z ≠ x → z ≠ y → m' z = m₀ z
theorem KeepTurn.next {h' : Heap} {L : Addr} {m₀ m' : Str → Option Value} {nw all : List (Addr × Obj)} {x y : Str} {Q : Flow → Shared → Prop} {tk : Nat} (F : Fr h₀ L h' m') (N : News h₀ L h' all) (hs : ∀ p ∈ nw, p ∈ all) (hm : ∀ z, z ≠ x → z ≠ y → m' z = m₀ z) :
    KeepTurn h₀ L m₀ nw x y Q s .next { s with heap := h', toks := tk } := ⟨h', tk, m', rfl, F, fun p hp => N p (hs p hp), hm⟩

theorem range_keep {r : Addr} {t₀ u₀ v₀ : Tok} {n : Nat} {x y : Str} {body : List Stmt} {Q : Flow → Shared → Prop} (hh : A.handled = none) (hr : IsRange s.heap r 0 (n : Int) 1 t₀ u₀ v₀) (hn : n ≤ 1000) (F : Fr h₀ env.locals s.heap m₀) (N : News h₀ env.locals s.heap news)
    (turn : ∀ (k : Nat) t (u : Str → Option Value) h tk nw, k < n → (∀ p ∈ news, p ∈ nw) → Fr h₀ env.locals h (fun z => if z = x then some (.int k t) else if z = y then u z else m₀ z) → News h₀ env.locals h nw →
      wpAny (model prog w) A (execs body env) (KeepTurn h₀ env.locals m₀ nw x y Q { s with heap := h, toks := tk }) E { s with heap := h, toks := tk })
    (done : ∀ (u : Str → Option Value) h tk, Fr h₀ env.locals h (fun z => if z = x then u z else if z = y then u z else m₀ z) → News h₀ env.locals h news → Q .next { s with heap := h, toks := tk }) :
    wpAny (model prog w) A (pyIter (.ref r)) (fun it s₂ => LoopAtV prog w A h₀ env x body Q E it s₂) E s := by
  have hm : ∀ m₁ : Str → Option Value, (∀ z, z ≠ x → z ≠ y → m₁ z = m₀ z) → (fun z => if z = x then m₁ z else if z = y then m₁ z else m₀ z) = m₁ := by
    intro m₁ h
    funext z
    by_cases h1 : z = x
    · simp [h1]
    · by_cases h2 : z = y
      · simp [h2]
      · simp only [if_neg h1, if_neg h2]; exact (h z h1 h2).symm
  refine tbr_invG (a₀ := 0) (b₀ := (n : Int)) (n := n) (fun _ m₁ nx => nx = news ∧ ∀ z, z ≠ x → z ≠ y → m₁ z = m₀ z) hh hr ?_ ?_ F N ⟨rfl, fun _ _ _ => rfl⟩ ?_ ?_
  · exact small_one (by decide) (by decide) (by omega) (by omega)
  · have := rangeSize_nat 0 n
    simpa using this
  · rintro i k t m₁ nx h tk own hi hoff ⟨rfl, hm₁⟩ F₁ N₁
    have hin : i < n := by
      have := (List.getElem?_eq_some_iff.mp hi).1
      rwa [rangeKs_length] at this
    have hk : k = (i : Int) := by
      have : (rangeKs 0 n)[i]? = some (0 + (i : Int)) := by simp [rangeKs, hin]
      rw [this] at hi; cases hi; omega
    subst hk
    have e : (fun z => if z = x then some (Value.int i t) else m₁ z) = fun z => if z = x then some (Value.int i t) else if z = y then m₁ z else m₀ z := by
      funext z
      by_cases h1 : z = x
      · simp [h1]
      · by_cases h2 : z = y
        · simp [h2]
        · simp only [if_neg h1, if_neg h2]; exact hm₁ z h1 h2
    rw [e] at F₁
    refine wpAny_mono (turn i t m₁ h tk (nx ++ own) hin (fun p hp => List.mem_append_left _ hp) F₁ N₁) (fun f s₂ hp => ?_) fun _ _ e => e
    have fin : (∃ h' tk' m', s₂ = { ({ s with heap := h, toks := tk } : Shared) with heap := h', toks := tk' } ∧ Fr h₀ env.locals h' m' ∧ News h₀ env.locals h' (nx ++ own) ∧ ∀ z, z ≠ x → z ≠ y → m' z = m₀ z) → TbEnd h₀ env.locals (fun m₁ nx' => nx' = nx ∧ ∀ z, z ≠ x → z ≠ y → m₁ z = m₀ z) own { s with heap := h, toks := tk } s₂ := by
      rintro ⟨h', tk', m', rfl, F', N', hm'⟩
      exact ⟨h', tk', m', nx ++ own, nx, rfl, F', N', fun p hp => List.mem_append_left _ hp, fun p hp => List.mem_append_right _ hp, hoff, rfl, hm'⟩
    cases f with
    | ret v => exact hp
    | brk => exact hp
    | next => exact fin hp
    | cont => exact fin hp
  · rintro m₁ nx h tk ⟨rfl, hm₁⟩ F₁ N₁
    exact done m₁ h tk (by rw [hm m₁ hm₁]; exact F₁) N₁
end
theorem rs_k (k : Nat) : Builtin.Range.rangeSize 0 (k : Int) 1 = ((k : Nat) : Int) := by
  have := rangeSize_nat 0 k
  simpa using this
theorem rs_k1 (k : Nat) : Builtin.Range.rangeSize 0 ((k : Int) + 1) 1 = ((k + 1 : Nat) : Int) := by
  have := rs_k (k + 1)
  simpa using this
theorem Whole.small {kvs : List (Int × Value)} (h : Whole kvs) : kvs.length ≤ 1000 := by have := h.len; omega
theorem Whole.takeSmall {kvs : List (Int × Value)} (h : Whole kvs) (k : Nat) : (kvs.take k).length ≤ 1000 := by have := h.len; rw [List.length_take]; omega
theorem Whole.restSmall {kvs : List (Int × Value)} (h : Whole kvs) (z : Int) : (restOf kvs z).length ≤ 1000 := Nat.le_trans (List.length_filter_le _ _) h.small
theorem Whole.twiceSmall {kvs : List (Int × Value)} (h : Whole kvs) : (twiceOf kvs).length ≤ 1000 := by have := h.len; rw [twiceOf_length]; omega
end Mine

open PySem PySem.W PyProof.Rows
set_option Elab.async false
set_option maxRecDepth 100000
set_option maxHeartbeats 8000000
namespace Mine
open PySem.Calls PyProof.Rows.LCg PyProof.Rows.LCt

def fnBody : Stmt → List Stmt
  | .FunctionDef _ _ b _ _ _ _ _ _ _ => b
  | _ => []
def fnScope : Stmt → Scope
  | .FunctionDef _ _ _ _ _ _ sc _ _ _ => sc
  | _ => { kind := .module, names := [], isGenerator := false, isCoroutine := false, more := [] }
def forBody : Stmt → List Stmt
  | .For _ _ b _ _ => b
  | _ => []
abbrev topStmts : List Stmt := PySem.Challenge.pw_gc0002_01.main.body
/-- the law's own def, out of the row's program -/
def lawBody : List Stmt := match topStmts with
  | [_, _, _, _, _, _, _, _, f] => fnBody f
  | _ => []
def lawScope : Scope := match topStmts with
  | [_, _, _, _, _, _, _, _, f] => fnScope f
  | _ => { kind := .module, names := [], isGenerator := false, isCoroutine := false, more := [] }
def bodyA : List Stmt := match lawBody with
  | [_, _, f, _, _, _] => forBody f
  | _ => []
def bodyB : List Stmt := match lawBody with
  | [_, _, _, f, _, _] => forBody f
  | _ => []

local macro_rules | `(tactic| k_mem) => `(tactic| first | with_reducible exact List.mem_cons_self | with_reducible assumption | (refine List.mem_cons_of_mem _ ?_; k_mem))
local macro_rules | `(tactic| k_room) => `(tactic| ktr_room)
local macro_rules | `(tactic| walk_at "call ref") => `(tactic| (k_here; (with_reducible show wpAny _ _ (call (Value.ref 21) [Value.ref _]) _ _ _); k_dflt (refine' tells_use ?k1 ?k2 ?k3 ?k4 ?k5 ?kK ?kR (width_tells _ _ _ _ _ _) ?ko ?kd ?ku ?_; (case k1 => k_asm); (case k2 => k_asm); (case k3 => k_asm); (case k4 => k_asm); (case k5 => k_asm); (case kK => rfl); (case kR => exact ⟨_, _, rfl, by k_mem, by k_asm, by k_asm⟩); (case ko => first | assumption | exact Whole.ok (by assumption) | exact TabOk.take (Whole.ok (by assumption)) _ | exact TabOk.rest (Whole.ok (by assumption)) _ | exact Whole.twiceOk (by assumption)); (case kd => (show _ + 5 < recursionLimit; ktr_room)); (case ku => (show _ + 8 * 5 < cLine; ktr_units)); intro r9' tl9' h' tk' F' N' hl9' ht9' ho9'; (subst ht9'; clear hl9'); (simp only [List.append_nil] at N'); (obtain ⟨t9', e9'⟩ := ho9'; subst e9'); (try dsimp only); (try k_fold))))
local macro_rules | `(tactic| walk_at "eval ListComp") => `(tactic| (k_here; lcf_look; k_dflt (refine LCg.ListComp_U (F₀ := by k_asm) (by with_unfolding_all rfl) (by decide) (by rfl) (by decide) (by rfl) ?_)))
local macro_rules | `(tactic| walk_at "CompSrc") => `(tactic| (k_here; k_dflt (refine' CompSrc.range ?h ?F ?N ?r ?s ?n ?z (fun g' => pairs_all ?hm ?hd ?hc ?hcm ?hcd ?ks ?nd ?le rfl (fun _ => rfl) (fun _ => rfl) (by decide) (by decide) (fun ys' tups' hp' => ?_)); (case h => rfl); (case F => k_asm); (case N => k_asm); (case r => assumption); (case n => first | with_reducible exact rs_k1 _ | exact rs_k _); (case hc => rfl); (case hcm => k_mem); (case hcd => k_asm); (case hm => k_mem); (case hd => k_asm); (case ks => exact Whole.keys (by assumption)); (case nd => exact Whole.nodup (by assumption)); (case le => omega); (case s => exact small_one (by decide) (by decide) (by (have hW9 := Whole.len (by assumption)); omega) (by (have hW9 := Whole.len (by assumption)); omega)); (case z => (rw [sizeLine_eq]; (have hW9 := Whole.len (by assumption)); omega)))))
local macro_rules | `(tactic| walk_at "call type:dict") => `(tactic| (k_here; k_dflt (refine' dict_pairs ?hh ?big ?F ?N ?hp ?nd ?z (fun d' o' h' tk' F' N' hd' lo' l' => ?_); (case hh => rfl); (case F => k_asm); (case N => k_asm); (case hp => assumption); (case big => exact modules_low (Top.nolimit (by k_asm))); (case nd => first | exact Whole.takeNodup (by assumption) _ | exact Whole.restNodup (by assumption) _ | exact Whole.twiceNodup (by assumption)); (case z => first | exact Whole.takeSmall (by assumption) _ | exact Whole.restSmall (by assumption) _ | exact Whole.twiceSmall (by assumption)))))
local macro_rules | `(tactic| walk_at "KeepTurn") => `(tactic| (k_dflt (refine KeepTurn.next (by k_asm) (by k_asm) (by intro p9 hp9; k_mem) (by intro z h1 h2; simp [h1, h2]))))
theorem bodyA_keeps (w : World) (loose : List Str) (mean : ExcName → Option Value) (mg mb : Str → Option Value) : ∀ (dp un : Nat) (gd : Option (List Code)) (L a : Addr) (ccd : Value) (outer : List Env) (A₀ : Around) (base h₀ : Heap) (m₀ u : Str → Option Value) (nw : List (Addr × Obj)) (s : Shared) (Q : Flow → Shared → Prop) (E : Value → Shared → Prop) (d : Addr) (od oc : Obj) (kvs : List (Int × Value)) (k : Nat) (t : Tok),
    Below A₀ base outer h₀ → (hd.heap_39 w.params).In h₀ → Top hd.view_39 loose mean mg mb h₀ → Fr h₀ L s.heap (fun z => if z = Str.ofString "many" then some (.int k t) else if z = Str.ofString "less" then u z else m₀ z) → News h₀ L s.heap nw →
    (d, od) ∈ nw → od.IsDictOf (intKind PG w) kvs → (d == sysModules) = false → (L + 1, oc) ∈ nw → oc.data = .cell (some (.ref d)) → Whole kvs → k < kvs.length → dp + 40 < recursionLimit → un + 320 < cLine →
    wpAny (model PySem.Challenge.rw_gc0002_01.row.prog w) (ktrTop dp un gd (Str.ofString "law") lawScope L a ccd (cellsFrom (L + 1) lawScope.names []) outer) (execs bodyA (envX (Str.ofString "law") lawScope L a ccd (cellsFrom (L + 1) lawScope.names []))) (KeepTurn h₀ L m₀ nw (Str.ofString "many") (Str.ofString "less") Q s) E s := by
  k_fill
  intro dp un gd L a ccd outer A₀ base h₀ m₀ u nw s Q E d od oc kvs k t B X T F N hm hd hlo hc hcd W hk hdp hun
  dsimp only [bodyA, lawBody, lawScope, fnBody, fnScope, forBody, topStmts, PySem.Challenge.pw_gc0002_01]
  have hle := width_prefix W.ok k
  k_steps
end Mine

open PySem PySem.W PyProof.Rows
set_option Elab.async false
set_option maxRecDepth 100000
set_option maxHeartbeats 1000000
namespace Mine
open PySem.Calls PyProof.Rows.LCg PyProof.Rows.LCt

local macro_rules | `(tactic| k_mem) => `(tactic| first | with_reducible exact List.mem_cons_self | with_reducible assumption | (refine List.mem_cons_of_mem _ ?_; k_mem))
local macro_rules | `(tactic| k_room) => `(tactic| ktr_room)
local macro_rules | `(tactic| walk_at "call ref") => `(tactic| (k_here; (with_reducible show wpAny _ _ (call (Value.ref 21) [Value.ref _]) _ _ _); k_dflt (refine' tells_use ?k1 ?k2 ?k3 ?k4 ?k5 ?kK ?kR (width_tells _ _ _ _ _ _) ?ko ?kd ?ku ?_; (case k1 => k_asm); (case k2 => k_asm); (case k3 => k_asm); (case k4 => k_asm); (case k5 => k_asm); (case kK => rfl); (case kR => exact ⟨_, _, rfl, by k_mem, by k_asm, by k_asm⟩); (case ko => first | assumption | exact Whole.ok (by assumption) | exact TabOk.take (Whole.ok (by assumption)) _ | exact TabOk.rest (Whole.ok (by assumption)) _ | exact Whole.twiceOk (by assumption)); (case kd => (show _ + 5 < recursionLimit; ktr_room)); (case ku => (show _ + 8 * 5 < cLine; ktr_units)); intro r9' tl9' h' tk' F' N' hl9' ht9' ho9'; (subst ht9'; clear hl9'); (simp only [List.append_nil] at N'); (obtain ⟨t9', e9'⟩ := ho9'; subst e9'); (try dsimp only); (try k_fold))))
local macro_rules | `(tactic| walk_at "eval ListComp") => `(tactic| (k_here; lcf_look; k_dflt (refine LCg.ListComp_U (F₀ := by k_asm) (by with_unfolding_all rfl) (by decide) (by rfl) (by decide) (by rfl) ?_)))
local macro_rules | `(tactic| walk_at "CompSrc") => `(tactic| (k_here; k_dflt (refine' CompSrc.range ?h ?F ?N ?r ?s ?n ?z (fun g' => pairs_all ?hm ?hd ?hc ?hcm ?hcd ?ks ?nd ?le rfl (fun _ => rfl) (fun _ => rfl) (by decide) (by decide) (fun ys' tups' hp' => ?_)); (case h => rfl); (case F => k_asm); (case N => k_asm); (case r => assumption); (case n => first | with_reducible exact rs_k1 _ | exact rs_k _); (case hc => rfl); (case hcm => k_mem); (case hcd => k_asm); (case hm => k_mem); (case hd => k_asm); (case ks => exact Whole.keys (by assumption)); (case nd => exact Whole.nodup (by assumption)); (case le => omega); (case s => exact small_one (by decide) (by decide) (by (have hW9 := Whole.len (by assumption)); omega) (by (have hW9 := Whole.len (by assumption)); omega)); (case z => (rw [sizeLine_eq]; (have hW9 := Whole.len (by assumption)); omega)))))
local macro_rules | `(tactic| walk_at "call type:dict") => `(tactic| (k_here; k_dflt (refine' dict_pairs ?hh ?big ?F ?N ?hp ?nd ?z (fun d' o' h' tk' F' N' hd' lo' l' => ?_); (case hh => rfl); (case F => k_asm); (case N => k_asm); (case hp => assumption); (case big => exact modules_low (Top.nolimit (by k_asm))); (case nd => first | exact Whole.takeNodup (by assumption) _ | exact Whole.restNodup (by assumption) _ | exact Whole.twiceNodup (by assumption)); (case z => first | exact Whole.takeSmall (by assumption) _ | exact Whole.restSmall (by assumption) _ | exact Whole.twiceSmall (by assumption)))))
local macro_rules | `(tactic| walk_at "KeepTurn") => `(tactic| (k_dflt (refine KeepTurn.next (by k_asm) (by k_asm) (by intro p9 hp9; k_mem) (by intro z h1 h2; simp [h1, h2]))))

local macro_rules | `(tactic| walk_at "eval ListComp") => `(tactic| (k_here; k_dflt (refine' others_ListComp ?F ?a ?b ?c ?d ?e ?f ?g ?h ?i ?j ?k ?_ ?hs; (case F => k_asm); (case a => with_unfolding_all rfl); (case b => decide); (case c => rfl); (case d => decide); (case e => rfl); (case f => rfl); (case g => decide); (case h => intro _; rfl); (case i => decide); (case j => decide); (case k => decide); (case hs => intro _; rfl))))
local macro_rules | `(tactic| walk_at "getMethod ref") => `(tactic| (k_here; (with_reducible show wpAny _ _ (getMethod (Value.ref _) (Str.ofString "items") _) _ _ _); k_dflt (refine' tab_method (knd := PySem.intKind _ _) ?N ?m ?d PySem.F.slot_dict_items PySem.F.type_dict_items ?_; (case N => k_asm); (case m => k_mem); (case d => k_asm))))
local macro_rules | `(tactic| walk_at "getMethod ref") => `(tactic| (k_here; (with_reducible show wpAny _ _ (getMethod (Value.ref _) (Str.ofString "values") _) _ _ _); k_dflt (refine' tab_method (knd := PySem.intKind _ _) ?N ?m ?d PySem.F.slot_dict_values PySem.F.type_dict_values ?_; (case N => k_asm); (case m => k_mem); (case d => k_asm))))
local macro_rules | `(tactic| walk_at "call builtin:dict.items") => `(tactic| (k_here; k_dflt (refine' kta_callItems (knd := PySem.intKind _ _) ?F ?N ?m ?d ?lo ?_; (case F => k_asm); (case N => k_asm); (case m => k_mem); (case d => k_asm); (case lo => k_asm); k_whole; intro h' hv' F' N')))
local macro_rules | `(tactic| walk_at "call builtin:dict.values") => `(tactic| (k_here; k_dflt (refine' tab_values (knd := PySem.intKind _ _) ?F ?N ?m ?d ?lo ?_; (case F => k_asm); (case N => k_asm); (case m => k_mem); (case d => k_asm); (case lo => k_asm); k_whole; intro v' h' F' N' l1)))
local macro_rules | `(tactic| walk_at "OthSrc") => `(tactic| (k_dflt (refine' ⟨_, _, _, _, _, _, _, _, _, rfl, rfl, ?F, ?N, ?v, ?m, ?d, ?z, rfl, ?cm, ?cd, fun ys' tups' hp' => ?_⟩; (case F => k_asm); (case N => k_asm); (case v => assumption); (case m => k_mem); (case d => k_asm); (case z => exact Whole.small (by assumption)); (case cm => k_mem); (case cd => k_asm))))
local macro_rules | `(tactic| walk_at "exec Assign cons ListComp") => `(tactic| (k_here; lct_look; k_dflt (refine' vals_assign ?F ?a ?b ?c ?d ?e ?f ?g ?h ?_ ?i; (case F => k_asm); (case a => with_unfolding_all rfl); (case b => with_unfolding_all rfl); (case c => decide); (case d => rfl); (case e => decide); (case f => rfl); (case g => rfl); (case h => rfl); (case i => intro _; rfl))))
local macro_rules | `(tactic| walk_at "ValSrc") => `(tactic| (k_dflt (refine' ⟨_, _, _, _, _, rfl, rfl, ?F, ?N, ?v, ?m, ?d, ?z, fun g' => vals_rest ?hS ?vs (fun ys' hys' => ?_) rfl (fun _ => rfl) (by decide) _ 0 [] rfl (Nat.zero_le _) .nil⟩; (case F => k_asm); (case N => k_asm); (case v => k_mem); (case m => k_mem); (case d => k_asm); (case z => (rw [sizeLine_eq]; exact Nat.le_trans (Whole.restSmall (by assumption) _) (by decide))); (case hS => k_mem); (case vs => assumption))))
local macro_rules | `(tactic| walk_at "compareOp NotEq ref ref") => `(tactic| (k_here; k_dflt (refine' num_ne_nil ?N ?D ?l ?i ?c ?d ?u (fun hemp' => ?_) (fun hne' => ?_); (case N => k_asm); (case D => k_mem); (case l => k_mem); (case i => assumption); (case c => rfl); (case d => exact ⟨_, rfl⟩); (case u => ktr_units))))
local macro_rules | `(tactic| walk_at "call builtin:max") => `(tactic| (k_here; (with_reducible show wpAny _ _ (call (Value.builtin "max") [Value.ref _]) _ _ _); k_dflt (refine' num_max ?h ?F ?N ?D ?i ?o ?e (fun t' h' tk' F' N' hb1' hb2' => ?_); (case h => rfl); (case F => k_asm); (case N => k_asm); (case D => k_mem); (case i => assumption); (case o => exact TabOk.rest (Whole.ok (by assumption)) _); (case e => assumption))))
local macro_rules | `(tactic| walk_at "subscriptTail") => `(tactic| (k_here; k_dflt (refine' kda_item (knd := PySem.intKind _ _) ?N ?m ?d (intKind_is _ _ _ _) ?l ?_; (case N => k_asm); (case m => k_mem); (case d => k_asm); (case l => assumption))))

theorem bodyB_keeps (w : World) (loose : List Str) (mean : ExcName → Option Value) (mg mb : Str → Option Value) : ∀ (dp un : Nat) (gd : Option (List Code)) (L a : Addr) (ccd : Value) (outer : List Env) (A₀ : Around) (base h₀ : Heap) (m₀ : Str → Option Value) (nw : List (Addr × Obj)) (s : Shared) (Q : Flow → Shared → Prop) (E : Value → Shared → Prop) (d : Addr) (od oc oo : Obj) (kvs : List (Int × Value)) (k : Nat) (t : Tok) (v : Value),
    Below A₀ base outer h₀ → (hd.heap_39 w.params).In h₀ → Top hd.view_39 loose mean mg mb h₀ → Fr h₀ L s.heap m₀ → News h₀ L s.heap nw →
    (d, od) ∈ nw → od.IsDictOf (intKind PG w) kvs → (d == sysModules) = false → (L + 1, oc) ∈ nw → oc.data = .cell (some (.ref d)) → (L + 2, oo) ∈ nw → oo.data = .cell (some (.int k t)) → Whole kvs → kvs[k]? = some ((k : Int), v) → dp + 40 < recursionLimit → un + 320 < cLine →
    wpAny (model PySem.Challenge.rw_gc0002_01.row.prog w) (ktrTop dp un gd (Str.ofString "law") lawScope L a ccd (cellsFrom (L + 1) lawScope.names []) outer) (execs bodyB (envX (Str.ofString "law") lawScope L a ccd (cellsFrom (L + 1) lawScope.names []))) (KeepTurn h₀ L m₀ nw (Str.ofString "rest") (Str.ofString "numbers") Q s) E s := by
  k_fill
  intro dp un gd L a ccd outer A₀ base h₀ m₀ nw s Q E d od oc oo kvs k t v B X T F N hm hd hlo hc hcd ho hod W hk hdp hun
  have hval := valueAt_get W.nodup hk
  have hvs' : ∀ x ∈ restOf kvs k, NumVal x.2 := fun x hx => ((W.ok.rest k).2 x hx).1
  have hnv := (W.ok.2 _ (List.mem_of_getElem? hk)).1
  dsimp only [bodyB, lawBody, lawScope, fnBody, fnScope, forBody, topStmts, PySem.Challenge.pw_gc0002_01]
  rcases hnv with hnv | ⟨n, tn, hnv⟩
  · dsimp only at hnv
    subst hnv
    k_steps
  · dsimp only at hnv
    subst hnv
    have hrest := width_rest (z := k) (W.at_key hk)
    k_steps
    all_goals (exfalso; (rename nums _ ≠ [] => hne9); (rename n ≤ maxi _ => hle9); (rename widthOf _ ≠ widthOf _ => hw9); exact hw9 (hrest hne9 hle9))
end Mine

open PySem PySem.W PyProof.Rows
set_option Elab.async false
set_option maxRecDepth 100000
set_option maxHeartbeats 1000000
namespace Mine
open PySem.Calls PyProof.Rows.LCg PyProof.Rows.LCt

local macro_rules | `(tactic| k_mem) => `(tactic| first | with_reducible exact List.mem_cons_self | with_reducible assumption | (refine List.mem_cons_of_mem _ ?_; k_mem))
local macro_rules | `(tactic| k_room) => `(tactic| ktr_room)
local macro_rules | `(tactic| walk_at "call ref") => `(tactic| (k_here; (with_reducible show wpAny _ _ (call (Value.ref 21) [Value.ref _]) _ _ _); k_dflt (refine' tells_use ?k1 ?k2 ?k3 ?k4 ?k5 ?kK ?kR (width_tells _ _ _ _ _ _) ?ko ?kd ?ku ?_; (case k1 => k_asm); (case k2 => k_asm); (case k3 => k_asm); (case k4 => k_asm); (case k5 => k_asm); (case kK => rfl); (case kR => exact ⟨_, _, rfl, by k_mem, by k_asm, by k_asm⟩); (case ko => first | assumption | exact Whole.ok (by assumption) | exact TabOk.take (Whole.ok (by assumption)) _ | exact TabOk.rest (Whole.ok (by assumption)) _ | exact Whole.twiceOk (by assumption)); (case kd => (show _ + 5 < recursionLimit; ktr_room)); (case ku => (show _ + 8 * 5 < cLine; ktr_units)); intro r9' tl9' h' tk' F' N' hl9' ht9' ho9'; (subst ht9'; clear hl9'); (simp only [List.append_nil] at N'); (obtain ⟨t9', e9'⟩ := ho9'; subst e9'); (try dsimp only); (try k_fold))))
local macro_rules | `(tactic| walk_at "eval ListComp") => `(tactic| (k_here; lcf_look; k_dflt (refine LCg.ListComp_U (F₀ := by k_asm) (by with_unfolding_all rfl) (by decide) (by rfl) (by decide) (by rfl) ?_)))
local macro_rules | `(tactic| walk_at "CompSrc") => `(tactic| (k_here; k_dflt (refine' CompSrc.range ?h ?F ?N ?r ?s ?n ?z (fun g' => pairs_all ?hm ?hd ?hc ?hcm ?hcd ?ks ?nd ?le rfl (fun _ => rfl) (fun _ => rfl) (by decide) (by decide) (fun ys' tups' hp' => ?_)); (case h => rfl); (case F => k_asm); (case N => k_asm); (case r => assumption); (case n => first | with_reducible exact rs_k1 _ | exact rs_k _); (case hc => rfl); (case hcm => k_mem); (case hcd => k_asm); (case hm => k_mem); (case hd => k_asm); (case ks => exact Whole.keys (by assumption)); (case nd => exact Whole.nodup (by assumption)); (case le => omega); (case s => exact small_one (by decide) (by decide) (by (have hW9 := Whole.len (by assumption)); omega) (by (have hW9 := Whole.len (by assumption)); omega)); (case z => (rw [sizeLine_eq]; (have hW9 := Whole.len (by assumption)); omega)))))
local macro_rules | `(tactic| walk_at "call type:dict") => `(tactic| (k_here; k_dflt (refine' dict_pairs ?hh ?big ?F ?N ?hp ?nd ?z (fun d' o' h' tk' F' N' hd' lo' l' => ?_); (case hh => rfl); (case F => k_asm); (case N => k_asm); (case hp => assumption); (case big => exact modules_low (Top.nolimit (by k_asm))); (case nd => first | exact Whole.takeNodup (by assumption) _ | exact Whole.restNodup (by assumption) _ | exact Whole.twiceNodup (by assumption)); (case z => first | exact Whole.takeSmall (by assumption) _ | exact Whole.restSmall (by assumption) _ | exact Whole.twiceSmall (by assumption)))))
local macro_rules | `(tactic| walk_at "KeepTurn") => `(tactic| (k_dflt (refine KeepTurn.next (by k_asm) (by k_asm) (by intro p9 hp9; k_mem) (by intro z h1 h2; simp [h1, h2]))))

local macro_rules | `(tactic| walk_at "eval ListComp") => `(tactic| (k_here; k_dflt (refine' others_ListComp ?F ?a ?b ?c ?d ?e ?f ?g ?h ?i ?j ?k ?_ ?hs; (case F => k_asm); (case a => with_unfolding_all rfl); (case b => decide); (case c => rfl); (case d => decide); (case e => rfl); (case f => rfl); (case g => decide); (case h => intro _; rfl); (case i => decide); (case j => decide); (case k => decide); (case hs => intro _; rfl))))
local macro_rules | `(tactic| walk_at "getMethod ref") => `(tactic| (k_here; (with_reducible show wpAny _ _ (getMethod (Value.ref _) (Str.ofString "items") _) _ _ _); k_dflt (refine' tab_method (knd := PySem.intKind _ _) ?N ?m ?d PySem.F.slot_dict_items PySem.F.type_dict_items ?_; (case N => k_asm); (case m => k_mem); (case d => k_asm))))
local macro_rules | `(tactic| walk_at "getMethod ref") => `(tactic| (k_here; (with_reducible show wpAny _ _ (getMethod (Value.ref _) (Str.ofString "values") _) _ _ _); k_dflt (refine' tab_method (knd := PySem.intKind _ _) ?N ?m ?d PySem.F.slot_dict_values PySem.F.type_dict_values ?_; (case N => k_asm); (case m => k_mem); (case d => k_asm))))
local macro_rules | `(tactic| walk_at "call builtin:dict.items") => `(tactic| (k_here; k_dflt (refine' kta_callItems (knd := PySem.intKind _ _) ?F ?N ?m ?d ?lo ?_; (case F => k_asm); (case N => k_asm); (case m => k_mem); (case d => k_asm); (case lo => k_asm); k_whole; intro h' hv' F' N')))
local macro_rules | `(tactic| walk_at "call builtin:dict.values") => `(tactic| (k_here; k_dflt (refine' tab_values (knd := PySem.intKind _ _) ?F ?N ?m ?d ?lo ?_; (case F => k_asm); (case N => k_asm); (case m => k_mem); (case d => k_asm); (case lo => k_asm); k_whole; intro v' h' F' N' l1)))
local macro_rules | `(tactic| walk_at "OthSrc") => `(tactic| (k_dflt (refine' ⟨_, _, _, _, _, _, _, _, _, rfl, rfl, ?F, ?N, ?v, ?m, ?d, ?z, rfl, ?cm, ?cd, fun ys' tups' hp' => ?_⟩; (case F => k_asm); (case N => k_asm); (case v => assumption); (case m => k_mem); (case d => k_asm); (case z => exact Whole.small (by assumption)); (case cm => k_mem); (case cd => k_asm))))
local macro_rules | `(tactic| walk_at "exec Assign cons ListComp") => `(tactic| (k_here; lct_look; k_dflt (refine' vals_assign ?F ?a ?b ?c ?d ?e ?f ?g ?h ?_ ?i; (case F => k_asm); (case a => with_unfolding_all rfl); (case b => with_unfolding_all rfl); (case c => decide); (case d => rfl); (case e => decide); (case f => rfl); (case g => rfl); (case h => rfl); (case i => intro _; rfl))))
local macro_rules | `(tactic| walk_at "ValSrc") => `(tactic| (k_dflt (refine' ⟨_, _, _, _, _, rfl, rfl, ?F, ?N, ?v, ?m, ?d, ?z, fun g' => vals_rest ?hS ?vs (fun ys' hys' => ?_) rfl (fun _ => rfl) (by decide) _ 0 [] rfl (Nat.zero_le _) .nil⟩; (case F => k_asm); (case N => k_asm); (case v => k_mem); (case m => k_mem); (case d => k_asm); (case z => (rw [sizeLine_eq]; exact Nat.le_trans (Whole.restSmall (by assumption) _) (by decide))); (case hS => k_mem); (case vs => assumption))))
local macro_rules | `(tactic| walk_at "compareOp NotEq ref ref") => `(tactic| (k_here; k_dflt (refine' num_ne_nil ?N ?D ?l ?i ?c ?d ?u (fun hemp' => ?_) (fun hne' => ?_); (case N => k_asm); (case D => k_mem); (case l => k_mem); (case i => assumption); (case c => rfl); (case d => exact ⟨_, rfl⟩); (case u => ktr_units))))
local macro_rules | `(tactic| walk_at "call builtin:max") => `(tactic| (k_here; (with_reducible show wpAny _ _ (call (Value.builtin "max") [Value.ref _]) _ _ _); k_dflt (refine' num_max ?h ?F ?N ?D ?i ?o ?e (fun t' h' tk' F' N' hb1' hb2' => ?_); (case h => rfl); (case F => k_asm); (case N => k_asm); (case D => k_mem); (case i => assumption); (case o => exact TabOk.rest (Whole.ok (by assumption)) _); (case e => assumption))))
local macro_rules | `(tactic| walk_at "subscriptTail") => `(tactic| (k_here; k_dflt (refine' kda_item (knd := PySem.intKind _ _) ?N ?m ?d (intKind_is _ _ _ _) ?l ?_; (case N => k_asm); (case m => k_mem); (case d => k_asm); (case l => assumption))))

def lawTail : List Stmt := match lawBody with
  | [_, _, _, _, x, y] => [x, y]
  | _ => []
local macro_rules | `(tactic| walk_at "eval ListComp") => `(tactic| (k_here; k_dflt (refine' twice_ListComp ?F ?a ?b ?c ?d ?e ?f ?g ?h ?i ?j ?k ?l ?m ?_ ?hs; (case F => k_asm); (case a => with_unfolding_all rfl); (case b => decide); (case c => rfl); (case d => decide); (case e => rfl); (case f => rfl); (case g => rfl); (case h => decide); (case i => decide); (case j => decide); (case k => decide); (case l => decide); (case m => decide); (case hs => intro _; rfl))))
local macro_rules | `(tactic| walk_at "ItSrc") => `(tactic| (k_dflt (refine' ⟨_, _, _, _, _, rfl, rfl, ?F, ?N, ?v, ?m, ?d, ?z, fun ys' tups' hp' => ?_⟩; (case F => k_asm); (case N => k_asm); (case v => assumption); (case m => k_mem); (case d => k_asm); (case z => exact Whole.small (by assumption)))))

theorem tail_true (w : World) (loose : List Str) (mean : ExcName → Option Value) (mg mb : Str → Option Value) : ∀ (dp un : Nat) (gd : Option (List Code)) (L a : Addr) (ccd : Value) (outer : List Env) (A₀ : Around) (base h₀ : Heap) (m₀ : Str → Option Value) (nw : List (Addr × Obj)) (s : Shared) (Q : Flow → Shared → Prop) (E : Value → Shared → Prop) (d : Addr) (od oc : Obj) (kvs : List (Int × Value)),
    Below A₀ base outer h₀ → (hd.heap_39 w.params).In h₀ → Top hd.view_39 loose mean mg mb h₀ → Fr h₀ L s.heap m₀ → News h₀ L s.heap nw →
    (d, od) ∈ nw → od.IsDictOf (intKind PG w) kvs → (d == sysModules) = false → (L + 1, oc) ∈ nw → oc.data = .cell (some (.ref d)) → Whole kvs → dp + 40 < recursionLimit → un + 320 < cLine →
    (∀ h' tk m', Fr h₀ L h' m' → News h₀ L h' nw → Q (.ret (.bool true)) { s with heap := h', toks := tk }) →
    wpAny (model PySem.Challenge.rw_gc0002_01.row.prog w) (ktrTop dp un gd (Str.ofString "law") lawScope L a ccd (cellsFrom (L + 1) lawScope.names []) outer) (execs lawTail (envX (Str.ofString "law") lawScope L a ccd (cellsFrom (L + 1) lawScope.names []))) Q E s := by
  k_fill
  intro dp un gd L a ccd outer A₀ base h₀ m₀ nw s Q E d od oc kvs B X T F N hm hd hlo hc hcd W hdp hun hret
  have htw := width_twice kvs
  dsimp only [lawTail, lawBody, lawScope, fnBody, fnScope, forBody, topStmts, PySem.Challenge.pw_gc0002_01]
  k_steps
  rw [htw, beq_self_eq_true]
  (rename Fr _ _ _ _ => F9)
  (rename News _ _ _ _ => N9)
  exact hret _ _ _ F9 fun p hp => N9 p (List.mem_cons_of_mem _ hp)
end Mine

open PySem PySem.W PyProof.Rows
set_option Elab.async false
set_option maxRecDepth 100000
namespace Mine
open PySem.Calls PyProof.Rows.LCg PyProof.Rows.LCt

section
variable {prog : Program} {w : World} {A : Around} {E : Value → Shared → Prop} {s : Shared} {h₀ : Heap} {env : Env}

/-- where a loop over a table's keys begins, its name a cell -/
def CellFor (prog : Program) (w : World) (A : Around) (h₀ : Heap) (env : Env) (body : List Stmt) (c : Addr) (y1 y2 : Str) (Q : Flow → Shared → Prop) (xv : Value) (s₁ : Shared) : Prop :=
  ∃ d od kvs m₀ all news oc, xv = .ref d ∧ A.handled = none ∧ Fr h₀ env.locals s₁.heap m₀ ∧ News h₀ env.locals s₁.heap all ∧ (c, oc) ∈ all ∧ (∃ v, oc.data = .cell v) ∧ (∀ p ∈ news, p ∈ all) ∧ (∀ p ∈ news, p.1 ≠ c) ∧ (d, od) ∈ news ∧ od.IsDictOf (intKind prog w) kvs ∧ (d == sysModules) = false ∧
    (∀ (i : Nat) k v t oc' m₁ nw s₂, kvs[i]? = some (k, v) → oc'.data = .cell (some (.int k t)) → (c, oc') ∈ nw → (∀ p ∈ news, p ∈ nw) → Fr h₀ env.locals s₂.heap m₁ → News h₀ env.locals s₂.heap nw →
      wpAny (model prog w) A (execs body env) (KeepTurn h₀ env.locals m₁ nw y1 y2 Q s₂) never s₂) ∧
    (∀ h' tk m' oc', Fr h₀ env.locals h' m' → News h₀ env.locals h' ((c, oc') :: news) → Q .next { s₁ with heap := h', toks := tk })

theorem for_cell {x : Str} {px pos : Pos} {iter : PySem.Expr} {body : List Stmt} {c : Addr} (y1 y2 : Str) {Q : Flow → Shared → Prop} (hk : env.scope.kind = .function) (hx : env.kindOf x = some .cell) (hcx : env.cells.lookup x = some c)
    (h : wpAny (model prog w) A (eval iter env) (CellFor prog w A h₀ env body c y1 y2 Q) E s)
    (hs : ∀ x, foldedSetIterable iter env x = pure x := by intro _; rfl) :
    wpAny (model prog w) A (exec (.For (.Name x px) iter body [] pos) env) Q E s := by
  refine wpAny_For (wpAny_mono h (fun xv s₁ h₁ => ?_) fun _ _ e => e) hs
  obtain ⟨d, od, kvs, m₀, all, news, oc₀, rfl, hh, F, N, hc, hcv, hsub, hoff, hm, hd, lo, turn, done⟩ := h₁
  obtain ⟨ep, hep⟩ := dictAt_of (d := d) hd
  have hD := hep _ (N.get (hsub _ hm))
  refine wpAny_pyIter_dict lo hD ?_
  have hlt : ∀ p ∈ all, p.1 < s₁.heap.objs.size := fun p hp => Heap.lt_size (N p hp).1
  have hI₀ : h₀.get? s₁.heap.objs.size = none := next_is_new F
  have hIL : env.locals < s₁.heap.objs.size := F.ns.lt
  have F₁ := F.push { cls := .type "dict_keyiterator", data := .fields #[.ref d, .int 0 0, .int kvs.length 0, .int ep 0] }
  have N₁ : News h₀ env.locals (s₁.heap.push { cls := .type "dict_keyiterator", data := .fields #[.ref d, .int 0 0, .int kvs.length 0, .int ep 0] }) ((c, oc₀) :: news) := fun p hp => by
    have hp' : p ∈ all := by
      rcases List.mem_cons.mp hp with rfl | hp
      · exact hc
      · exact hsub p hp
    exact ⟨Heap.get?_push_of_some _ (N p hp').1, (N p hp').2⟩
  have hit₁ : (s₁.heap.push { cls := .type "dict_keyiterator", data := .fields #[.ref d, .int 0 0, .int kvs.length 0, .int ep 0] }).IsKeyIter s₁.heap.objs.size d 0 kvs.length ep := ⟨_, Heap.get?_push_size _ rfl, rfl, rfl⟩
  have hlc := hlt _ hc
  have hln : ∀ p ∈ news, p.1 < s₁.heap.objs.size := fun p hp => hlt p (hsub p hp)
  generalize (s₁.heap.push { cls := .type "dict_keyiterator", data := .fields #[.ref d, .int 0 0, .int kvs.length 0, .int ep 0] }) = h₁ at F₁ N₁ hit₁ ⊢
  dsimp only at hlc
  generalize s₁.heap.objs.size = I at hI₀ hIL hit₁ hlc hln ⊢
  have hdI : d ≠ I := Nat.ne_of_lt (hln _ hm)
  have hcI : c ≠ I := Nat.ne_of_lt hlc
  have W := Walks.dictKeys (prog := prog) (w := w) (A := A) (knd := intKind prog w) hh I d hdI kvs ep
  refine codeAny_forLoop_any (fun k s' => ∃ h' tk i oc m', s' = { s₁ with heap := h', toks := tk } ∧ i ≤ kvs.length ∧ k = kvs.length + 1 - i ∧ h'.IsKeyIter I d i kvs.length ep ∧ Fr h₀ env.locals h' m' ∧ News h₀ env.locals h' ((c, oc) :: news) ∧ ∃ v, oc.data = .cell v) ?_ (kvs.length + 1)
    ⟨h₁, _, 0, oc₀, _, rfl, Nat.zero_le _, rfl, hit₁, F₁, N₁, hcv⟩
  rintro k s' ⟨h', tk, i, oc, m', rfl, hi, rfl, hit, F', N', cv, hcv'⟩
  have hD' := hep _ (N'.get (List.mem_cons_of_mem _ hm))
  have offI : ∀ p ∈ (c, oc) :: news, p.1 ≠ I := by
    intro p hp
    rcases List.mem_cons.mp hp with rfl | hp
    · exact hcI
    · exact Nat.ne_of_lt (hln p hp)
  by_cases hlt' : i < kvs.length
  · refine W.item i _ _ _ hlt' ⟨hit, hD'⟩ fun v h₂ tk₂ hP hst₂ hk₂ => ?_
    obtain ⟨key, x', hkv, hkey⟩ := hP
    obtain ⟨t, rfl⟩ := Value.isInt_shape hkey
    have F₂ := fr_but F' hk₂ (Nat.ne_of_lt hIL) hI₀
    have N₂ := news_but N' hk₂ offI
    have zc := N₂ _ List.mem_cons_self
    refine wpAny_of_eq (show letOwnedTupleGo (.Name x px) (.ref I) (Value.int key t) = pure () from rfl) ?_
    refine wpAny_assign_Name (wpAny_storeName_cell hk hx hcx ⟨oc, zc.1, hcv'⟩ fun h₃ hcell hs₃ => ?_)
    obtain ⟨oc', hoc', hocd⟩ := hcell
    have F₃ : Fr h₀ env.locals h₃ m' := F₂.change hs₃ zc.2.1 zc.2.2
    obtain ⟨⟨oI, heI, hoI⟩, _⟩ := hst₂
    have heI₃ : h₃.get? I = some oI := hs₃.extBut _ _ (Ne.symm hcI) heI
    have N₃ : News h₀ env.locals h₃ ((I, oI) :: (c, oc') :: news) := fun p hp => by
      rcases List.mem_cons.mp hp with rfl | hp
      · exact ⟨heI₃, Nat.ne_of_gt hIL, hI₀⟩
      rcases List.mem_cons.mp hp with rfl | hp
      · exact ⟨hoc', zc.2⟩
      · have z := N₂ p (List.mem_cons_of_mem _ hp)
        exact ⟨hs₃.extBut _ _ (hoff p hp) z.1, z.2⟩
    refine never_mono (wpAny_mono (turn i key x' t oc' m' _ { s₁ with heap := h₃, toks := tk₂ } hkv hocd (List.mem_cons_of_mem _ List.mem_cons_self) (fun p hp => List.mem_cons_of_mem _ (List.mem_cons_of_mem _ hp)) F₃ N₃) (fun f s₂ hp => ?_) fun _ _ e => e)
    have fin : (∃ h' tk m'', s₂ = { ({ s₁ with heap := h₃, toks := tk₂ } : Shared) with heap := h', toks := tk } ∧ Fr h₀ env.locals h' m'' ∧ News h₀ env.locals h' ((I, oI) :: (c, oc') :: news) ∧ ∀ z, z ≠ y1 → z ≠ y2 → m'' z = m' z) →
        ∃ m, m < kvs.length + 1 - i ∧ ∃ h' tk i oc m', s₂ = { s₁ with heap := h', toks := tk } ∧ i ≤ kvs.length ∧ m = kvs.length + 1 - i ∧ h'.IsKeyIter I d i kvs.length ep ∧ Fr h₀ env.locals h' m' ∧ News h₀ env.locals h' ((c, oc) :: news) ∧ ∃ v, oc.data = .cell v := by
      rintro ⟨h₄, tk₄, m'', rfl, F₄, N₄, _⟩
      exact ⟨kvs.length + 1 - (i + 1), by omega, h₄, tk₄, i + 1, oc', m'', rfl, hlt', rfl, ⟨oI, N₄.get List.mem_cons_self, hoI⟩, F₄, fun p hp => N₄ p (List.mem_cons_of_mem _ hp), _, hocd⟩
    cases f with
    | ret v => exact hp
    | brk => exact hp
    | next => exact fin hp
    | cont => exact fin hp
  · have hin : i = kvs.length := by omega
    subst hin
    refine W.done _ _ _ ⟨hit, hD'⟩ fun h₂ tk₂ hk₂ => ?_
    rw [execs_nil]
    exact wpAny_pure (done h₂ tk₂ m' oc (fr_but F' hk₂ (Nat.ne_of_lt hIL) hI₀) (news_but N' hk₂ offI))

/-- the same, the table and its own cell named -/
def TableFor (prog : Program) (w : World) (A : Around) (h₀ : Heap) (env : Env) (body : List Stmt) (c : Addr) (y1 y2 : Str) (Q : Flow → Shared → Prop) (xv : Value) (s₁ : Shared) : Prop :=
  ∃ d od kvs m₀ all oc ct oct, xv = .ref d ∧ A.handled = none ∧ Fr h₀ env.locals s₁.heap m₀ ∧ News h₀ env.locals s₁.heap all ∧ (c, oc) ∈ all ∧ (∃ v, oc.data = .cell v) ∧ (d, od) ∈ all ∧ d ≠ c ∧ oct.data = .cell (some (.ref d)) ∧ (ct, oct) ∈ all ∧ ct ≠ c ∧ od.IsDictOf (intKind prog w) kvs ∧ (d == sysModules) = false ∧
    (∀ (i : Nat) k v t oc' m₁ nw s₂, kvs[i]? = some (k, v) → oc'.data = .cell (some (.int k t)) → (c, oc') ∈ nw → (d, od) ∈ nw → (ct, oct) ∈ nw → Fr h₀ env.locals s₂.heap m₁ → News h₀ env.locals s₂.heap nw →
      wpAny (model prog w) A (execs body env) (KeepTurn h₀ env.locals m₁ nw y1 y2 Q s₂) never s₂) ∧
    (∀ h' tk m' oc', Fr h₀ env.locals h' m' → News h₀ env.locals h' [(c, oc'), (d, od), (ct, oct)] → Q .next { s₁ with heap := h', toks := tk })
theorem for_table {x : Str} {px pos : Pos} {iter : PySem.Expr} {body : List Stmt} {c : Addr} {m : Str → Option Value} (y1 y2 : Str) {Q : Flow → Shared → Prop} (_F₀ : Fr h₀ env.locals s.heap m) (hk : env.scope.kind = .function) (hx : env.kindOf x = some .cell) (hcx : env.cells.lookup x = some c)
    (h : wpAny (model prog w) A (eval iter env) (TableFor prog w A h₀ env body c y1 y2 Q) E s)
    (hs : ∀ x, foldedSetIterable iter env x = pure x := by intro _; rfl) :
    wpAny (model prog w) A (exec (.For (.Name x px) iter body [] pos) env) Q E s := by
  refine for_cell (h₀ := h₀) y1 y2 hk hx hcx (wpAny_mono h (fun xv s₁ h₁ => ?_) fun _ _ e => e) hs
  obtain ⟨d, od, kvs, m₀, all, oc, ct, oct, rfl, hh, F, N, hc, hcv, hm, hdc, hod, hct, hctc, hd, lo, turn, done⟩ := h₁
  refine ⟨d, od, kvs, m₀, all, [(d, od), (ct, oct)], oc, rfl, hh, F, N, hc, hcv, ?_, ?_, List.mem_cons_self, hd, lo, fun i k v t oc' m₁ nw s₂ a1 a2 a3 a4 a5 a6 => turn i k v t oc' m₁ nw s₂ a1 a2 a3 (a4 _ List.mem_cons_self) (a4 _ (List.mem_cons_of_mem _ List.mem_cons_self)) a5 a6, done⟩
  · intro p hp
    rcases List.mem_cons.mp hp with rfl | hp
    · exact hm
    · rw [List.mem_singleton.mp hp]; exact hct
  · intro p hp
    rcases List.mem_cons.mp hp with rfl | hp
    · exact hdc
    · rw [List.mem_singleton.mp hp]; exact hctc
end
end Mine

open PySem PySem.W PyProof.Rows
set_option Elab.async false
set_option maxRecDepth 100000
set_option maxHeartbeats 8000000
namespace Mine
open PySem.Calls PyProof.Rows.LCg PyProof.Rows.LCt

theorem TabIs.small {kvs : List (Int × Value)} {i : Nat} {ns : List Int} (h : TabIs kvs (List.take i (List.take 10 ns))) : kvs.length ≤ 1000 := by
  rw [h.1, List.length_take, List.length_take]; omega
theorem TabIs.fit {kvs : List (Int × Value)} {ns : List Int} (h : TabIs kvs (List.take 10 ns)) : kvs.length ≤ 16777216 := by
  rw [h.1, List.length_take]; omega
theorem TabOk.nil : TabOk [] := ⟨by decide, fun x hx => by cases hx⟩
theorem widthOf_nil : widthOf [] = 0 := rfl

local macro_rules | `(tactic| walk_at "call type:enumerate") => `(tactic| (k_here; k_dflt (refine' enum_tab ?hh ?F ?N ?hD ?hc ?hdl ?hi ?hdd ?hdp (fun i' n' t' tk' o' kvs' h' tk2' own' hn' ht' hd' hoff' hle' F' N' => ?_) (fun h' tk' u' o' kvs' F' N' hd' ht' => (have hok' := TabIs.ok ht'; ?_)); (case hh => rfl); (case F => k_asm); (case N => k_asm); (case hD => exact List.mem_cons_self); (case hc => rfl); (case hdl => exact ⟨_, rfl⟩); (case hi => assumption); (case hdd => assumption); (case hdp => k_all))))
local macro_rules | `(tactic| walk_at "setItem ref int") => `(tactic| (k_here; k_dflt (refine' tab_store ?F ?N ?off ?hd ?hz ?_; (case F => k_asm); (case N => k_asm); (case off => assumption); (case hd => assumption); (case hz => exact TabIs.small (by assumption)); k_whole; intro h' o' F' N' hd')))
local macro_rules | `(tactic| walk_at "TabTurn") => `(tactic| (k_dflt (first
  | refine TabTurn.intro (by k_asm) (by k_asm) (by k_asm) (by k_asm) (by k_asm) (cellv_none (by k_asm)) (by intro z h1 h2; simp [h1, h2])
  | refine TabTurn.intro (by k_asm) (by k_asm) (by k_asm) (by k_asm) (by k_asm) (cellv_some (by k_asm)) (by intro z h1 h2; simp [h1, h2]))))
local macro_rules | `(tactic| ktr_rel) => `(tactic| first | exact TabOk.nil | assumption | exact ⟨_, _, rfl, by k_mem, by k_asm, by k_asm⟩)
local macro_rules | `(tactic| walk_at "call ref") => `(tactic| (k_here; (with_reducible show wpAny _ _ (call (Value.ref 21) [Value.ref _]) _ _ _); k_dflt (refine' tells_use ?k1 ?k2 ?k3 ?k4 ?k5 ?kK ?kR (width_tells _ _ _ _ _ _) ?ko ?kd ?ku ?_; (case k1 => k_asm); (case k2 => k_asm); (case k3 => k_asm); (case k4 => k_asm); (case k5 => k_asm); (case kK => rfl); (case kR => ktr_rel); (case ko => ktr_rel); (case kd => (show _ + 5 < recursionLimit; decide)); (case ku => (show _ + 8 * 5 < cLine; (have hcL9 := cLine_is); (simp only [units_under_make, units_in1, units_deeper, Around.mark_units, units_caller]); omega)); intro r9' tl9' h' tk' F' N' hl9' ht9' ho9'; (subst ht9'; clear hl9'); (simp only [List.append_nil] at N'); (obtain ⟨t9', e9'⟩ := ho9'; subst e9'); (try dsimp only); (try k_fold))))
local macro_rules | `(tactic| walk_at "call ref") => `(tactic| (k_here; (with_reducible show wpAny _ _ (call (Value.ref 42) [Value.ref _]) _ _ _); k_dflt (refine' tells_use ?k1 ?k2 ?k3 ?k4 ?k5 ?kK ?kR (lwidth_tells _ _ _ _ _ _) ?ko ?kd ?ku ?_; (case k1 => k_asm); (case k2 => k_asm); (case k3 => k_asm); (case k4 => k_asm); (case k5 => k_asm); (case kK => rfl); (case kR => ktr_rel); (case ko => ktr_rel); (case kd => (show _ + 20 < recursionLimit; decide)); (case ku => (show _ + 8 * 20 < cLine; (have hcL9 := cLine_is); (simp only [units_under_make, units_in1, units_deeper, Around.mark_units, units_caller]); omega)); intro r9' tl9' h' tk' F' N' hl9' ht9' ho9'; (subst ht9'; clear hl9'); (simp only [List.append_nil] at N'); (obtain ⟨t9', e9'⟩ := ho9'; subst e9'); (try dsimp only); (try k_fold))))

local macro_rules | `(tactic| walk_at "call ref") => `(tactic| (k_here; (with_reducible show wpAny _ _ (call (Value.ref 21) [Value.none]) _ _ _); k_dflt (refine' tells_use ?k1 ?k2 ?k3 ?k4 ?k5 ?kK ?kR (none_tells _ _ _ _ _) ?ko ?kd ?ku ?_; (case k1 => k_asm); (case k2 => k_asm); (case k3 => k_asm); (case k4 => k_asm); (case k5 => k_asm); (case kK => rfl); (case kR => rfl); (case ko => exact True.intro); (case kd => (show _ + 5 < recursionLimit; decide)); (case ku => (show _ + 8 * 5 < cLine; (have hcL9 := cLine_is); (simp only [units_under_make, units_in1, units_deeper, Around.mark_units, units_caller]); omega)); intro r9' tl9' h' tk' F' N' hl9' ht9' ho9'; (subst ht9'; clear hl9'); (simp only [List.append_nil] at N'); (obtain ⟨t9', e9'⟩ := ho9'; subst e9'); (try dsimp only); (try k_fold))))
local macro_rules | `(tactic| walk_at "call builtin:len") => `(tactic| (k_here; (with_reducible show wpAny _ _ (call (Value.builtin "len") [Value.ref _]) _ _ _); k_dflt (refine kda_len (knd := PySem.intKind _ _) (by k_asm) (by k_mem) (by k_asm) (by k_asm) (TabIs.fit (by assumption)) ?_)))
local macro_rules | `(tactic| k_mem) => `(tactic| first | with_reducible exact List.mem_cons_self | with_reducible assumption | (refine List.mem_cons_of_mem _ ?_; k_mem))
local macro_rules | `(tactic| walk_at "pyIter ref") => `(tactic| (k_here; (with_reducible show wpAny _ _ (pyIter (Value.ref _)) (fun it s₂ => LoopAtV _ _ _ _ _ (Str.ofString "many") _ _ _ it s₂) _ _); (rename TabIs _ (List.take 10 _) => ht9'); (have hW9' := TabIs.whole ht9'); k_dflt (refine' range_keep (y := Str.ofString "less") ?hh ?hr (Whole.small hW9') ?F ?N (fun k' t' u' h' tk' nw' hk' hin' F' N' => bodyA_keeps _ _ _ _ _ _ _ _ _ _ _ _ _ _ _ _ _ _ _ _ _ _ _ _ _ _ _ ?B ?X ?T F' N' (hin' _ ?m) ?d ?lo (hin' _ ?cm) ?cd hW9' hk' ?dp ?un) (fun u' h' tk' F' N' => ?_); (case hh => rfl); (case hr => assumption); (case F => k_asm); (case N => k_asm); (case B => k_asm); (case X => k_asm); (case T => k_asm); (case cm => k_mem); (case cd => k_asm); (case m => k_mem); (case d => k_asm); (case lo => k_asm); (case dp => decide); (case un => ((have hcL9 := cLine_is); (simp only [units_under_make, units_in1, units_deeper, Around.mark_units, units_caller]); omega)))))
local macro_rules | `(tactic| walk_at "exec For Name Name cons nil") => `(tactic| (k_here; (with_reducible show wpAny _ _ (exec (Stmt.For (PySem.Expr.Name (Str.ofString "out") _) _ _ _ _) _) _ _ _); k_dflt (refine' for_table (Str.ofString "rest") (Str.ofString "numbers") ?F ?a ?b ?c ?_ ?hs; (case F => k_asm); (case a => rfl); (case b => rfl); (case c => rfl); (case hs => intro _; rfl))))
local macro_rules | `(tactic| walk_at "TableFor") => `(tactic| ((rename Whole _ => hW9'); k_dflt (refine' ⟨_, _, _, _, _, _, _, _, rfl, rfl, ?F, ?N, ?c, ?cv, ?m, ?dc, ?od, ?ct, ?cc, ?d, ?lo, fun i' k' v' t' oc' m₁' nw' s₂' hkv' hocd' hcm' hdm' hctm' F₃' N₃' => ?turn, fun h' tk' m' oc' F' N' => ?_⟩; (case F => k_asm); (case N => k_asm); (case c => k_mem); (case cv => exact ⟨_, by assumption⟩); (case m => k_mem); (case od => k_asm); (case ct => k_mem); (case d => k_asm); (case lo => k_asm); (case dc => k_ne); (case cc => k_ne); (case turn => ((have hkey' := Whole.keys hW9' _ _ hkv'); (dsimp only at hkey'); (subst hkey'); (refine' bodyB_keeps _ _ _ _ _ _ _ _ _ _ _ _ _ _ _ _ _ _ _ _ _ _ _ _ _ _ _ _ ?B ?X ?T F₃' N₃' hdm' ?d ?lo hctm' ?cd hcm' hocd' hW9' hkv' ?dp ?un); (case B => k_asm); (case X => k_asm); (case T => k_asm); (case d => k_asm); (case lo => k_asm); (case cd => k_asm); (case dp => decide); (case un => ((have hcL9 := cLine_is); (simp only [units_under_make, units_in1, units_deeper, Around.mark_units, units_caller]); omega)))))))
local macro_rules | `(tactic| walk_at "execs cons") => `(tactic| (k_here; (with_reducible show wpAny _ _ (execs [Stmt.Assign [PySem.Expr.Name (Str.ofString "twice") _] _ _, Stmt.Return _ _] _) _ _ _); (rename Whole _ => hW9'); k_dflt (refine' tail_true _ _ _ _ _ _ _ _ _ _ _ _ _ _ _ _ _ _ _ _ _ _ _ _ ?B ?X ?T ?F ?N ?m ?d ?lo ?cm ?cd hW9' ?dp ?un (fun h' tk' m' F' N' => ?_); (case B => k_asm); (case X => k_asm); (case T => k_asm); (case F => k_asm); (case N => k_asm); (case cm => k_mem); (case cd => k_asm); (case m => k_mem); (case d => k_asm); (case lo => k_asm); (case dp => decide); (case un => ((have hcL9 := cLine_is); (simp only [units_under_make, units_in1, units_deeper, Around.mark_units, units_caller]); omega)))))
theorem x1 : PySem.Challenge.rw_gc0002_01.Holds := hd (by
  k_go0; (all_goals try k_fold); k_steps)
end Mine

set_option maxRecDepth 100000 in
set_option maxHeartbeats 8000000 in
theorem PySem.Challenge.cw_gc0002_01_holds : PySem.Challenge.rw_gc0002_01.Holds :=
  Mine.x1
