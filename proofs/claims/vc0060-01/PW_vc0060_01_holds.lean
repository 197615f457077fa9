import PyProof.Rows.All
import Wide.All
import OpenK.AllK
import Wide.FinOn
import Lean
import PySem.Challenge.RW_vc0060_01

set_option Elab.async false
set_option maxRecDepth 100000
set_option linter.unusedVariables false

section
open PySem PySem.W PyProof.Rows
namespace Mine
local macro_rules | `(tactic| o_head $H) => `(tactic| (have hK9 := $H; clear hK9; solve_by_elim))
set_option maxHeartbeats 8000000 in
theorem hd (h : ∀ r, OpenRow.Holds r) : PySem.Challenge.rw_vc0060_01.Holds := by
  w_on
  o_law
  k_head
end Mine
end

section DRules
theorem Mine.top_DRules : True := by
  w_top off
  trivial
open PySem PySem.W PyProof.Rows
namespace Mine

/-- a dict's object (of whatever class, bearing whatever __dict__) keyed by texts -/
def DV (w : World) (prog : Program) (c : Value) (od : Option Addr) (o : Obj) (kvs : List (Str × Value)) : Prop :=
  ∃ es ep, o = ⟨c, od, .dict es ep, #[]⟩ ∧ KeysOf (strKind prog w) es ∧ Pairs (strKind prog w) es.toList kvs ∧ (kvs.map (·.1)).Nodup

section
variable {prog : Program} {w : World} {A : Around} {E : Value → Shared → Prop} {s : Shared} {c : Value} {od : Option Addr} {o : Obj} {kvs : List (Str × Value)} {d : Addr} {k : Str} {t : Tok}

theorem skey (k : Str) (t : Tok) : (strKind prog w).is k (.str k t) = true := strKind_is _ _ _ _

theorem dv_nil : DV w prog c od ⟨c, od, .dict #[] 0, #[]⟩ [] :=
  ⟨#[], 0, rfl, fun _ he => by simp at he, Pairs.nil, List.nodup_nil⟩

theorem dv_get {Q : Option Value → Shared → Prop} (ho : s.heap.get? d = some o) (D : DV w prog c od o kvs) (h : Q (valueAt kvs k) { s with toks := s.toks + 1 }) :
    wpAny (model prog w) A (dictGet d (.str k t)) Q E s := by
  obtain ⟨es, ep, rfl, hk, hp, hn⟩ := D
  unfold dictGet
  try with_reducible refine wpAny_holding ?_
  refine wpAny_bind ((strKind prog w).pyHash (skey k t) (wpAny_bind (wpAny_dictFind_of (s := { s with toks := s.toks + 1 }) (skey k t) ho rfl hk ?_)))
  have hx : (es.toList.findIdx? fun e => (strKind prog w).is k e.key) = es.findIdx? fun e => (strKind prog w).is k e.key := by obtain ⟨l⟩ := es; simp
  cases hi : es.findIdx? fun e => (strKind prog w).is k e.key with
  | none =>
    refine wpAny_pure ?_
    have e : valueAt kvs k = none := by
      rw [← hp.find k]
      have : (es.toList.find? fun e => (strKind prog w).is k e.key) = none := by
        rw [List.find?_eq_none]
        intro e he
        have := Array.findIdx?_eq_none_iff.mp hi e (Array.mem_toList_iff.mp he)
        simpa using this
      rw [this]; rfl
    rw [e] at h; exact h
  | some i =>
    obtain ⟨e, he, _, hv⟩ := hp.at (hx.trans hi)
    refine wpAny_bind (wpAny_dictEntries (s := { s with toks := s.toks + 1 }) ho rfl (wpAny_pure ?_))
    have he' : es[i]? = some e := by rw [← he]; simp
    rw [he', Option.map_some, ← hv]; exact h

theorem dv_size (D : DV w prog c od o kvs) : ∃ es ep, o.data = .dict es ep ∧ es.size = kvs.length := by
  obtain ⟨es, ep, rfl, _, hp, _⟩ := D
  exact ⟨es, ep, rfl, by rw [← hp.length]; simp⟩

theorem dv_set {v : Value} {Q : Unit → Shared → Prop} (ho : s.heap.get? d = some o) (D : DV w prog c od o kvs) (hsz : kvs.length ≤ sizeLine)
    (h : ∀ h' o', h'.get? d = some o' → DV w prog c od o' (stored kvs k v) → Heap.SameBut d s.heap h' → Q () { s with heap := h', toks := s.toks + 1 }) :
    wpAny (model prog w) A (dictSet d (.str k t) v) Q E s := by
  obtain ⟨es, ep, rfl, hk, hp, hn⟩ := D
  have hes : es.size ≤ sizeLine := by
    have e1 := hp.length
    simp only [Array.length_toList] at e1; omega
  have hx : (es.toList.findIdx? fun e => (strKind prog w).is k e.key) = es.findIdx? fun e => (strKind prog w).is k e.key := by obtain ⟨l⟩ := es; simp
  have hidx : (es.findIdx? fun e => (strKind prog w).is k e.key) = kvs.findIdx? fun kv => decide (kv.1 = k) := by rw [← hp.findIdx k, hx]
  unfold dictSet
  try with_reducible refine wpAny_holding ?_
  refine wpAny_bind ((strKind prog w).pyHash (skey k t) ?_)
  unfold dictSetHashed
  try with_reducible refine wpAny_holding ?_
  refine wpAny_bind (wpAny_dictFind_of (s := { s with toks := s.toks + 1 }) (skey k t) ho rfl hk ?_)
  cases hi : es.findIdx? fun e => (strKind prog w).is k e.key with
  | some i =>
    refine wpAny_bind (wpAny_rule (wpAny_bind (wpAny_updateDict (s := { s with toks := s.toks + 1 }) ho rfl (wpAny_point (h _ _ (Heap.get?_update_self _ ho rfl) ⟨_, _, rfl, hk.modify _ _, ?_, ?_⟩ (Heap.SameBut.update ..))))))
    · rw [stored, if_pos (any_of_findIdx_some (hidx ▸ hi))]
      have := hp.modify hn (hx.trans hi) v
      obtain ⟨l⟩ := es
      simpa using this
    · rw [stored, if_pos (any_of_findIdx_some (hidx ▸ hi)), keys_map_store]; exact hn
  | none =>
    have hnot : k ∉ kvs.map (·.1) := not_mem_of_findIdx_none (hidx ▸ hi)
    have hany : ¬ (kvs.any fun kv => decide (kv.1 = k)) = true := by
      rw [List.any_eq_true]; rintro ⟨kv, hkv, he⟩
      exact hnot (List.mem_map.mpr ⟨kv, hkv, of_decide_eq_true he⟩)
    refine wpAny_bind (wpAny_rule (wpAny_updateDictKeys (hz := hes) (s := { s with toks := s.toks + 1 }) ho rfl (h _ _ (Heap.get?_update_self _ ho rfl) ⟨_, _, rfl, hk.push (skey k t) _, ?_, ?_⟩ (Heap.SameBut.update ..))))
    · rw [stored, if_neg hany]
      have := hp.append (skey (prog := prog) (w := w) k t) ((strKind prog w).hash k) v
      obtain ⟨l⟩ := es
      simpa using this
    · rw [stored, if_neg hany, List.map_append, List.nodup_append]
      refine ⟨hn, by simp, ?_⟩
      intro a ha b hb
      simp only [List.map_cons, List.map_nil, List.mem_singleton] at hb
      subst hb
      exact fun e => hnot (e ▸ ha)

theorem dv_take {Q : Option DictEntry → Shared → Prop} (ho : s.heap.get? d = some o) (D : DV w prog c od o kvs) (hsz : kvs.length ≤ sizeLine)
    (h0 : valueAt kvs k = none → Q none { s with toks := s.toks + 1 })
    (h1 : ∀ e h' o', valueAt kvs k = some e.val → h'.get? d = some o' → DV w prog c od o' (without kvs k) → Heap.SameBut d s.heap h' → Q (some e) { s with heap := h', toks := s.toks + 1 }) :
    wpAny (model prog w) A (Builtin.Dict.takeOut d (.str k t)) Q E s := by
  obtain ⟨es, ep, rfl, hk, hp, hn⟩ := D
  have hes : es.size ≤ sizeLine := by
    have e1 := hp.length
    simp only [Array.length_toList] at e1; omega
  have hx : (es.toList.findIdx? fun e => (strKind prog w).is k e.key) = es.findIdx? fun e => (strKind prog w).is k e.key := by obtain ⟨l⟩ := es; simp
  unfold Builtin.Dict.takeOut
  try with_reducible refine wpAny_holding ?_
  refine wpAny_bind ((strKind prog w).pyHash (skey k t) ?_)
  refine wpAny_bind (wpAny_dictFind_of (s := { s with toks := s.toks + 1 }) (skey k t) ho rfl hk ?_)
  cases hi : es.findIdx? fun e => (strKind prog w).is k e.key with
  | none =>
    refine wpAny_pure (h0 ?_)
    rw [← hp.find k]
    have : (es.toList.find? fun e => (strKind prog w).is k e.key) = none := by
      rw [List.find?_eq_none]
      intro e he
      have := Array.findIdx?_eq_none_iff.mp hi e (Array.mem_toList_iff.mp he)
      simpa using this
    rw [this]; rfl
  | some i =>
    obtain ⟨e, he, _, hv⟩ := hp.at (hx.trans hi)
    have he' : es[i]? = some e := by rw [← he]; simp
    refine wpAny_bind (wpAny_dictEntries (s := { s with toks := s.toks + 1 }) ho rfl ?_)
    rw [he']
    refine wpAny_bind (wpAny_updateDictKeys (hz := hes) (s := { s with toks := s.toks + 1 }) ho rfl (wpAny_pure (h1 e _ _ hv (Heap.get?_update_self _ ho rfl) ⟨_, _, rfl, hk.erase _, ?_, nodup_without hn k⟩ (Heap.SameBut.update ..))))
    have := hp.erase hn (hx.trans hi)
    obtain ⟨l⟩ := es
    simpa using this
end
end Mine
end DRules

section CRules
theorem Mine.top_CRules : True := by
  w_top off
  trivial
open PySem PySem.W PyProof.Rows
namespace Mine
open PySem PySem.Calls

section
variable {prog : Program} {w : World} {A : Around} {E : Value → Shared → Prop} {s : Shared} {o : Obj} {kvs : List (Str × Value)} {d : Addr} {k : Str} {t : Tok}

/-- a self that dict's own methods take -/
structure DSelf (M : Model) (h : Heap) (d : Addr) : Prop where
  inst : Looks M h (isInstance (.ref d) (.type "dict")) true
  plain : ∀ (A : Around) (E : Value → Shared → Prop) (s : Shared) (Q : Unit → Shared → Prop) (name : String) (rest : List Value), (∀ b o, h.get? b = some o → s.heap.get? b = some o) → Q () s →
    wpAny M A (Builtin.Dict.notOrdered name ⟨.ref d :: rest, []⟩) Q E s
  low : (d == sysModules) = false

theorem looks_typeOf {M : Model} {h : Heap} {d : Addr} {o : Obj} (ho : h.get? d = some o) : Looks M h (typeOf (.ref d)) o.cls :=
  Looks.andThen (a := o) (Looks.ld ho) Looks.now

theorem dself_dict {M : Model} {h : Heap} (ho : h.get? d = some o) (hc : o.cls = .type "dict") (low : (d == sysModules) = false) : DSelf M h d where
  inst := by
    have L := looks_typeOf (M := M) ho
    rw [hc] at L
    exact L.andThen (Looks.of_pure (by rw [isSubtype_type]; kernel_rfl))
  plain := fun A E s Q name rest k q => by
    have L := looks_typeOf (M := M) ho
    rw [hc] at L
    unfold Builtin.Dict.notOrdered
    split
    · refine wpAny_bind (L A _ E s k ?_)
      rw [if_neg (by decide)]
      exact wpAny_pure q
    · exact wpAny_pure q
  low := low

theorem dself_own {M : Model} {K : Frag} {C : Addr} {od : Option Obj} {h : Heap} (X : K.In h) (I : W.InstAt h d o C od) (h1 : mroIn K C (.type "dict") = some true) (h2 : mroIn K C (.type "collections.OrderedDict") = some false)
    (low : (d == sysModules) = false) : DSelf M h d where
  inst := I.type.andThen (looks_mroIn X h1)
  plain := fun A E s Q name rest k q => by
    unfold Builtin.Dict.notOrdered
    split
    · refine wpAny_bind (I.type A _ E s k ?_)
      split
      · refine wpAny_bind ((I.type.andThen (looks_mroIn X h2) : Looks M h (isInstance (.ref d) (.type "collections.OrderedDict")) false) A _ E s k ?_)
        exact wpAny_pure q
      · exact wpAny_pure q
    · exact wpAny_pure q
  low := low

theorem call_dict {id n : String} {b : Builtin} {rest : List Value} {Q : Value → Shared → Prop} (D : DSelf (model prog w) s.heap d) (hk : builtinKind id = some .slot ∨ builtinKind id = some .method) (hs : splitId id = some ("dict", n))
    (hp : plainId id = true) (hb : entryFor table id = some b) (ha : argsOk id ⟨.ref d :: rest, []⟩)
    (hc : wpAny (model prog w) A.in1 (b ⟨.ref d :: rest, []⟩) (fun fin s' => ∃ v, fin = .done (.ret v) ∧ Q v s') E s) : wpAny (model prog w) A (call (.builtin id) (.ref d :: rest)) Q E s := by
  refine wpAny_call (codeAny_call_builtin hp hb ?_)
  have hc' : wpAny (model prog w) A.in1 (b ⟨.ref d :: rest, []⟩)
      (fun fin s' => match fin with | .done f => (match (Except.ok f : Result) with | .ok (.ret v) => Q v s' | .ok _ => False | .error e => E e s') | .again c' => c'.quiet = true ∧ codeAny (model prog w) A c' (fun r s' => match r with | .ok (.ret v) => Q v s' | .ok _ => False | .error e => E e s') s')
      (fun e s' => match (Except.error e : Result) with | .ok (.ret v) => Q v s' | .ok _ => False | .error e => E e s') s :=
    wpAny_mono hc (fun fin s' h' => by obtain ⟨v, rfl, hv⟩ := h'; exact hv) fun _ _ h' => h'
  rcases hk with hk | hk <;>
  · simp only [checkBuiltinCall, hk, hs]
    refine wpAny_bind (D.inst.here ?_)
    simp only [Bool.not_true, Bool.false_eq_true, if_false]
    cases hsig : Manifest.signature? id with
    | none => exact wpAny_pure hc'
    | some sig =>
      simp only [argsOk, hsig] at ha
      have h2 : Bind.checkArgs id sig ⟨.ref d :: rest, []⟩ = pure () := ha
      show wpAny _ _ (Bind.checkArgs id sig ⟨.ref d :: rest, []⟩) _ _ s
      rw [h2]; exact wpAny_pure hc'

theorem call_get {c : Value} {od : Option Addr} {dflt : Value} {Q : Value → Shared → Prop} (D : DSelf (model prog w) s.heap d) (ho : s.heap.get? d = some o) (V : DV w prog c od o kvs)
    (h : Q ((valueAt kvs k).getD dflt) { s with toks := s.toks + 1 }) : wpAny (model prog w) A (call (.builtin "dict.get") [.ref d, .str k t, dflt]) Q E s := by
  refine call_dict D (n := "get") (.inr (by decide +kernel)) (by decide +kernel) F.slot_dict_get.plain F.entry_dict_get (F.args_dict_get_3 _ _ _) ?_
  show wpAny _ _ (dictGet d (.str k t) >>= _) _ _ s
  refine wpAny_bind (dv_get ho V ?_)
  cases hf : valueAt kvs k with
  | some v => rw [hf] at h; exact wpAny_pure ⟨v, rfl, h⟩
  | none =>
    rw [hf] at h
    show wpAny _ _ (Builtin.Dict.missed d (.str k t) >>= _) _ _ _
    exact wpAny_bind (wpAny_missed_other D.low (wpAny_pure ⟨dflt, rfl, h⟩))

theorem not_mem_of_valueAt {K : Type} [DecidableEq K] {kvs : List (K × Value)} {k : K} (h : valueAt kvs k = none) : k ∉ kvs.map (·.1) := by
  intro hm
  obtain ⟨kv, hkv, rfl⟩ := List.mem_map.mp hm
  unfold valueAt at h
  rw [Option.map_eq_none_iff, List.find?_eq_none] at h
  have := h kv hkv
  simp at this

theorem call_pop {c : Value} {od : Option Addr} {dflt : Value} {Q : Value → Shared → Prop} (D : DSelf (model prog w) s.heap d) (ho : s.heap.get? d = some o) (V : DV w prog c od o kvs) (hsz : kvs.length ≤ sizeLine)
    (h : ∀ v tk h' o', h'.get? d = some o' → DV w prog c od o' (without kvs k) → Heap.SameBut d s.heap h' → Q v { s with heap := h', toks := tk }) :
    wpAny (model prog w) A (call (.builtin "dict.pop") [.ref d, .str k t, dflt]) Q E s := by
  refine call_dict D (n := "pop") (.inr (by decide +kernel)) (by decide +kernel) F.slot_dict_pop.plain F.entry_dict_pop (F.args_dict_pop_3 _ _ _) ?_
  have hsame : Heap.SameBut d s.heap s.heap := ⟨rfl, fun _ _ => rfl⟩
  unfold Builtin.«dict.pop»
  refine wpAny_bind ?_
  unfold Builtin.Dict.keyAndDefault
  refine wpAny_bind (D.plain _ _ _ _ _ _ (fun _ _ e => e) ?_)
  show wpAny _ _ (pure (d, Value.str k t, some dflt)) _ _ s
  refine wpAny_pure ?_
  simp only [show (keyPart (Value.str k t)).isSome = true from rfl, if_true]
  refine wpAny_bind (wpAny_pure ?_)
  simp only [Bool.false_eq_true, if_false]
  refine wpAny_bind (dv_take ho V hsz (fun hn => ?_) fun e h' o' he hg V' hs => ?_)
  · have e : without kvs k = kvs := without_of_not_mem _ _ (not_mem_of_valueAt hn)
    simp only [Option.isNone_none, if_true]
    refine wpAny_bind (wpAny_missedRemoval_other D.low ?_)
    exact wpAny_bind (wpAny_rule (wpAny_pure ⟨_, rfl, h dflt _ s.heap o ho (by rw [e]; exact V) hsame⟩))
  · simp only [Option.isNone_some, Bool.false_eq_true, if_false]
    exact wpAny_bind (wpAny_letGo (wpAny_pure ⟨e.val, rfl, h _ _ h' o' hg V' hs⟩))

section own
variable {K : Frag} {C : Addr} {od : Option Obj} {c : Value} {dd : Option Addr}

/-- getItem, setItem on a dict or an own heir of dict -/
structure DItems (M : Model) (h : Heap) (d : Addr) : Prop extends DSelf M h d where
  seq : ∀ (A : Around) (E : Value → Shared → Prop) (s : Shared) (Q : Value → Shared → Prop) (key : Value) (name : Str), (∀ b o, h.get? b = some o → s.heap.get? b = some o) → Q key s → wpAny M A (sequenceKey (.ref d) key name) Q E s
  geti : Looks M h (specialOf (.ref d) "__getitem__") (some (.builtin "dict.__getitem__"))
  seti : Looks M h (specialOf (.ref d) "__setitem__") (some (.builtin "dict.__setitem__"))

theorem ditems_own {M : Model} {h : Heap} (X : K.In h) (I : W.InstAt h d o C od) (h1 : mroIn K C (.type "dict") = some true) (h2 : mroIn K C (.type "collections.OrderedDict") = some false)
    (hq : noSeq K C = true) (h3 : findIn K (.ref C) "__getitem__" = some (some (.builtin "dict.__getitem__"))) (h4 : findIn K (.ref C) "__setitem__" = some (some (.builtin "dict.__setitem__")))
    (low : (d == sysModules) = false) : DItems M h d where
  toDSelf := dself_own X I h1 h2 low
  seq := fun A E s Q key name k q => by
    unfold sequenceKey
    refine wpAny_bind (I.type A _ E s k ?_)
    refine wpAny_bind ((anyM_none X hq) A _ E s k ?_)
    rw [if_pos (show (!false) = true from rfl)]
    exact wpAny_pure q
  geti := I.type.andThen (looks_findIn X h3)
  seti := I.type.andThen (looks_findIn X h4)

theorem ditems_dict {M : Model} {h : Heap} (ho : h.get? d = some o) (hc : o.cls = .type "dict") (low : (d == sysModules) = false) : DItems M h d where
  toDSelf := dself_dict ho hc low
  seq := fun A E s Q key name k q => by
    have L := looks_typeOf (M := M) ho
    rw [hc] at L
    unfold sequenceKey
    refine wpAny_bind (L A _ E s k ?_)
    dsimp only
    rw [if_pos (by decide)]
    exact wpAny_pure q
  geti := by
    have L := looks_typeOf (M := M) ho
    rw [hc] at L
    exact L.andThen (Looks.of_pure F.slot_dict_getitem.lookup)
  seti := by
    have L := looks_typeOf (M := M) ho
    rw [hc] at L
    exact L.andThen (Looks.of_pure F.slot_dict_setitem.lookup)

theorem item_there {v : Value} {Q : Value → Shared → Prop} (D : DItems (model prog w) s.heap d) (ho : s.heap.get? d = some o) (V : DV w prog c dd o kvs) (hv : valueAt kvs k = some v)
    (h : Q v { s with toks := s.toks + 1 }) : wpAny (model prog w) A (getItem (.ref d) (.str k t)) Q E s := by
  unfold getItem
  try with_reducible refine wpAny_holding ?_
  refine wpAny_bind (D.seq _ _ _ _ _ _ (fun _ _ e => e) ?_)
  unfold callSpecial?
  refine wpAny_bind (wpAny_bind (D.geti.here ?_))
  refine wpAny_holding (wpAny_bind ?_)
  rw [F.slot_dict_getitem.bind]
  refine wpAny_pure (wpAny_bind ?_)
  refine call_dict D.toDSelf (n := "__getitem__") (.inr (by decide +kernel)) (by decide +kernel) F.slot_dict_getitem.plain F.entry_dict_getitem (F.args_dict_getitem_2 _ _) ?_
  show wpAny _ _ (dictGet d (.str k t) >>= _) _ _ s
  refine wpAny_bind (dv_get ho V ?_)
  rw [hv]
  exact wpAny_pure ⟨v, rfl, wpAny_pure (wpAny_pure h)⟩

theorem item_missing {f : Addr} {Q : Value → Shared → Prop} (X : K.In s.heap) (I : W.InstAt s.heap d o C od) (hf : findIn K (.ref C) "__missing__" = some (some (.ref f))) (hfn : typeIn K (.ref f) = some (.type "function"))
    (D : DItems (model prog w) s.heap d) (V : DV w prog c dd o kvs) (hv : valueAt kvs k = none)
    (h : codeAny (model prog w) A.in1 (.call (.ref f) ⟨[.ref d, .str k t], []⟩) (fun r s' => match r with | .ok (.ret v) => Q v s' | .ok _ => False | .error e => E e s') { s with toks := s.toks + 1 }) :
    wpAny (model prog w) A (getItem (.ref d) (.str k t)) Q E s := by
  have ho := I.at_
  unfold getItem
  try with_reducible refine wpAny_holding ?_
  refine wpAny_bind (D.seq _ _ _ _ _ _ (fun _ _ e => e) ?_)
  unfold callSpecial?
  refine wpAny_bind (wpAny_bind (D.geti.here ?_))
  refine wpAny_holding (wpAny_bind ?_)
  rw [F.slot_dict_getitem.bind]
  refine wpAny_pure (wpAny_bind ?_)
  refine call_dict D.toDSelf (n := "__getitem__") (.inr (by decide +kernel)) (by decide +kernel) F.slot_dict_getitem.plain F.entry_dict_getitem (F.args_dict_getitem_2 _ _) ?_
  show wpAny _ _ (dictGet d (.str k t) >>= _) _ _ s
  refine wpAny_bind (dv_get ho V ?_)
  rw [hv]
  show wpAny _ _ (Builtin.Dict.missed d (.str k t) >>= _) _ _ _
  refine wpAny_bind (wpAny_missed_other D.low ?_)
  refine wpAny_bind (I.type.at ?_)
  rw [if_pos (by simp)]
  unfold callSpecial? specialOf
  refine wpAny_bind (wpAny_bind (wpAny_bind (I.type.at ?_)))
  refine (looks_findIn X hf).at ?_
  refine wpAny_holding (wpAny_bind ?_)
  refine (bind_fn X (f := f) _ hfn).at ?_
  refine wpAny_bind (wpAny_call (codeAny_mono h fun r s' z => ?_))
  rcases r with e | (_ | _ | _ | v)
  · exact z
  · exact z.elim
  · exact z.elim
  · exact z.elim
  · exact wpAny_pure (wpAny_bind (wpAny_rule (wpAny_pure ⟨v, rfl, wpAny_pure (wpAny_pure z)⟩)))

theorem item_set {v : Value} {Q : Unit → Shared → Prop} (D : DItems (model prog w) s.heap d) (ho : s.heap.get? d = some o) (V : DV w prog c dd o kvs) (hsz : kvs.length ≤ sizeLine)
    (h : ∀ h' o', h'.get? d = some o' → DV w prog c dd o' (stored kvs k v) → Heap.SameBut d s.heap h' → Q () { s with heap := h', toks := s.toks + 1 }) :
    wpAny (model prog w) A (setItem (.ref d) (.str k t) v) Q E s := by
  unfold setItem
  try with_reducible refine wpAny_holding ?_
  refine wpAny_bind (D.seq _ _ _ _ _ _ (fun _ _ e => e) ?_)
  unfold callSpecial?
  refine wpAny_bind (wpAny_bind (D.seti.here ?_))
  refine wpAny_holding (wpAny_bind ?_)
  rw [F.slot_dict_setitem.bind]
  refine wpAny_pure (wpAny_bind ?_)
  refine call_dict D.toDSelf (n := "__setitem__") (.inl (by decide +kernel)) (by decide +kernel) F.slot_dict_setitem.plain F.entry_dict_setitem (F.args_dict_setitem_3 _ _ _) ?_
  show wpAny _ _ (Builtin.Dict.notOrdered "__setitem__" ⟨[.ref d, .str k t, v], []⟩ >>= _) _ _ s
  refine wpAny_bind (D.plain _ _ _ _ _ _ (fun _ _ e => e) ?_)
  show wpAny _ _ (dictSet d (.str k t) v >>= _) _ _ s
  refine wpAny_bind (dv_set ho V hsz fun h' o' hg V' hs => ?_)
  exact wpAny_pure ⟨.none, rfl, wpAny_pure (wpAny_pure (h h' o' hg V' hs))⟩

theorem method_dict {name : Str} {id : String} {pl : Sem Bool} {dx : Addr} {Q : Value × List Value → Shared → Prop} (X : K.In s.heap) (I : W.InstAt s.heap d o C (some (dictOf [] 0)))
    (hga : findIn K (.ref C) "__getattribute__" = some (some (.builtin "dict.__getattribute__"))) (hk : findIn K (.ref C) "__getattr__" = some none)
    (hf : findIn K (.ref C) name = some (some (.builtin id))) (ht : typeOf (.builtin id) = pure (.type "method_descriptor")) (hdx : o.dict = some dx) (h : Q (.builtin id, [.ref d]) s) :
    wpAny (model prog w) A (getMethod (.ref d) name pl) Q E s := by
  have hcan : Manifest.canonical "dict.__getattribute__" = "object.__getattribute__" := by decide +kernel
  unfold getMethod specialOf
  refine wpAny_bind (wpAny_bind (I.type.here ((looks_findIn X hga).here ?_)))
  dsimp only
  rw [hcan, if_neg (by decide)]
  refine wpAny_bind (wpAny_bind (I.type.here ((looks_findIn X hk).here ?_)))
  refine wpAny_bind (wpAny_bind (I.type.here ((looks_findIn X hf).here ?_)))
  dsimp only
  rw [ht]
  refine wpAny_bind (wpAny_pure ?_)
  rw [if_neg (by decide +kernel)]
  refine wpAny_bind (wpAny_loadPart I.at_ ?_)
  have hd := I.dict
  rw [hdx] at hd ⊢
  refine wpAny_bind (wpAny_bind (wpAny_loadPart hd ?_))
  rw [nsLook_of (r := none) (by rw [lookIn_dict]; rfl)]
  exact wpAny_pure (wpAny_bind (wpAny_rule (wpAny_pure h)))
end own
end
end Mine
end CRules

section CntNew
theorem Mine.top_CntNew : True := by
  w_top off
  trivial
open PySem PySem.W PyProof.Rows
namespace Mine
open PySem PySem.Calls

abbrev cntO (dx : Addr) (es : List DictEntry) (n : Nat) : Obj := ⟨.ref 789, some dx, .dict es.toArray n, #[]⟩
noncomputable abbrev KK (w : World) : Frag := Mine.hd.heap_39 w.params
noncomputable abbrev pg : Program := PySem.Challenge.rw_vc0060_01.row.prog

section
variable {w : World} {A : Around} {E : Value → Shared → Prop} {R : Result → Shared → Prop} {s : Shared} {h₀ : Heap} {L : Addr} {m : Str → Option Value} {news : List (Addr × Obj)}

theorem cnt_check {h : Heap} (X : (KK w).In h) : Looks (model pg w) h (checkBuiltinCall "dict.__new__" ⟨[.ref 789], []⟩) () := Looks.of_peek X (by kernel_rfl)
theorem cnt_ist {h : Heap} (X : (KK w).In h) : Looks (model pg w) h (isType (.ref 789)) true := Looks.of_peek X (by kernel_rfl)
theorem cnt_sub {h : Heap} (X : (KK w).In h) : Looks (model pg w) h (isSubtype (.ref 789) (.type "dict")) true := Looks.of_peek X (by kernel_rfl)
theorem cnt_mro {h : Heap} (X : (KK w).In h) : Looks (model pg w) h (mroOf (.ref 789)) [.ref 789, .type "dict", .type "object"] := Looks.of_peek X (by kernel_rfl)
theorem cnt_del {h : Heap} (X : (KK w).In h) : Looks (model pg w) h (classHasDel 789) false := Looks.of_peek X (by kernel_rfl)


theorem cnt_callAny {h : Heap} (X : (KK w).In h) : Looks (model pg w) h (callAny (.ref 789) ⟨[], []⟩) (Fin.again (.call (.builtin "type.__call__") ⟨[.ref 789], []⟩)) := Looks.of_peek X (by kernel_rfl)
theorem cnt_tcheck {h : Heap} (X : (KK w).In h) : Looks (model pg w) h (checkBuiltinCall "type.__call__" ⟨[.ref 789], []⟩) () := Looks.of_peek X (by kernel_rfl)
theorem cnt_made {h : Heap} (X : (KK w).In h) : Looks (model pg w) h (Bind.madeBy (.ref 789)) (some "dict.__new__") := Looks.of_peek X (by kernel_rfl)
theorem cnt_self {h : Heap} (X : (KK w).In h) : Looks (model pg w) h (isSubtype (.ref 789) (.ref 789)) true := Looks.of_peek X (by kernel_rfl)
theorem cnt_init {h : Heap} (X : (KK w).In h) : Looks (model pg w) h (typeLookup (.ref 789) "__init__") (some (.ref 587)) := Looks.of_peek X (by kernel_rfl)
theorem fn587 : typeIn (KK w) (.ref 587) = some (.type "function") := by kernel_rfl

theorem cnt_alloc {h : Heap} {g : Array GenState} {d : Drawn} {t : Nat} {os : OsState} (X : (KK w).In h)
    (hq : R (.ok (.ret (.ref (h.objs.size + 1)))) ⟨(h.push emptyDict).push (cntO h.objs.size [] 0), g, d, t, os⟩) :
    codeAny (model pg w) A (.call (.builtin "dict.__new__") ⟨[.ref 789], []⟩) R ⟨h, g, d, t, os⟩ := by
  refine codeAny_call_builtin_code (Code.quiet_builtin _ (by decide +kernel)) ((cnt_check X).at (codeAny_builtin (entryFor_of_tree (id := "dict.__new__") (b := Builtin.«dict.__new__») (by kernel_rfl)) ?_))
  unfold Builtin.«dict.__new__»
  refine wpAny_bind ((cnt_ist X).at ?_)
  rw [if_neg (by decide)]
  refine wpAny_bind ((cnt_sub X).at ?_)
  rw [if_neg (by decide)]
  refine wpAny_bind ((cnt_mro X).at ?_)
  rw [if_neg (by decide)]
  refine wpAny_bind (wpAny_alloc (wpAny_bind ?_))
  show wpAny _ _ (newObjAsIs _ _ _) _ _ _
  unfold newObjAsIs
  refine wpAny_bind (wpAny_alloc (wpAny_bind ?_))
  have X2 : (KK w).In ((h.push emptyDict).push (cntO h.objs.size [] 0)) := X.keeps fun b o e => Heap.get?_push_of_some _ (Heap.get?_push_of_some _ e)
  refine (cnt_del X2).at ?_
  rw [if_neg (by decide)]
  refine wpAny_pure (wpAny_pure ?_)
  show R _ _
  rw [Heap.size_push]
  exact hq

theorem newCounter {h₀ : Heap} {L : Addr} {m : Str → Option Value} {news : List (Addr × Obj)} (F : Fr h₀ L s.heap m) (X₀ : (KK w).In h₀) (N : News h₀ L s.heap news)
    (h : ∀ x dx h', Fr h₀ L h' m → News h₀ L h' ((x, cntO dx [] 0) :: (dx, dictOf [] 0) :: news) → (∀ p ∈ news, p.1 < dx) → dx < x →
      wpAny (model pg w) (A.under (.builtin "type.__call__" ⟨[.ref 789], []⟩)) (call (.ref 587) [.ref x]) (fun v s' => v = .none ∧ R (.ok (.ret (.ref x))) s') (fun e s' => R (.error e) s') { s with heap := h' }) :
    codeAny (model pg w) A (.call (.ref 789) ⟨[], []⟩) R s := by
  obtain ⟨hh, g, d, t, os⟩ := s
  have X := X₀.keeps F.keep
  have N' := (N.push F emptyDict).push (F.push _) (cntO hh.objs.size [] 0)
  rw [Heap.size_push] at N'
  have z := h _ hh.objs.size _ ((F.push _).push _) N' (fun p hp => Heap.lt_size (N p hp).1) (Nat.lt_succ_self _)
  have X2 : (KK w).In ((hh.push emptyDict).push (cntO hh.objs.size [] 0)) := X.keeps fun b o e => Heap.get?_push_of_some _ (Heap.get?_push_of_some _ e)
  refine codeAny_of_tree ?_
  show wpAny _ _ (callAny (.ref 789) _) _ _ _
  refine (cnt_callAny X).at ⟨rfl, ?_⟩
  refine codeAny_call_builtin_at (Code.quiet_builtin _ (by decide +kernel)) entry_typeCall ((cnt_tcheck X).at ?_)
  unfold Builtin.«type.__call__»
  refine wpAny_bind ((cnt_mro X).at ?_)
  rw [if_neg (by decide)]
  refine wpAny_bind ((cnt_made X).at ?_)
  refine wpAny_bind (wpAny_pure (wpAny_bind (wpAny_holding (wpAny_call (cnt_alloc X ?_)))))
  have t1 : Looks (model pg w) ((hh.push emptyDict).push (cntO hh.objs.size [] 0)) (typeOf (.ref (hh.objs.size + 1))) (.ref 789) := looks_typeOf (N' _ (.head _)).1
  unfold isInstance
  refine wpAny_bind (wpAny_bind (t1.at ((cnt_self X2).at ?_)))
  rw [if_neg (by decide)]
  unfold callSpecial? specialOf
  refine wpAny_bind (wpAny_holding (wpAny_bind (wpAny_bind (t1.at ((cnt_init X2).at ?_)))))
  refine wpAny_holding (wpAny_bind ((bind_fn X2 _ fn587).at ?_))
  refine wpAny_bind (wpAny_mono z (fun v s' z => ?_) fun _ _ z => z)
  obtain ⟨rfl, z⟩ := z
  exact wpAny_pure (wpAny_pure z)
end
end Mine
end CntNew

section KRules
theorem Mine.top_KRules : True := by
  w_top off
  trivial
open PySem PySem.W PyProof.Rows
namespace Mine
open PySem PySem.Calls

/-- the entries es bear the finite map f from texts to ints, n places at the most -/
def DI (w : World) (es : List DictEntry) (f : Str → Option Int) (n : Nat) : Prop :=
  ∃ kvs : List (Str × Value), KeysOf (strKind pg w) es.toArray ∧ Pairs (strKind pg w) es kvs ∧ (kvs.map (·.1)).Nodup ∧ kvs.length ≤ n ∧
    ∀ k, (valueAt kvs k = none ∧ f k = none) ∨ ∃ i t, valueAt kvs k = some (.int i t) ∧ f k = some i

theorem di_nil {w : World} {n : Nat} : DI w [] (fun _ => none) n :=
  ⟨[], fun _ he => by simp at he, Pairs.nil, List.nodup_nil, Nat.zero_le _, fun _ => .inl ⟨rfl, rfl⟩⟩
theorem DI.dv {w : World} {es : List DictEntry} {f : Str → Option Int} {n ep : Nat} (D : DI w es f n) (c : Value) (od : Option Addr) :
    ∃ kvs, DV w pg c od ⟨c, od, .dict es.toArray ep, #[]⟩ kvs ∧ kvs.length ≤ n ∧ ∀ k, (valueAt kvs k = none ∧ f k = none) ∨ ∃ i t, valueAt kvs k = some (.int i t) ∧ f k = some i := by
  obtain ⟨kvs, h1, h2, h3, h4, h5⟩ := D
  exact ⟨kvs, ⟨es.toArray, ep, rfl, h1, by simpa using h2, h3⟩, h4, h5⟩
theorem DI.of_dv {w : World} {c : Value} {od : Option Addr} {o : Obj} {kvs : List (Str × Value)} {f : Str → Option Int} {n : Nat} (V : DV w pg c od o kvs) (hn : kvs.length ≤ n)
    (h : ∀ k, (valueAt kvs k = none ∧ f k = none) ∨ ∃ i t, valueAt kvs k = some (.int i t) ∧ f k = some i) : ∃ es ep, o = ⟨c, od, .dict es.toArray ep, #[]⟩ ∧ DI w es f n := by
  obtain ⟨es, ep, rfl, h1, h2, h3⟩ := V
  exact ⟨es.toList, ep, by simp, kvs, by simpa using h1, h2, h3, hn, h⟩
theorem DI.mono {w : World} {es : List DictEntry} {f : Str → Option Int} {n n' : Nat} (D : DI w es f n) (h : n ≤ n') : DI w es f n' := by
  obtain ⟨kvs, h1, h2, h3, h4, h5⟩ := D
  exact ⟨kvs, h1, h2, h3, Nat.le_trans h4 h, h5⟩

theorem valueAt_without {kvs : List (Str × Value)} (k x : Str) : valueAt (without kvs k) x = if x = k then none else valueAt kvs x := by
  unfold valueAt without
  rw [List.find?_filter]
  by_cases h : x = k
  · subst h
    rw [if_pos rfl, Option.map_eq_none_iff, List.find?_eq_none]
    intro a _
    by_cases e : a.1 = x <;> simp [e]
  · rw [if_neg h]
    congr 2
    funext a
    by_cases e : a.1 = x
    · simp [e, h]
    · simp [e]
theorem valueAt_map {kvs : List (Str × Value)} (k x : Str) (v : Value) (hk : kvs.any (fun kv => kv.1 = k) = true) :
    valueAt (kvs.map fun kv => if kv.1 = k then (kv.1, v) else kv) x = if x = k then some v else valueAt kvs x := by
  induction kvs with
  | nil => simp at hk
  | cons a r ih =>
    unfold valueAt at ih ⊢
    rw [List.map_cons, List.find?_cons, List.find?_cons]
    by_cases ha : a.1 = k
    · rw [if_pos ha]
      by_cases hx : x = k
      · subst hx; simp [ha]
      · have h1 : ¬ a.1 = x := fun e => hx (e.symm.trans ha)
        simp only [h1, decide_false, if_neg hx]
        by_cases hr : r.any (fun kv => kv.1 = k) = true
        · rw [ih hr, if_neg hx]
        · have e : (r.map fun kv => if kv.1 = k then (kv.1, v) else kv) = r := by
            rw [List.map_congr_left (g := id), List.map_id]
            intro b hb
            rw [if_neg]; · rfl
            intro e; exact hr (List.any_eq_true.mpr ⟨b, hb, by simp [e]⟩)
          rw [e]
    · rw [if_neg ha]
      have hr : r.any (fun kv => kv.1 = k) = true := by simpa [List.any_cons, ha] using hk
      by_cases hx : a.1 = x
      · have : ¬ x = k := fun e => ha (hx.trans e)
        simp [hx, this]
      · simp only [hx, decide_false]
        exact ih hr
theorem valueAt_append {kvs : List (Str × Value)} (k x : Str) (v : Value) (hk : ¬ kvs.any (fun kv => kv.1 = k) = true) :
    valueAt (kvs ++ [(k, v)]) x = if x = k then some v else valueAt kvs x := by
  unfold valueAt
  rw [List.find?_append]
  by_cases hx : x = k
  · subst hx
    have : (kvs.find? fun kv => decide (kv.1 = x)) = none := by
      rw [List.find?_eq_none]; intro b hb e
      exact hk (List.any_eq_true.mpr ⟨b, hb, e⟩)
    simp [this]
  · have h1 : ¬ k = x := fun e => hx e.symm
    rw [if_neg hx]
    cases kvs.find? fun kv => decide (kv.1 = x) <;> simp [h1]
theorem valueAt_stored {kvs : List (Str × Value)} (k x : Str) (v : Value) : valueAt (stored kvs k v) x = if x = k then some v else valueAt kvs x := by
  unfold stored
  split
  · rename_i h; exact valueAt_map k x v h
  · rename_i h; exact valueAt_append k x v h

section
variable {w : World} {A : Around} {E : Value → Shared → Prop} {s : Shared} {d : Addr} {k : Str} {t : Tok} {h₀ : Heap} {L : Addr} {m : Str → Option Value} {news : List (Addr × Obj)} {g : Obj → List (Addr × Obj)}
  {es : List DictEntry} {ep n : Nat} {f : Str → Option Int} {c : Value} {od : Option Addr}

theorem low_of (h : @LT.lt Nat _ 1 d) : (d == sysModules) = false := beq_eq_false_iff_ne.mpr (Nat.ne_of_gt h)

theorem upd_news {o o' : Obj} {h' : Heap} (F : Fr h₀ L s.heap m) (N : News h₀ L s.heap news) (U : UpdF d o news g) (hs : Heap.SameBut d s.heap h') (ho : h'.get? d = some o') : Fr h₀ L h' m ∧ News h₀ L h' (g o') := by
  obtain ⟨pre, post, rfl, hg, a, b⟩ := U.split
  have hm := N (d, o) (List.mem_append_right _ (.head _))
  exact ⟨F.change hs hm.2.1 hm.2.2, hg o' ▸ N.setIn a b hs ho⟩

theorem g_get {dv : Int} {td : Tok} {Q : Value → Shared → Prop} (S : DSelf (model pg w) s.heap d) (N : News h₀ L s.heap news) (hp : (d, (⟨c, od, .dict es.toArray ep, #[]⟩ : Obj)) ∈ news) (D : DI w es f n)
    (h : ∀ t', Q (.int ((f k).getD dv) t') { s with toks := s.toks + 1 }) : wpAny (model pg w) A (call (.builtin "dict.get") [.ref d, .str k t, .int dv td]) Q E s := by
  obtain ⟨kvs, V, _, hf⟩ := D.dv (ep := ep) c od
  refine call_get S (N _ hp).1 V ?_
  rcases hf k with ⟨h1, h2⟩ | ⟨i, u, h1, h2⟩
  · rw [h1]; rw [h2] at h; exact h td
  · rw [h1]; rw [h2] at h; exact h u

theorem g_pop {dv : Value} {Q : Value → Shared → Prop} (S : DSelf (model pg w) s.heap d) (F : Fr h₀ L s.heap m) (N : News h₀ L s.heap news) (U : UpdF d (⟨c, od, .dict es.toArray ep, #[]⟩ : Obj) news g) (D : DI w es f n) (hn : n ≤ 1000)
    (h : ∀ v tk h' es' ep', Fr h₀ L h' m → News h₀ L h' (g ⟨c, od, .dict es'.toArray ep', #[]⟩) → DI w es' (fun x => if x = k then none else f x) n → Q v { s with heap := h', toks := tk }) :
    wpAny (model pg w) A (call (.builtin "dict.pop") [.ref d, .str k t, dv]) Q E s := by
  obtain ⟨kvs, V, hl, hf⟩ := D.dv (ep := ep) c od
  have hp : (d, (⟨c, od, .dict es.toArray ep, #[]⟩ : Obj)) ∈ news := by
    obtain ⟨pre, post, rfl, _, _, _⟩ := U.split
    exact List.mem_append_right _ (.head _)
  refine call_pop S (N _ hp).1 V (by rw [sizeLine_eq]; omega) fun v tk h' o' ho' V' hs => ?_
  obtain ⟨es', ep', rfl, D'⟩ := DI.of_dv (f := fun x => if x = k then none else f x) (n := n) V' (Nat.le_trans (List.length_filter_le _ _) hl) (fun x => by
    rw [valueAt_without]
    by_cases e : x = k
    · rw [if_pos e, if_pos e]; exact .inl ⟨rfl, rfl⟩
    · rw [if_neg e, if_neg e]; exact hf x)
  obtain ⟨F', N'⟩ := upd_news F N U hs ho'
  exact h v tk h' es' ep' F' N' D'

theorem g_item {Q : Value → Shared → Prop} {i : Int} (S : DItems (model pg w) s.heap d) (N : News h₀ L s.heap news) (hp : (d, (⟨c, od, .dict es.toArray ep, #[]⟩ : Obj)) ∈ news) (D : DI w es f n) (hi : f k = some i)
    (h : ∀ t', Q (.int i t') { s with toks := s.toks + 1 }) : wpAny (model pg w) A (getItem (.ref d) (.str k t)) Q E s := by
  obtain ⟨kvs, V, _, hf⟩ := D.dv (ep := ep) c od
  rcases hf k with ⟨h1, h2⟩ | ⟨j, u, h1, h2⟩
  · rw [hi] at h2; cases h2
  · rw [hi] at h2; cases h2
    exact item_there S (N _ hp).1 V h1 (h u)

theorem g_set {Q : Unit → Shared → Prop} {i : Int} {ti : Tok} (S : DItems (model pg w) s.heap d) (F : Fr h₀ L s.heap m) (N : News h₀ L s.heap news) (U : UpdF d (⟨c, od, .dict es.toArray ep, #[]⟩ : Obj) news g) (D : DI w es f n) (hn : n ≤ 1000)
    (h : ∀ h' es' ep', Fr h₀ L h' m → News h₀ L h' (g ⟨c, od, .dict es'.toArray ep', #[]⟩) → DI w es' (fun x => if x = k then some i else f x) (n + 1) → Q () { s with heap := h', toks := s.toks + 1 }) :
    wpAny (model pg w) A (setItem (.ref d) (.str k t) (.int i ti)) Q E s := by
  obtain ⟨kvs, V, hl, hf⟩ := D.dv (ep := ep) c od
  have hp : (d, (⟨c, od, .dict es.toArray ep, #[]⟩ : Obj)) ∈ news := by
    obtain ⟨pre, post, rfl, _, _, _⟩ := U.split
    exact List.mem_append_right _ (.head _)
  refine item_set S (N _ hp).1 V (by rw [sizeLine_eq]; omega) fun h' o' ho' V' hs => ?_
  obtain ⟨es', ep', rfl, D'⟩ := DI.of_dv (f := fun x => if x = k then some i else f x) (n := n + 1) V' (Nat.le_trans (stored_length_le _ _ _) (by omega)) (fun x => by
    rw [valueAt_stored]
    by_cases e : x = k
    · rw [if_pos e, if_pos e]; exact .inr ⟨i, ti, rfl, rfl⟩
    · rw [if_neg e, if_neg e]; exact hf x)
  obtain ⟨F', N'⟩ := upd_news F N U hs ho'
  exact h h' es' ep' F' N' D'

/-- getMethod upon an exact dict -/
theorem method_exact {name : Str} {id : String} {o : Obj} {pl : Sem Bool} {Q : Value × List Value → Shared → Prop} (ho : s.heap.get? d = some o) (hc : o.cls = .type "dict") (hd : o.dict = none)
    (hl : typeLookup (.type "dict") name = pure (some (.builtin id))) (ht : typeOf (.builtin id) = pure (.type "method_descriptor")) (h : Q (.builtin id, [.ref d]) s) :
    wpAny (model pg w) A (getMethod (.ref d) name pl) Q E s := by
  have L := looks_typeOf (M := model pg w) ho
  rw [hc] at L
  have L1 : Looks (model pg w) s.heap (specialOf (.ref d) "__getattribute__") (some (.builtin "dict.__getattribute__")) := L.andThen (Looks.of_pure F.slot_dict_getattribute.lookup)
  have L2 : Looks (model pg w) s.heap (specialOf (.ref d) "__getattr__") none := L.andThen (Looks.of_pure (by rw [typeLookup_type, builtinLookup_eq_fast]; kernel_rfl))
  have L3 : Looks (model pg w) s.heap (specialOf (.ref d) name) (some (.builtin id)) := L.andThen (Looks.of_pure hl)
  have hcan : Manifest.canonical "dict.__getattribute__" = "object.__getattribute__" := by decide +kernel
  unfold getMethod
  refine wpAny_bind (L1.here ?_)
  dsimp only
  rw [hcan, if_neg (by decide)]
  refine wpAny_bind (L2.here (wpAny_bind (L3.here ?_)))
  dsimp only
  rw [ht]
  refine wpAny_bind (wpAny_pure ?_)
  rw [if_neg (by decide +kernel)]
  refine wpAny_bind (wpAny_loadPart ho ?_)
  rw [hd]
  exact wpAny_bind (wpAny_rule (wpAny_pure h))

/-- subscriptTail upon a dict or an heir, by its getItem -/
theorem tail_of {value slice : PySem.Expr} {key : Value} {ops : List Value} {Q : Value → Shared → Prop} (hl : Looks (model pg w) s.heap (specialOf (.ref d) "__getitem__") (some (.builtin "dict.__getitem__")))
    (h : wpAny (model pg w) A (getItem (.ref d) key) Q E s) (hs : subscripted slice false (.ref d) key = operate ops (getItem (.ref d) key)) : wpAny (model pg w) A (subscriptTail value slice (.ref d) key) Q E s := by
  unfold subscriptTail
  refine wpAny_bind ?_
  rw [getitemInPython_of_ne (by intro e; cases e)]
  refine wpAny_bind (hl.here ?_)
  have fin : wpAny (model pg w) A (subscripted slice false (.ref d) key) (fun r s₃ => wpAny (model pg w) A (letTemporaryGo value (.ref d) r >>= fun _ => pure r) Q E s₃) E s := by
    rw [hs]
    exact wpAny_operating (wpAny_mono h (fun r s₃ h₃ => wpAny_bind (wpAny_letTemporaryGo (wpAny_pure h₃))) fun _ _ x => x)
  first
    | exact wpAny_pure (wpAny_bind fin)
    | exact wpAny_bind (wpAny_pure (wpAny_bind fin))
    | exact wpAny_bind fin
end
end Mine
end KRules

section KLines
theorem Mine.top_KLines : True := by
  w_top off
  trivial
open PySem PySem.W PyProof.Rows
namespace Mine
open PySem PySem.Calls
section
variable {w : World} {A : Around} {E : Value → Shared → Prop} {s : Shared} {d dS : Addr} {h₀ : Heap} {L : Addr} {m : Str → Option Value} {news : List (Addr × Obj)} {es : List DictEntry} {ep : Nat}

theorem kk1 : mroIn (KK w) 789 (.type "dict") = some true := by kernel_rfl
theorem kk2 : mroIn (KK w) 789 (.type "collections.OrderedDict") = some false := by kernel_rfl
theorem kk3 : noSeq (KK w) 789 = true := by kernel_rfl
theorem kk4 : findIn (KK w) (.ref 789) "__getitem__" = some (some (.builtin "dict.__getitem__")) := by kernel_rfl
theorem kk5 : findIn (KK w) (.ref 789) "__setitem__" = some (some (.builtin "dict.__setitem__")) := by kernel_rfl
theorem kk6 : findIn (KK w) (.ref 789) "__getattribute__" = some (some (.builtin "dict.__getattribute__")) := by kernel_rfl
theorem kk7 : findIn (KK w) (.ref 789) "__getattr__" = some none := by kernel_rfl
theorem kk8 : findIn (KK w) (.ref 789) "get" = some (some (.builtin "dict.get")) := by kernel_rfl
theorem kk9 : findIn (KK w) (.ref 789) "pop" = some (some (.builtin "dict.pop")) := by kernel_rfl
theorem kk10 : findIn (KK w) (.ref 789) "__missing__" = some (some (.ref 594)) := by kernel_rfl
theorem kk11 : typeIn (KK w) (.ref 594) = some (.type "function") := by kernel_rfl

theorem instS (N : News h₀ L s.heap news) (h1 : (d, cntO dS es ep) ∈ news) (h2 : (dS, dictOf [] 0) ∈ news) : W.InstAt s.heap d (cntO dS es ep) 789 (some (dictOf [] 0)) := ⟨(N _ h1).1, rfl, rfl, (N _ h2).1⟩
theorem selfS (F : Fr h₀ L s.heap m) (KX : (KK w).In h₀) (N : News h₀ L s.heap news) (h1 : (d, cntO dS es ep) ∈ news) (h2 : (dS, dictOf [] 0) ∈ news) (low : @LT.lt Nat _ 1 d) : DItems (model pg w) s.heap d :=
  ditems_own (KX.keeps F.keep) (instS N h1 h2) kk1 kk2 kk3 kk4 kk5 (low_of low)
theorem selfX (N : News h₀ L s.heap news) (h1 : (d, dictOf es ep) ∈ news) (low : @LT.lt Nat _ 1 d) : DItems (model pg w) s.heap d := ditems_dict (N _ h1).1 rfl (low_of low)

theorem methS {name : Str} {id : String} {pl : Sem Bool} {Q : Value × List Value → Shared → Prop} (F : Fr h₀ L s.heap m) (KX : (KK w).In h₀) (N : News h₀ L s.heap news) (h1 : (d, cntO dS es ep) ∈ news) (h2 : (dS, dictOf [] 0) ∈ news)
    (hf : findIn (KK w) (.ref 789) name = some (some (.builtin id))) (ht : typeOf (.builtin id) = pure (.type "method_descriptor")) (h : Q (.builtin id, [.ref d]) s) :
    wpAny (model pg w) A (getMethod (.ref d) name pl) Q E s :=
  method_dict (KX.keeps F.keep) (instS N h1 h2) kk6 kk7 hf ht rfl h
theorem methX {name : Str} {id : String} {pl : Sem Bool} {Q : Value × List Value → Shared → Prop} (N : News h₀ L s.heap news) (h1 : (d, dictOf es ep) ∈ news)
    (hl : typeLookup (.type "dict") name = pure (some (.builtin id))) (ht : typeOf (.builtin id) = pure (.type "method_descriptor")) (h : Q (.builtin id, [.ref d]) s) :
    wpAny (model pg w) A (getMethod (.ref d) name pl) Q E s := method_exact (N _ h1).1 rfl rfl hl ht h
end
end Mine
end KLines
open PySem PySem.W PyProof.Rows PySem.Calls Mine
local macro_rules | `(tactic| k_all) => `(tactic| assumption)
local macro_rules | `(tactic| walk_at "getMethod ref") => `(tactic| (k_here; (with_reducible show wpAny _ _ (getMethod (Value.ref _) (PySem.Str.ofString "get") _) _ _ _); k_dflt (first
  | (refine' methX ?k3 ?k4 F.slot_dict_get.lookup F.type_dict_get ?_; (case k3 => k_asm); (case k4 => k_mem); k_whole)
  | (refine' methS ?k1 ?k2 ?k3 ?k4 ?k5 kk8 F.type_dict_get ?_; (case k1 => k_asm); (case k2 => k_asm); (case k3 => k_asm); (case k4 => k_mem); (case k5 => k_mem); k_whole))))
local macro_rules | `(tactic| walk_at "getMethod ref") => `(tactic| (k_here; (with_reducible show wpAny _ _ (getMethod (Value.ref _) (PySem.Str.ofString "pop") _) _ _ _); k_dflt (first
  | (refine' methX ?k3 ?k4 F.slot_dict_pop.lookup F.type_dict_pop ?_; (case k3 => k_asm); (case k4 => k_mem); k_whole)
  | (refine' methS ?k1 ?k2 ?k3 ?k4 ?k5 kk9 F.type_dict_pop ?_; (case k1 => k_asm); (case k2 => k_asm); (case k3 => k_asm); (case k4 => k_mem); (case k5 => k_mem); k_whole))))
local macro_rules | `(tactic| walk_at "getMethod ref") => `(tactic| (k_here; (with_reducible show wpAny _ _ (getMethod (Value.ref _) (PySem.Str.ofString "keys") _) _ _ _); k_dflt
  (refine' methX ?k3 ?k4 F.slot_dict_keys.lookup F.type_dict_keys ?_; (case k3 => k_asm); (case k4 => k_mem); k_whole)))
local macro_rules | `(tactic| walk_at "call builtin:dict.get") => `(tactic| (k_here; k_dflt (first
  | (refine' g_get (DItems.toDSelf (selfX ?a1 ?a2 ?a3)) ?k1 ?k2 ?k3 ?_; (case a1 => k_asm); (case a2 => k_mem); (case a3 => k_asm); (case k1 => k_asm); (case k2 => k_mem); (case k3 => k_asm); k_whole; intro t')
  | (refine' g_get (DItems.toDSelf (selfS ?a1 ?a2 ?a3 ?a4 ?a5 ?a6)) ?k1 ?k2 ?k3 ?_; (case a1 => k_asm); (case a2 => k_asm); (case a3 => k_asm); (case a4 => k_mem); (case a5 => k_mem); (case a6 => k_asm); (case k1 => k_asm); (case k2 => k_mem); (case k3 => k_asm); k_whole; intro t'))))
local macro_rules | `(tactic| walk_at "call builtin:dict.pop") => `(tactic| (k_here; k_dflt (first
  | (refine' g_pop (DItems.toDSelf (selfX ?a1 ?a2 ?a3)) ?k0 ?k1 ?k2 ?k3 ?k4 ?_; (case a1 => k_asm); (case a2 => k_mem); (case a3 => k_asm); (case k0 => k_asm); (case k1 => k_asm); (case k2 => k_updF); (case k3 => k_asm); (case k4 => omega); k_whole; intro v' tk' h' es' ep' F' N' D'; (try dsimp only at N'))
  | (refine' g_pop (DItems.toDSelf (selfS ?a1 ?a2 ?a3 ?a4 ?a5 ?a6)) ?k0 ?k1 ?k2 ?k3 ?k4 ?_; (case a1 => k_asm); (case a2 => k_asm); (case a3 => k_asm); (case a4 => k_mem); (case a5 => k_mem); (case a6 => k_asm); (case k0 => k_asm); (case k1 => k_asm); (case k2 => k_updF); (case k3 => k_asm); (case k4 => omega); k_whole; intro v' tk' h' es' ep' F' N' D'; (try dsimp only at N')))))

section Clk
theorem Mine.top_Clk : True := by
  w_top off
  trivial
open PySem PySem.W PyProof.Rows
namespace Mine
open PySem PySem.Calls

abbrev lamO (qual : Str) (cell c' : Addr) (pm ctv : Value) : Obj :=
  kla_obj (Str.ofString "<lambda>") qual { posonlyargs := [], args := [], vararg := none, kwonlyargs := [], kw_defaults := [], kwarg := none, defaults := [] }
    ((Expr.Name (Str.ofString "now") { line := 660, col := 34, endLine := 660, endCol := 37 }).Subscript (Expr.Constant (Const.int 0) 0 { line := 660, col := 38, endLine := 660, endCol := 39 }) { line := 660, col := 34, endLine := 660, endCol := 40 })
    { kind := ScopeKind.function, names := [(Str.ofString "now", NameKind.free)], isGenerator := false, isCoroutine := false } [(Str.ofString "now", cell)] pm c' ctv

section
variable {w : World} {p : Program} {loose : List Str} {mean : ExcName → Option Value} {mg mb : Str → Option Value}
set_option maxHeartbeats 8000000 in
theorem clock_c {dp un : Nat} {gd : Option (List Code)} {cn : Str} {cs : Scope} {a : Addr} {ccd : Value} {cl : List (Str × Addr)} {outer : List Env} {A₀ : Around} {base h₀ : Heap} {L : Addr} {m : Str → Option Value} {s : Shared} {Q E : Value → Shared → Prop}
    {lam cell c' now : Addr} {qual : Str} {pm ctv : Value} {oc oCell : Obj} {vs : Array Value} {tq tt : Tok} {t : Int} {nn : Nat} {rest : List (Addr × Obj)}
    (B : Below A₀ base outer h₀) (F : Fr h₀ L s.heap m) (KX : (Mine.hd.heap_39 w.params).In h₀) (T : Top p loose mean mg mb h₀) (hk : cs.kind = .function)
    (N : News h₀ L s.heap ((lam, lamO qual cell c' pm ctv) :: (c', oc) :: (cell, oCell) :: (now, listOf #[.int t tt] nn) :: rest))
    (hc : oCell.data = .cell (some (.ref now))) (hc1 : oc.data = .fields vs) (hc2 : vs[1]? = some (.str qual tq))
    (hd : dp + 1 < recursionLimit) (hu : un + 10 < cLine)
    (h : ∀ t' h' tk, Fr h₀ L h' m → News h₀ L h' ((lam, lamO qual cell c' pm ctv) :: (c', oc) :: (cell, oCell) :: (now, listOf #[.int t tt] nn) :: rest) → Q (.int t t') { s with heap := h', toks := tk }) :
    wpAny (model pg w) (ktrTop dp un gd cn cs L a ccd cl outer) (call (.ref lam) []) Q E s := by
  refine wpAny_call ?_
  refine' kla_code ?k1 ?k2 ?k3 ?k4 ?k5 ?kA ?kF ?kK ?k6 ?k7 ?k8 ?k9 ?kB ?_ ?c2 ?c3 ?c4 ?c5
  case kA => exact rfl
  case kF => exact rfl
  case kK => exact hk
  case k1 => k_asm
  case k2 => k_asm
  case k3 => k_asm
  case k4 => k_asm
  case k5 => k_asm
  case k6 => k_mem
  case k7 => exact codeRec_news (by k_asm) (by k_mem) (by assumption) (by assumption)
  case k8 => ktr_room
  case k9 => exact rfl
  case c5 => decide
  case kB => exact locs rfl
  case c2 => exact rfl
  case c3 => exact rfl
  case c4 => exact rfl
  intro g' L' h' FG' F' N' B' X' T'
  (try dsimp only)
  (try k_fold)
  refine Subscript_ ?_
  refine' nameX_F ?n1 ?n2 ?n3 ?n4 ?_ ?n5 ?n6
  case n1 => k_asm
  case n2 => exact rfl
  case n3 => k_mem
  case n4 => exact hc
  case n5 => exact rfl
  case n6 => exact rfl
  repeat' (first | (k_unfold; (try dsimp only)) | (k_end; wrow_close) | walk1 | (dsimp only; walk1) | (leave1; try dsimp only))
  exact h _ h' _ (by k_asm) (by k_asm)

theorem nadd {h₀ h : Heap} {L : Addr} {news : List (Addr × Obj)} {p : Addr × Obj} (N : News h₀ L h news) (hm : p ∈ news) : News h₀ L h (p :: news) := fun q hq => by
  rcases List.mem_cons.mp hq with rfl | hq
  · exact N _ hm
  · exact N _ hq
theorem nless {h₀ h : Heap} {L : Addr} {news : List (Addr × Obj)} {p : Addr × Obj} (N : News h₀ L h (p :: news)) : News h₀ L h news := fun q hq => N q (.tail _ hq)

theorem clock_m {dp un : Nat} {gd : Option (List Code)} {cn : Str} {cs : Scope} {a : Addr} {ccd : Value} {cl : List (Str × Addr)} {outer : List Env} {A₀ : Around} {base h₀ : Heap} {L : Addr} {m : Str → Option Value} {s : Shared} {Q E : Value → Shared → Prop}
    {lam cell c' now : Addr} {qual : Str} {pm ctv : Value} {oc oCell : Obj} {vs : Array Value} {tq tt : Tok} {t : Int} {nn : Nat} {news : List (Addr × Obj)}
    (B : Below A₀ base outer h₀) (F : Fr h₀ L s.heap m) (KX : (Mine.hd.heap_39 w.params).In h₀) (T : Top p loose mean mg mb h₀) (hk : cs.kind = .function)
    (N : News h₀ L s.heap news) (m1 : (lam, lamO qual cell c' pm ctv) ∈ news) (m2 : (c', oc) ∈ news) (m3 : (cell, oCell) ∈ news) (m4 : (now, listOf #[.int t tt] nn) ∈ news)
    (hc : oCell.data = .cell (some (.ref now))) (hc1 : oc.data = .fields vs) (hc2 : vs[1]? = some (.str qual tq))
    (hd : dp + 1 < recursionLimit) (hu : un + 10 < cLine)
    (h : ∀ t' h' tk, Fr h₀ L h' m → News h₀ L h' news → Q (.int t t') { s with heap := h', toks := tk }) :
    wpAny (model pg w) (ktrTop dp un gd cn cs L a ccd cl outer) (call (.ref lam) []) Q E s := by
  have N1 := nadd (nadd (nadd (nadd N m4) (.tail _ m3)) (.tail _ (.tail _ m2))) (.tail _ (.tail _ (.tail _ m1)))
  exact clock_c B F KX T hk N1 hc hc1 hc2 hd hu fun t' h' tk F' N' => h t' h' tk F' (nless (nless (nless (nless N'))))

theorem callWith_lam {M : Model} {A : Around} {E : Value → Shared → Prop} {s : Shared} {env : Env} {pos : Pos} {first : List Value} {Q : Value → Shared → Prop} {h₀ : Heap} {L lam cell c' : Addr} {qual : Str} {pm ctv : Value} {news : List (Addr × Obj)}
    (N : News h₀ L s.heap news) (hm : (lam, lamO qual cell c' pm ctv) ∈ news) (h : wpAny M A (call (.ref lam) (first ++ [])) Q E s) : wpAny M A (callWith pos (.ref lam) first (backTo pos (starEach [] env)) []) Q E s :=
  callWith_of (P := fun h => h.get? lam = some (lamO qual cell c' pm ctv)) rfl (fun h e => ⟨.frame, .inl rfl, (Looks.ld (part := none) e).andThen .now⟩) (evalArgs_nil3 ⟨(N _ hm).1, h⟩)
end
end Mine
end Clk

section Abs
theorem Mine.top_Abs : True := by
  w_top off
  trivial
open PySem PySem.W PyProof.Rows
namespace Mine
/-- what the store says of a key at the time t: count and end -/
def Lv (fS fX : Str → Option Int) (st : Str → Option (Int × Int)) (t : Int) : Prop :=
  ∀ k, (fS k = none ∧ fX k = none ∧ ∀ p, st k = some p → p.2 ≤ t) ∨
    ∃ c e, fS k = some c ∧ fX k = some e ∧ 1 ≤ c ∧ ((t < e ∧ st k = some (c, e)) ∨ (e ≤ t ∧ ∀ p, st k = some p → p.2 ≤ t))
def cnt (st : Str → Option (Int × Int)) (t : Int) (k : Str) : Int := match st k with
  | some (c, e) => if t < e then c else 0
  | none => 0
def endAt (st : Str → Option (Int × Int)) (t : Int) (k : Str) (ex : Int) : Int := match st k with
  | some (_, e) => if t < e then e else t + ex
  | none => t + ex
def ups (st : Str → Option (Int × Int)) (t : Int) (k : Str) (ex am : Int) : Str → Option (Int × Int) := fun x => if x = k then some (cnt st t k + am, endAt st t k ex) else st x
def StRep (w : World) (esS esX : List DictEntry) (st : Str → Option (Int × Int)) (t : Int) (n : Nat) : Prop := ∃ fS fX, DI w esS fS n ∧ DI w esX fX n ∧ Lv fS fX st t

theorem Lv.later {fS fX : Str → Option Int} {st : Str → Option (Int × Int)} {t t' : Int} (h : Lv fS fX st t) (ht : t ≤ t') : Lv fS fX st t' := fun k => by
  rcases h k with ⟨a, b, c⟩ | ⟨c, e, h1, h2, h3, h4⟩
  · exact .inl ⟨a, b, fun p hp => Int.le_trans (c p hp) ht⟩
  · refine .inr ⟨c, e, h1, h2, h3, ?_⟩
    rcases h4 with ⟨a, b⟩ | ⟨a, b⟩
    · by_cases q : t' < e
      · exact .inl ⟨q, b⟩
      · exact .inr ⟨by omega, fun p hp => by rw [b] at hp; cases hp; dsimp; omega⟩
    · exact .inr ⟨by omega, fun p hp => Int.le_trans (b p hp) ht⟩
theorem StRep.later {w : World} {esS esX : List DictEntry} {st : Str → Option (Int × Int)} {t t' : Int} {n : Nat} (h : StRep w esS esX st t n) (ht : t ≤ t') : StRep w esS esX st t' n :=
  let ⟨a, b, c, d, e⟩ := h; ⟨a, b, c, d, e.later ht⟩
theorem StRep.mono {w : World} {esS esX : List DictEntry} {st : Str → Option (Int × Int)} {t : Int} {n n' : Nat} (h : StRep w esS esX st t n) (hn : n ≤ n') : StRep w esS esX st t n' :=
  let ⟨a, b, c, d, e⟩ := h; ⟨a, b, c.mono hn, d.mono hn, e⟩

/-- the key's end has passed (or it has none): it is popped -/
theorem Lv.popped {fS fX : Str → Option Int} {st : Str → Option (Int × Int)} {t : Int} {k : Str} (h : Lv fS fX st t) (ht : 0 ≤ t) (he : (fX k).getD 0 ≤ t) :
    Lv (fun x => if x = k then none else fS x) (fun x => if x = k then none else fX x) st t := fun x => by
  by_cases q : x = k
  · subst q
    refine .inl ⟨if_pos rfl, if_pos rfl, ?_⟩
    rcases h x with ⟨_, _, c⟩ | ⟨c, e, h1, h2, h3, h4⟩
    · exact c
    · rw [h2] at he
      rcases h4 with ⟨a, b⟩ | ⟨a, b⟩
      · simp at he; omega
      · exact b
  · simp only [if_neg q]; exact h x
theorem Lv.gone {fS fX : Str → Option Int} {st : Str → Option (Int × Int)} {t : Int} {k : Str} (h : Lv fS fX st t) (he : (fX k).getD 0 ≤ t) : cnt st t k = 0 := by
  unfold cnt
  rcases h k with ⟨_, _, c⟩ | ⟨c, e, h1, h2, h3, h4⟩
  · cases q : st k with
    | none => rfl
    | some p => have := c p q; dsimp; rw [if_neg (by omega)]
  · rw [h2] at he
    rcases h4 with ⟨a, b⟩ | ⟨a, b⟩
    · simp at he; omega
    · cases q : st k with
      | none => rfl
      | some p => have := b p q; dsimp; rw [if_neg (by omega)]
theorem Lv.there {fS fX : Str → Option Int} {st : Str → Option (Int × Int)} {t : Int} {k : Str} (h : Lv fS fX st t) (ht : 0 ≤ t) (he : ¬ (fX k).getD 0 ≤ t) : (fS k).getD 0 = cnt st t k := by
  unfold cnt
  rcases h k with ⟨_, h2, c⟩ | ⟨c, e, h1, h2, h3, h4⟩
  · rw [h2] at he; simp at he; omega
  · rw [h2] at he
    rcases h4 with ⟨a, b⟩ | ⟨a, b⟩
    · rw [h1, b]; simp [a]
    · simp at he; omega
/-- behind a get of the key: nothing of it, or what is still on -/
def AtKey (fS fX : Str → Option Int) (st : Str → Option (Int × Int)) (t : Int) (k : Str) : Prop := (fS k = none ∧ fX k = none) ∨ ∃ c e, fS k = some c ∧ fX k = some e ∧ 1 ≤ c ∧ t < e ∧ st k = some (c, e)
def StRepK (w : World) (esS esX : List DictEntry) (st : Str → Option (Int × Int)) (t : Int) (n : Nat) (k : Str) : Prop := ∃ fS fX, DI w esS fS n ∧ DI w esX fX n ∧ Lv fS fX st t ∧ AtKey fS fX st t k
theorem StRepK.rep {w : World} {esS esX : List DictEntry} {st : Str → Option (Int × Int)} {t : Int} {n : Nat} {k : Str} (h : StRepK w esS esX st t n k) : StRep w esS esX st t n :=
  let ⟨a, b, c, d, e, _⟩ := h; ⟨a, b, c, d, e⟩
theorem Lv.atKey {fS fX : Str → Option Int} {st : Str → Option (Int × Int)} {t : Int} {k : Str} (h : Lv fS fX st t) (ht : 0 ≤ t) (he : ¬ (fX k).getD 0 ≤ t) : AtKey fS fX st t k := by
  rcases h k with ⟨_, h2, c⟩ | ⟨c, e, h1, h2, h3, h4⟩
  · rw [h2] at he; exact absurd ht he
  · rw [h2] at he
    rcases h4 with ⟨a, b⟩ | ⟨a, b⟩
    · exact .inr ⟨c, e, h1, h2, h3, a, b⟩
    · exact absurd a he
theorem AtKey.val {fS fX : Str → Option Int} {st : Str → Option (Int × Int)} {t : Int} {k : Str} (h : Lv fS fX st t) (a : AtKey fS fX st t k) : (fS k).getD 0 = cnt st t k := by
  unfold cnt
  rcases a with ⟨h1, h2⟩ | ⟨c, e, h1, h2, h3, h4, h5⟩
  · rw [h1]
    rcases h k with ⟨_, _, c⟩ | ⟨c, e, h1', _⟩
    · cases q : st k with
      | none => rfl
      | some p => have := c p q; dsimp; rw [if_neg (by omega)]
    · rw [h1] at h1'; cases h1'
  · rw [h1, h5]; simp [h4]
theorem AtKey.none_of {fS fX : Str → Option Int} {st : Str → Option (Int × Int)} {t : Int} {k : Str} (h : Lv fS fX st t) (a : fS k = none) : cnt st t k = 0 ∧ ∀ ex, endAt st t k ex = t + ex := by
  unfold cnt endAt
  rcases h k with ⟨_, _, c⟩ | ⟨c, e, h1', _⟩
  · cases q : st k with
    | none => exact ⟨rfl, fun _ => rfl⟩
    | some p => have := c p q; dsimp; rw [if_neg (by omega)]; exact ⟨rfl, fun _ => by rw [if_neg (by omega)]⟩
  · rw [a] at h1'; cases h1'
/-- one more, upon a key that is fresh -/
theorem Lv.fresh {fS fX : Str → Option Int} {st : Str → Option (Int × Int)} {t am ex : Int} {k : Str} (h : Lv fS fX st t) (a : AtKey fS fX st t k) (hex : 0 < ex) (ham : 1 ≤ am) (q : (fS k).getD 0 + am = am) :
    Lv (fun x => if x = k then some ((fS k).getD 0 + am) else fS x) (fun x => if x = k then some (t + ex) else fX x) (ups st t k ex am) t := fun x => by
  have hn : fS k = none := by
    rcases a with ⟨h1, _⟩ | ⟨c, e, h1, _, h3, _⟩
    · exact h1
    · rw [h1] at q; simp at q; omega
  obtain ⟨z1, z2⟩ := AtKey.none_of h hn
  by_cases e : x = k
  · subst e
    refine .inr ⟨am, t + ex, by simp [hn], by simp, ham, .inl ⟨by omega, ?_⟩⟩
    unfold ups; rw [if_pos rfl, z1, z2]; simp
  · unfold ups; simp only [if_neg e]; exact h x
theorem Lv.more {fS fX : Str → Option Int} {st : Str → Option (Int × Int)} {t am ex : Int} {k : Str} (h : Lv fS fX st t) (a : AtKey fS fX st t k) (ham : 1 ≤ am) (q : ¬ (fS k).getD 0 + am = am) :
    Lv (fun x => if x = k then some ((fS k).getD 0 + am) else fS x) fX (ups st t k ex am) t := fun x => by
  obtain ⟨c, e, h1, h2, h3, h4, h5⟩ : ∃ c e, fS k = some c ∧ fX k = some e ∧ 1 ≤ c ∧ t < e ∧ st k = some (c, e) := by
    rcases a with ⟨h1, _⟩ | z
    · rw [h1] at q; simp at q
    · exact z
  by_cases e' : x = k
  · subst e'
    refine .inr ⟨c + am, e, by simp [h1], h2, by omega, .inl ⟨h4, ?_⟩⟩
    unfold ups cnt endAt; rw [if_pos rfl, h5]; simp [h4]
  · unfold ups; simp only [if_neg e']; exact h x
end Mine
end Abs

section Adapt
theorem Mine.top_Adapt : True := by
  w_top off
  trivial
open PySem PySem.W PyProof.Rows
namespace Mine
theorem updF_self {d : Addr} {o : Obj} {news : List (Addr × Obj)} {g : Obj → List (Addr × Obj)} (U : UpdF d o news g) : g o = news := by
  obtain ⟨pre, post, rfl, hg, _, _⟩ := U.split
  exact hg o
theorem updF_mem {d : Addr} {o : Obj} {news : List (Addr × Obj)} {g : Obj → List (Addr × Obj)} (U : UpdF d o news g) : (d, o) ∈ news := by
  obtain ⟨pre, post, rfl, hg, _, _⟩ := U.split
  exact List.mem_append_right _ (.head _)
theorem updF_of {d : Addr} {o o' : Obj} {news : List (Addr × Obj)} {g : Obj → List (Addr × Obj)} (U : UpdF d o news g) {p : Addr × Obj} (hp : p ∈ g o') : p = (d, o') ∨ (p ∈ news ∧ p.1 ≠ d) := by
  obtain ⟨pre, post, rfl, hg, h1, h2⟩ := U.split
  rw [hg o'] at hp
  rcases List.mem_append.mp hp with hp | hp
  · exact .inr ⟨List.mem_append_left _ hp, h1 p hp⟩
  · rcases List.mem_cons.mp hp with rfl | hp
    · exact .inl rfl
    · exact .inr ⟨List.mem_append_right _ (.tail _ hp), h2 p hp⟩

/-- two made objects turned: the rest of the ledger apart from them -/
theorem adapt {S X : Addr} {oS oX : Obj} {news : List (Addr × Obj)} {g1 : Obj → List (Addr × Obj)} {g2 : Obj → Obj → List (Addr × Obj)} (U1 : UpdF S oS news g1) (U2 : ∀ o, UpdF X oX (g1 o) (g2 o)) :
    ∃ rest : List (Addr × Obj), (∀ p ∈ rest, p.1 ≠ S) ∧ (∀ p ∈ rest, p.1 ≠ X) ∧ (S, oS) ∈ news ∧ (X, oX) ∈ news ∧ (∀ p ∈ rest, p ∈ news) ∧ ∀ oS' oX', ∀ p ∈ g2 oS' oX', p = (S, oS') ∨ p = (X, oX') ∨ p ∈ rest := by
  have q : ∀ p : Addr × Obj, p ∈ news.filter (fun p : Addr × Obj => decide (p.1 ≠ S ∧ p.1 ≠ X)) ↔ p ∈ news ∧ (p.1 ≠ S ∧ p.1 ≠ X) := fun p => by
    rw [List.mem_filter, decide_eq_true_iff]
  refine ⟨news.filter (fun p : Addr × Obj => decide (p.1 ≠ S ∧ p.1 ≠ X)), fun p hp => ((q p).mp hp).2.1, fun p hp => ((q p).mp hp).2.2, updF_mem U1, ?_, fun p hp => ((q p).mp hp).1, fun oS' oX' p hp => ?_⟩
  · have := updF_mem (U2 oS); rwa [updF_self U1] at this
  · rcases updF_of (U2 oS') hp with e | ⟨e, hX⟩
    · exact .inr (.inl e)
    · rcases updF_of U1 e with e | ⟨e, hS⟩
      · exact .inl e
      · exact .inr (.inr ((q p).mpr ⟨e, hS, hX⟩))
theorem news_of {h₀ h : Heap} {L : Addr} {news news' : List (Addr × Obj)} (N : News h₀ L h news) (hs : ∀ p ∈ news', p ∈ news) : News h₀ L h news' := fun p hp => N p (hs p hp)
end Mine
end Adapt

section CGet
theorem Mine.top_CGet : True := by
  w_top off
  trivial
open PySem PySem.W PyProof.Rows
namespace Mine
open PySem PySem.Calls
abbrev stD (w : World) (k1 k2 k3 k4 : Tok) (lam S X EV : Addr) : Obj :=
  dictOf [⟨PyData.keyHash w.params (Str.ofString "clock"), .str (Str.ofString "clock") k1, .ref lam⟩, ⟨PyData.keyHash w.params (Str.ofString "storage"), .str (Str.ofString "storage") k2, .ref S⟩,
    ⟨PyData.keyHash w.params (Str.ofString "expirations"), .str (Str.ofString "expirations") k3, .ref X⟩, ⟨PyData.keyHash w.params (Str.ofString "events"), .str (Str.ofString "events") k4, .ref EV⟩] 4
local macro_rules | `(tactic| k_room) => `(tactic| ktr_room)
local macro_rules | `(tactic| k_units) => `(tactic| ktr_units)
local macro_rules | `(tactic| walk_at "getMethod ref") => `(tactic| (k_here; (with_reducible show wpAny _ _ (getMethod (Value.ref _) (PySem.Str.ofString "clock") _) _ _ _); k_dflt (refine' kmu_own ?k1 ?k2 ?k3 ?k4 ?k5 ?_; (case k1 => k_asm); (case k2 => k_asm); (case k3 => k_inst); (case k4 => k_is); (case k5 => k_is); k_whole)))
local macro_rules | `(tactic| walk_at "callWith ref nil nil") => `(tactic| (k_here; (fail_if_success (with_reducible show wpAny _ _ (callWith _ (Value.ref 483) _ _ _) _ _ _)); (fail_if_success (with_reducible show wpAny _ _ (callWith _ (Value.ref 171) _ _ _) _ _ _)); k_dflt (refine' callWith_lam ?k1 ?k2 ?_; (case k1 => k_asm); (case k2 => k_mem); k_whole)))
local macro_rules | `(tactic| walk_at "call ref nil") => `(tactic| (k_here; k_dflt (refine' clock_m ?k1 ?k2 ?k3 ?k4 ?k5 ?k6 ?m1 ?m2 ?m3 ?m4 ?c1 ?c2 ?c3 ?d1 ?d2 ?_; (case k1 => k_asm); (case k2 => k_asm); (case k3 => k_asm); (case k4 => k_asm); (case k5 => first | exact rfl | assumption); (case k6 => k_asm); (case m1 => k_mem); (case m2 => k_mem); (case m3 => k_mem); (case m4 => k_mem); (case c1 => k_asm); (case c2 => k_asm); (case c3 => k_asm); (case d1 => ktr_room); (case d2 => ktr_units); k_whole; intro t' h' tk' F' N')))
section
variable {w : World} {p : Program} {loose : List Str} {mean : ExcName → Option Value} {mg mb : Str → Option Value}
set_option maxHeartbeats 8000000 in
theorem get_c {dp un : Nat} {gd : Option (List Code)} {cn : Str} {cs : Scope} {a : Addr} {ccd : Value} {cl : List (Str × Addr)} {outer : List Env} {A₀ : Around} {base h₀ : Heap} {L : Addr} {m : Str → Option Value} {s : Shared} {Q E : Value → Shared → Prop} {st sd S dS X EV lam cell c' now : Addr} {k1 k2 k3 k4 tq tt : Tok} {qual : Str} {pm ctv : Value} {oc oCell : Obj} {vs : Array Value} {esS esX : List DictEntry} {nS nX nn nE n : Nat} {sg : Str → Option (Int × Int)} {t : Int} {rest : List (Addr × Obj)} {key : Str} {tk : Tok}
    (B : Below A₀ base outer h₀) (F : Fr h₀ L s.heap m) (KX : (Mine.hd.heap_39 w.params).In h₀) (T : Top p loose mean mg mb h₀) (hk : cs.kind = .function)
    (N : News h₀ L s.heap ((S, cntO dS esS nS) :: (X, dictOf esX nX) :: (st, instObj 912 sd) :: (sd, stD w k1 k2 k3 k4 lam S X EV) :: (dS, dictOf [] 0) :: (lam, lamO qual cell c' pm ctv) :: (c', oc) :: (cell, oCell) :: (EV, dictOf [] nE) :: (now, listOf #[.int t tt] nn) :: rest))
    (R : StRep w esS esX sg t n) (hn : n ≤ 900) (ht : 0 ≤ t) (ord : @LT.lt Nat _ 1 cell ∧ @LT.lt Nat _ cell now ∧ @LT.lt Nat _ now c' ∧ @LT.lt Nat _ c' lam ∧ @LT.lt Nat _ lam sd ∧ @LT.lt Nat _ sd st ∧ @LT.lt Nat _ st dS ∧ @LT.lt Nat _ dS S ∧ @LT.lt Nat _ S X ∧ @LT.lt Nat _ X EV) (hc : oCell.data = .cell (some (.ref now))) (hc1 : oc.data = .fields vs) (hc2 : vs[1]? = some (.str qual tq)) (rS : ∀ p ∈ rest, p.1 ≠ S) (rX : ∀ p ∈ rest, p.1 ≠ X) 
    (hd : dp + 5 < recursionLimit) (hu : un + 40 < cLine)
    (h : ∀ (t' : Tok) tk' h' esS' nS' esX' nX', Fr h₀ L h' m → News h₀ L h' (((S, cntO dS esS' nS') :: (X, dictOf esX' nX') :: (st, instObj 912 sd) :: (sd, stD w k1 k2 k3 k4 lam S X EV) :: (dS, dictOf [] 0) :: (lam, lamO qual cell c' pm ctv) :: (c', oc) :: (cell, oCell) :: (EV, dictOf [] nE) :: (now, listOf #[.int t tt] nn) :: rest)) → StRepK w esS' esX' sg t n key → Q (.int (cnt sg t key) t') { s with heap := h', toks := tk' }) :
    wpAny (model pg w) (ktrTop dp un gd cn cs L a ccd cl outer) (call (.ref 837) [.ref st, .str key tk]) Q E s := by
  obtain ⟨fS, fX, DS, DX, H⟩ := R
  have lS : @LT.lt Nat _ 1 S := by omega
  have lX : @LT.lt Nat _ 1 X := by omega
  refine wpAny_call ?_
  ktr_enter
  repeat' (first | (k_unfold; (try dsimp only)) | (k_end; wrow_close) | walk1 | (dsimp only; walk1) | (leave1; try dsimp only))
  · have e : ((if key = key then (none : Option Int) else fS key).getD 0) = cnt sg t key := by rw [if_pos rfl]; exact (H.gone (by assumption)).symm
    rw [e]
    exact h _ _ _ _ _ _ _ (by k_asm) (by k_asm) ⟨fun x => if x = key then none else fS x, fun x => if x = key then none else fX x, by assumption, by assumption, H.popped ht (by assumption), .inl ⟨if_pos rfl, if_pos rfl⟩⟩
  · have e : (fS key).getD 0 = cnt sg t key := H.there ht (by assumption)
    rw [e]
    exact h _ _ _ _ _ _ _ (by k_asm) (by k_asm) ⟨fS, fX, by assumption, by assumption, H, H.atKey ht (by assumption)⟩

theorem get_m {dp un : Nat} {gd : Option (List Code)} {cn : Str} {cs : Scope} {a : Addr} {ccd : Value} {cl : List (Str × Addr)} {outer : List Env} {A₀ : Around} {base h₀ : Heap} {L : Addr} {m : Str → Option Value} {s : Shared} {Q E : Value → Shared → Prop} {st sd S dS X EV lam cell c' now : Addr} {k1 k2 k3 k4 tq tt : Tok} {qual : Str} {pm ctv : Value} {oc oCell : Obj} {vs : Array Value} {esS esX : List DictEntry} {nS nX nn nE n : Nat} {sg : Str → Option (Int × Int)} {t : Int} {news : List (Addr × Obj)} {g1 : Obj → List (Addr × Obj)} {g2 : Obj → Obj → List (Addr × Obj)} {key : Str} {tk : Tok}
    (B : Below A₀ base outer h₀) (F : Fr h₀ L s.heap m) (KX : (Mine.hd.heap_39 w.params).In h₀) (T : Top p loose mean mg mb h₀) (hk : cs.kind = .function)
    (N : News h₀ L s.heap news) (U1 : UpdF S (cntO dS esS nS) news g1) (U2 : ∀ o, UpdF X (dictOf esX nX) (g1 o) (g2 o)) (i0 : (st, instObj 912 sd) ∈ news) (i1 : (sd, stD w k1 k2 k3 k4 lam S X EV) ∈ news) (i2 : (dS, dictOf [] 0) ∈ news) (i3 : (lam, lamO qual cell c' pm ctv) ∈ news) (i4 : (c', oc) ∈ news) (i5 : (cell, oCell) ∈ news) (i6 : (EV, dictOf [] nE) ∈ news) (i7 : (now, listOf #[.int t tt] nn) ∈ news)
    (R : StRep w esS esX sg t n) (hn : n ≤ 900) (ht : 0 ≤ t) (ord : @LT.lt Nat _ 1 cell ∧ @LT.lt Nat _ cell now ∧ @LT.lt Nat _ now c' ∧ @LT.lt Nat _ c' lam ∧ @LT.lt Nat _ lam sd ∧ @LT.lt Nat _ sd st ∧ @LT.lt Nat _ st dS ∧ @LT.lt Nat _ dS S ∧ @LT.lt Nat _ S X ∧ @LT.lt Nat _ X EV) (hc : oCell.data = .cell (some (.ref now))) (hc1 : oc.data = .fields vs) (hc2 : vs[1]? = some (.str qual tq)) 
    (hd : dp + 5 < recursionLimit) (hu : un + 40 < cLine)
    (h : ∀ (t' : Tok) tk' h' esS' nS' esX' nX', Fr h₀ L h' m → News h₀ L h' ((g2 (cntO dS esS' nS') (dictOf esX' nX'))) → StRepK w esS' esX' sg t n key → Q (.int (cnt sg t key) t') { s with heap := h', toks := tk' }) :
    wpAny (model pg w) (ktrTop dp un gd cn cs L a ccd cl outer) (call (.ref 837) [.ref st, .str key tk]) Q E s := by
  obtain ⟨rest, rS, rX, jS, jX, jr, jb⟩ := adapt U1 U2
  have N1 : News h₀ L s.heap ((S, cntO dS esS nS) :: (X, dictOf esX nX) :: (st, instObj 912 sd) :: (sd, stD w k1 k2 k3 k4 lam S X EV) :: (dS, dictOf [] 0) :: (lam, lamO qual cell c' pm ctv) :: (c', oc) :: (cell, oCell) :: (EV, dictOf [] nE) :: (now, listOf #[.int t tt] nn) :: rest) := news_of N (by
    intro q hq
    simp only [List.mem_cons] at hq
    rcases hq with rfl | rfl | rfl | rfl | rfl | rfl | rfl | rfl | rfl | rfl | hq <;> first | assumption | exact jr _ hq)
  refine get_c B F KX T hk N1 R hn ht ord hc hc1 hc2 rS rX  hd hu ?_
  intro  t' tk' h' esS' nS' esX' nX' F' N'
  exact h  t' tk' h' esS' nS' esX' nX' F' (news_of N' (fun q hq => by
    rcases jb _ _ q hq with rfl | rfl | hq
    · exact .head _
    · exact .tail _ (.head _)
    · simp only [List.mem_cons]; repeat' (first | exact .inr hq | refine .inr ?_)))
end
end Mine
end CGet

section CMiss
theorem Mine.top_CMiss : True := by
  w_top off
  trivial
open PySem PySem.W PyProof.Rows
namespace Mine
open PySem PySem.Calls
section
variable {w : World} {p : Program} {loose : List Str} {mean : ExcName → Option Value} {mg mb : Str → Option Value}
set_option maxHeartbeats 8000000 in
theorem itemS {dp un : Nat} {gd : Option (List Code)} {cn : Str} {cs : Scope} {a : Addr} {ccd : Value} {cl : List (Str × Addr)} {outer : List Env} {A₀ : Around} {base h₀ : Heap} {L : Addr} {m : Str → Option Value} {s : Shared} {Q E : Value → Shared → Prop} {S dS : Addr} {es : List DictEntry} {ep n : Nat} {f : Str → Option Int} {key : Str} {tk : Tok} {news : List (Addr × Obj)}
    (B : Below A₀ base outer h₀) (F : Fr h₀ L s.heap m) (KX : (Mine.hd.heap_39 w.params).In h₀) (T : Top p loose mean mg mb h₀) (hk : cs.kind = .function) (N : News h₀ L s.heap news) (i1 : (S, cntO dS es ep) ∈ news) (i2 : (dS, dictOf [] 0) ∈ news) (low : @LT.lt Nat _ 1 S) (D : DI w es f n)
    (hd : dp + 5 < recursionLimit) (hu : un + 20 < cLine)
    (h : ∀ t' tk' h', Fr h₀ L h' m → News h₀ L h' news → Q (.int ((f key).getD 0) t') { s with heap := h', toks := tk' }) :
    wpAny (model pg w) (ktrTop dp un gd cn cs L a ccd cl outer) (getItem (.ref S) (.str key tk)) Q E s := by
  have I := instS N i1 i2
  have Dt := selfS F KX N i1 i2 low
  obtain ⟨kvs, V, _, hf⟩ := D.dv (ep := ep) (.ref 789) (some dS)
  rcases hf key with ⟨h1, h2⟩ | ⟨j, u, h1, h2⟩
  · rw [h2] at h
    refine item_missing (KX.keeps F.keep) I kk10 kk11 Dt V h1 ?_
    (refine' code_def ?k1 ?k2 ?k3 ?k4 ?k5 ?kA ?kF ?kK ?k6 ?k7 ?k8 ?k9 ?kB ?_ ?c2 ?c3 ?c4 ?c5; (case kA => exact rfl); (case kF => exact rfl); (case kK => assumption); (case k1 => k_asm); (case k2 => k_asm); (case k3 => k_asm); (case k4 => k_asm); (case k5 => k_asm); (case k6 => k_is); (case k7 => k_is); (case k8 => ktr_room); (case k9 => first | exact BindsTo.of_eq rfl | exact binds_K (by k_in) rfl (by k_is) rfl rfl rfl); (case c5 => decide); (case kB => exact locs rfl); (case c2 => exact rfl); (case c3 => exact rfl); (case c4 => exact rfl); k_whole; intro g' L' h' FG' F' N' B' X' T'; (try dsimp only); (try k_fold))
    repeat' (first | (k_unfold; (try dsimp only)) | (k_end; wrow_close) | walk1 | (dsimp only; walk1) | (leave1; try dsimp only))
    exact h _ _ _ (by k_asm) (by k_asm)
  · rw [h2] at h
    refine item_there Dt I.at_ V h1 (h _ _ _ F N)
end
end Mine
end CMiss

section CIncr
theorem Mine.top_CIncr : True := by
  w_top off
  trivial
open PySem PySem.W PyProof.Rows
namespace Mine
open PySem PySem.Calls
local macro_rules | `(tactic| k_room) => `(tactic| ktr_room)
local macro_rules | `(tactic| k_units) => `(tactic| ktr_units)
local macro_rules | `(tactic| walk_at "getMethod ref") => `(tactic| (k_here; (with_reducible show wpAny _ _ (getMethod (Value.ref _) (PySem.Str.ofString "clock") _) _ _ _); k_dflt (refine' kmu_own ?k1 ?k2 ?k3 ?k4 ?k5 ?_; (case k1 => k_asm); (case k2 => k_asm); (case k3 => k_inst); (case k4 => k_is); (case k5 => k_is); k_whole)))
local macro_rules | `(tactic| walk_at "callWith ref nil nil") => `(tactic| (k_here; (fail_if_success (with_reducible show wpAny _ _ (callWith _ (Value.ref 483) _ _ _) _ _ _)); (fail_if_success (with_reducible show wpAny _ _ (callWith _ (Value.ref 171) _ _ _) _ _ _)); k_dflt (refine' callWith_lam ?k1 ?k2 ?_; (case k1 => k_asm); (case k2 => k_mem); k_whole)))
local macro_rules | `(tactic| walk_at "call ref nil") => `(tactic| (k_here; k_dflt (refine' clock_m ?k1 ?k2 ?k3 ?k4 ?k5 ?k6 ?m1 ?m2 ?m3 ?m4 ?c1 ?c2 ?c3 ?d1 ?d2 ?_; (case k1 => k_asm); (case k2 => k_asm); (case k3 => k_asm); (case k4 => k_asm); (case k5 => first | exact rfl | assumption); (case k6 => k_asm); (case m1 => k_mem); (case m2 => k_mem); (case m3 => k_mem); (case m4 => k_mem); (case c1 => k_asm); (case c2 => k_asm); (case c3 => k_asm); (case d1 => ktr_room); (case d2 => ktr_units); k_whole; intro t' h' tk' F' N')))
local macro_rules | `(tactic| walk_at "getItem ref str") => `(tactic| (k_here; k_dflt (refine' itemS ?k1 ?k2 ?k3 ?k4 ?k5 ?k6 ?i1 ?i2 ?lo ?di ?d1 ?d2 ?_; (case k1 => k_asm); (case k2 => k_asm); (case k3 => k_asm); (case k4 => k_asm); (case k5 => first | exact rfl | assumption); (case k6 => k_asm); (case i1 => k_mem); (case i2 => k_mem); (case lo => k_asm); (case di => k_asm); (case d1 => ktr_room); (case d2 => ktr_units); k_whole; intro t' tk' h' F' N')))
local macro_rules | `(tactic| walk_at "subscriptTail") => `(tactic| (k_here; k_dflt (show wpAny _ _ (subscriptTail _ _ (Value.ref _) (Value.str _ _)) _ _ _); k_dflt (refine' tail_of (DItems.geti (selfS ?a1 ?a2 ?a3 ?a4 ?a5 ?a6)) ?_ ?hs; (case a1 => k_asm); (case a2 => k_asm); (case a3 => k_asm); (case a4 => k_mem); (case a5 => k_mem); (case a6 => k_asm); (case hs => with_unfolding_all rfl))))
local macro_rules | `(tactic| walk_at "subscriptTail") => `(tactic| (k_here; k_dflt (show wpAny _ _ (subscriptTail _ _ (Value.ref _) (Value.str _ _)) _ _ _); k_dflt (refine' tail_of (DItems.geti (selfX ?a1 ?a2 ?a3)) ?_ ?hs; (case a1 => k_asm); (case a2 => k_mem); (case a3 => k_asm); (case hs => with_unfolding_all rfl))))
local macro_rules | `(tactic| walk_at "setItem ref str int") => `(tactic| (k_here; k_dflt (first
  | (refine' g_set (selfX ?a1 ?a2 ?a3) ?k0 ?k1 ?k2 ?k3 ?k4 ?_; (case a1 => k_asm); (case a2 => k_mem); (case a3 => k_asm); (case k0 => k_asm); (case k1 => k_asm); (case k2 => k_updF); (case k3 => k_asm); (case k4 => omega); k_whole; intro h' es' ep' F' N' D'; (try dsimp only at N'))
  | (refine' g_set (selfS ?a1 ?a2 ?a3 ?a4 ?a5 ?a6) ?k0 ?k1 ?k2 ?k3 ?k4 ?_; (case a1 => k_asm); (case a2 => k_asm); (case a3 => k_asm); (case a4 => k_mem); (case a5 => k_mem); (case a6 => k_asm); (case k0 => k_asm); (case k1 => k_asm); (case k2 => k_updF); (case k3 => k_asm); (case k4 => omega); k_whole; intro h' es' ep' F' N' D'; (try dsimp only at N')))))
local macro_rules | `(tactic| walk_at "call ref") => `(tactic| (k_here; k_dflt (show wpAny _ _ (call (Value.ref 837) [Value.ref _, Value.str _ _] []) _ _ _); k_dflt (refine' get_m ?k1 ?k2 ?k3 ?k4 ?k5 ?k6 ?u1 ?u2 ?i0 ?i1 ?i2 ?i3 ?i4 ?i5 ?i6 ?i7 ?r1 ?r2 ?r3 ?s1 ?s2 ?s3 ?s4  ?d1 ?d2 ?_; (case k1 => k_asm); (case k2 => k_asm); (case k3 => k_asm); (case k4 => k_asm); (case k5 => first | exact rfl | assumption); (case k6 => k_asm); (case i0 => k_mem); (case i1 => k_mem); (case i3 => k_mem); (case i4 => k_mem); (case i5 => k_mem); (case s2 => k_asm); (case s3 => k_asm); (case s4 => k_asm); (case i7 => k_mem); (case u1 => k_updF); (case i2 => k_mem); (case i6 => k_mem); (case u2 => (intro o; (try dsimp only); k_updF)); (case r1 => k_asm); (case r2 => omega); (case r3 => omega); (case s1 => k_asm); (case d1 => ktr_room); (case d2 => ktr_units); k_whole; intro t' tk' h' esS' nS' esX' nX' F' N' R'; (try dsimp only at N'); have R2 := StRepK.rep R')))
section
variable {w : World} {p : Program} {loose : List Str} {mean : ExcName → Option Value} {mg mb : Str → Option Value}
set_option maxHeartbeats 8000000 in
theorem incr_c {dp un : Nat} {gd : Option (List Code)} {cn : Str} {cs : Scope} {a : Addr} {ccd : Value} {cl : List (Str × Addr)} {outer : List Env} {A₀ : Around} {base h₀ : Heap} {L : Addr} {m : Str → Option Value} {s : Shared} {Q E : Value → Shared → Prop} {st sd S dS X EV lam cell c' now : Addr} {k1 k2 k3 k4 tq tt : Tok} {qual : Str} {pm ctv : Value} {oc oCell : Obj} {vs : Array Value} {esS esX : List DictEntry} {nS nX nn nE n : Nat} {sg : Str → Option (Int × Int)} {t : Int} {rest : List (Addr × Obj)} {key : Str} {tk tx ta : Tok} {ex am : Int}
    (B : Below A₀ base outer h₀) (F : Fr h₀ L s.heap m) (KX : (Mine.hd.heap_39 w.params).In h₀) (T : Top p loose mean mg mb h₀) (hk : cs.kind = .function)
    (N : News h₀ L s.heap ((S, cntO dS esS nS) :: (X, dictOf esX nX) :: (st, instObj 912 sd) :: (sd, stD w k1 k2 k3 k4 lam S X EV) :: (dS, dictOf [] 0) :: (lam, lamO qual cell c' pm ctv) :: (c', oc) :: (cell, oCell) :: (EV, dictOf [] nE) :: (now, listOf #[.int t tt] nn) :: rest))
    (R : StRep w esS esX sg t n) (hn : n ≤ 900) (ht : 0 ≤ t) (ord : @LT.lt Nat _ 1 cell ∧ @LT.lt Nat _ cell now ∧ @LT.lt Nat _ now c' ∧ @LT.lt Nat _ c' lam ∧ @LT.lt Nat _ lam sd ∧ @LT.lt Nat _ sd st ∧ @LT.lt Nat _ st dS ∧ @LT.lt Nat _ dS S ∧ @LT.lt Nat _ S X ∧ @LT.lt Nat _ X EV) (hc : oCell.data = .cell (some (.ref now))) (hc1 : oc.data = .fields vs) (hc2 : vs[1]? = some (.str qual tq)) (rS : ∀ p ∈ rest, p.1 ≠ S) (rX : ∀ p ∈ rest, p.1 ≠ X) (hex : 0 < ex) (ham : 1 ≤ am)
    (hd : dp + 7 < recursionLimit) (hu : un + 60 < cLine)
    (h : ∀ (t' : Tok) tk' h' esS' nS' esX' nX', Fr h₀ L h' m → News h₀ L h' (((S, cntO dS esS' nS') :: (X, dictOf esX' nX') :: (st, instObj 912 sd) :: (sd, stD w k1 k2 k3 k4 lam S X EV) :: (dS, dictOf [] 0) :: (lam, lamO qual cell c' pm ctv) :: (c', oc) :: (cell, oCell) :: (EV, dictOf [] nE) :: (now, listOf #[.int t tt] nn) :: rest)) → StRep w esS' esX' (ups sg t key ex am) t (n + 1) → Q (.int (cnt sg t key + am) t') { s with heap := h', toks := tk' }) :
    wpAny (model pg w) (ktrTop dp un gd cn cs L a ccd cl outer) (call (.ref 822) [.ref st, .str key tk, .int ex tx] [(Str.ofString "amount", .int am ta)]) Q E s := by
  have lS : @LT.lt Nat _ 1 S := by omega
  have lX : @LT.lt Nat _ 1 X := by omega
  refine wpAny_call ?_
  (refine' code_def ?k1 ?k2 ?k3 ?k4 ?k5 ?kA ?kF ?kK ?k6 ?k7 ?k8 ?k9 ?kB ?_ ?c2 ?c3 ?c4 ?c5; (case kA => exact rfl); (case kF => exact rfl); (case kK => assumption); (case k1 => k_asm); (case k2 => k_asm); (case k3 => k_asm); (case k4 => k_asm); (case k5 => k_asm); (case k6 => k_is); (case k7 => k_is); (case k8 => ktr_room); (case k9 => first | exact BindsTo.of_eq rfl | exact binds_K (by k_in) rfl (by k_is) rfl rfl rfl); (case c5 => decide); (case kB => exact locs rfl); (case c2 => exact rfl); (case c3 => exact rfl); (case c4 => exact rfl); k_whole; intro g' L' h' FG' F' N' B' X' T'; (try dsimp only); (try k_fold))
  iterate 16 (first | (k_unfold; (try dsimp only)) | (k_end; wrow_close) | walk1 | (dsimp only; walk1) | (leave1; try dsimp only))
  obtain ⟨fS, fX, DS, DX, H, HK⟩ := (by assumption : StRepK _ _ _ _ _ _ _)
  have ev : (fS key).getD 0 = cnt sg t key := HK.val H
  repeat' (first | (k_unfold; (try dsimp only)) | (k_end; wrow_close) | walk1 | (dsimp only; walk1) | (leave1; try dsimp only))
  · have e : ((if key = key then some ((fS key).getD 0 + am) else fS key).getD 0) = cnt sg t key + am := by rw [if_pos rfl, Option.getD_some, ev]
    rw [e]
    have q : (fS key).getD 0 + am = am := by
      have q0 := (by assumption : ((if key = key then some ((fS key).getD 0 + am) else fS key).getD 0) = am)
      rwa [if_pos rfl, Option.getD_some] at q0
    exact h _ _ _ _ _ _ _ (by k_asm) (by k_asm) ⟨_, _, by assumption, by assumption, H.fresh HK hex ham q⟩
  · have e : ((if key = key then some ((fS key).getD 0 + am) else fS key).getD 0) = cnt sg t key + am := by rw [if_pos rfl, Option.getD_some, ev]
    rw [e]
    have q : ¬ (fS key).getD 0 + am = am := by
      have q0 := (by assumption : ¬ ((if key = key then some ((fS key).getD 0 + am) else fS key).getD 0) = am)
      rwa [if_pos rfl, Option.getD_some] at q0
    exact h _ _ _ _ _ _ _ (by k_asm) (by k_asm) ⟨_, _, by assumption, DX.mono (by omega), H.more HK ham q⟩

theorem incr_m {dp un : Nat} {gd : Option (List Code)} {cn : Str} {cs : Scope} {a : Addr} {ccd : Value} {cl : List (Str × Addr)} {outer : List Env} {A₀ : Around} {base h₀ : Heap} {L : Addr} {m : Str → Option Value} {s : Shared} {Q E : Value → Shared → Prop} {st sd S dS X EV lam cell c' now : Addr} {k1 k2 k3 k4 tq tt : Tok} {qual : Str} {pm ctv : Value} {oc oCell : Obj} {vs : Array Value} {esS esX : List DictEntry} {nS nX nn nE n : Nat} {sg : Str → Option (Int × Int)} {t : Int} {news : List (Addr × Obj)} {g1 : Obj → List (Addr × Obj)} {g2 : Obj → Obj → List (Addr × Obj)} {key : Str} {tk tx ta : Tok} {ex am : Int}
    (B : Below A₀ base outer h₀) (F : Fr h₀ L s.heap m) (KX : (Mine.hd.heap_39 w.params).In h₀) (T : Top p loose mean mg mb h₀) (hk : cs.kind = .function)
    (N : News h₀ L s.heap news) (U1 : UpdF S (cntO dS esS nS) news g1) (U2 : ∀ o, UpdF X (dictOf esX nX) (g1 o) (g2 o)) (i0 : (st, instObj 912 sd) ∈ news) (i1 : (sd, stD w k1 k2 k3 k4 lam S X EV) ∈ news) (i2 : (dS, dictOf [] 0) ∈ news) (i3 : (lam, lamO qual cell c' pm ctv) ∈ news) (i4 : (c', oc) ∈ news) (i5 : (cell, oCell) ∈ news) (i6 : (EV, dictOf [] nE) ∈ news) (i7 : (now, listOf #[.int t tt] nn) ∈ news)
    (R : StRep w esS esX sg t n) (hn : n ≤ 900) (ht : 0 ≤ t) (ord : @LT.lt Nat _ 1 cell ∧ @LT.lt Nat _ cell now ∧ @LT.lt Nat _ now c' ∧ @LT.lt Nat _ c' lam ∧ @LT.lt Nat _ lam sd ∧ @LT.lt Nat _ sd st ∧ @LT.lt Nat _ st dS ∧ @LT.lt Nat _ dS S ∧ @LT.lt Nat _ S X ∧ @LT.lt Nat _ X EV) (hc : oCell.data = .cell (some (.ref now))) (hc1 : oc.data = .fields vs) (hc2 : vs[1]? = some (.str qual tq)) (hex : 0 < ex) (ham : 1 ≤ am)
    (hd : dp + 7 < recursionLimit) (hu : un + 60 < cLine)
    (h : ∀ (t' : Tok) tk' h' esS' nS' esX' nX', Fr h₀ L h' m → News h₀ L h' ((g2 (cntO dS esS' nS') (dictOf esX' nX'))) → StRep w esS' esX' (ups sg t key ex am) t (n + 1) → Q (.int (cnt sg t key + am) t') { s with heap := h', toks := tk' }) :
    wpAny (model pg w) (ktrTop dp un gd cn cs L a ccd cl outer) (call (.ref 822) [.ref st, .str key tk, .int ex tx] [(Str.ofString "amount", .int am ta)]) Q E s := by
  obtain ⟨rest, rS, rX, jS, jX, jr, jb⟩ := adapt U1 U2
  have N1 : News h₀ L s.heap ((S, cntO dS esS nS) :: (X, dictOf esX nX) :: (st, instObj 912 sd) :: (sd, stD w k1 k2 k3 k4 lam S X EV) :: (dS, dictOf [] 0) :: (lam, lamO qual cell c' pm ctv) :: (c', oc) :: (cell, oCell) :: (EV, dictOf [] nE) :: (now, listOf #[.int t tt] nn) :: rest) := news_of N (by
    intro q hq
    simp only [List.mem_cons] at hq
    rcases hq with rfl | rfl | rfl | rfl | rfl | rfl | rfl | rfl | rfl | rfl | hq <;> first | assumption | exact jr _ hq)
  refine incr_c B F KX T hk N1 R hn ht ord hc hc1 hc2 rS rX hex ham hd hu ?_
  intro  t' tk' h' esS' nS' esX' nX' F' N'
  exact h  t' tk' h' esS' nS' esX' nX' F' (news_of N' (fun q hq => by
    rcases jb _ _ q hq with rfl | rfl | hq
    · exact .head _
    · exact .tail _ (.head _)
    · simp only [List.mem_cons]; repeat' (first | exact .inr hq | refine .inr ?_)))
end
end Mine
end CIncr

section TupGet
theorem Mine.top_TupGet : True := by
  w_top off
  trivial
open PySem PySem.W PyProof.Rows
namespace Mine
open PySem PySem.Calls
section
variable {w : World} {A : Around} {E : Value → Shared → Prop} {s : Shared} {x C : Addr} {ox : Obj} {od : Option Obj} {name : Str} {K : Frag}
theorem entry_tga : entryFor table "tuple.__getattribute__" = some Builtin.«object.__getattribute__» :=
  entryFor_alias (id' := "object.__getattribute__") (by kernel_rfl) (by first | rfl | decide +kernel) (by decide +kernel) (by kernel_rfl)

theorem get_tup {expr : Bool} {f : Addr} {a : Value} {Q : Value → Shared → Prop} (X : K.In s.heap) (I : W.InstAt s.heap x ox C od) (hga : findIn K (.ref C) "__getattribute__" = some (some (.builtin "tuple.__getattribute__")))
    (hk : findIn K (.ref C) "__getattr__" = some none) (hm : mroIn K C (.type "tuple") = some true) (hf : findObj K C od name = some (.bind (.ref f) a))
    (h : wpAny (model pg w) A.in1 (call (.ref f) [a, .ref x, .ref C]) (fun v s' => wpAny (model pg w) A (handedOut v) Q E s') (fun _ _ => False) { s with toks := s.toks + 1 }) :
    wpAny (model pg w) A (getAttr (.ref x) name expr) Q E s := by
  obtain ⟨hh, g, d, t, os⟩ := s
  have L0 := I.type (M := model pg w)
  have L1 := looks_findIn (M := model pg w) X hga
  have L2 := looks_findIn (M := model pg w) X hk
  have L3 := looks_find (M := model pg w) X I hf
  have L4 : Looks (model pg w) hh (isInstance (.ref x) (.type "tuple")) true := L0.andThen (looks_mroIn X hm)
  unfold getAttr getAttrBy
  refine wpAny_bind (wpAny_mkText (wpAny_holding (wpAny_bind (L0.at (wpAny_bind (L1.at ?_))))))
  show wpAny _ _ (getAttrByItsOwn _ _ _ _ _ _) _ _ _
  unfold getAttrByItsOwn
  refine wpAny_bind (show wpAny _ _ (typeLookup (.ref C) "__getattr__") _ _ _ from L2.at ?_)
  refine wpAny_bind (wpAny_attempt ?_)
  unfold callGetattribute
  rw [if_neg (by simp [onTheHeap])]
  unfold boundAndCalled
  rw [F.slot_tuple_getattribute.bind]
  refine wpAny_holding (wpAny_bind (wpAny_pure (wpAny_call (codeAny_call_builtin F.slot_tuple_getattribute.plain entry_tga ?_))))
  refine @check_slot (model pg w) _ _ _ "tuple.__getattribute__" "tuple" "__getattribute__" (.ref x) [.str name t] [] _ (by decide +kernel) (by decide +kernel) L4 (F.args_tuple_getattribute_2 _ _) ?_
  show wpAny _ _ (typeOf (.ref x) >>= _) _ _ _
  refine wpAny_bind (L0.at (wpAny_bind (L3.at ?_)))
  show wpAny _ _ (Builtin.ObjectAttr.bindTo (.ref f) a (.ref x) (.ref C)) _ _ _
  unfold Builtin.ObjectAttr.bindTo
  refine wpAny_bind (wpAny_holding (wpAny_mono h (fun v s' z => wpAny_pure z) fun _ _ z => z.elim))
end
end Mine
end TupGet

section IsSub
theorem Mine.top_IsSub : True := by
  w_top off
  trivial
open PySem PySem.W PyProof.Rows
namespace Mine
open PySem PySem.Calls
section
variable {w : World} {A : Around} {E : Value → Shared → Prop} {s : Shared}
theorem issub_go {c : Addr} {Q : Value → Shared → Prop} (h1 : Looks (model pg w) s.heap (checkBuiltinCall "issubclass" ⟨[.ref c, .type "tuple"], []⟩) ())
    (h2 : Looks (model pg w) s.heap (Builtin.«issubclass.nested» ⟨[.ref c, .type "tuple", rawInt 0], []⟩) (.done (.ret (.bool true)))) (h : Q (.bool true) s) :
    wpAny (model pg w) A (call (.builtin "issubclass") [.ref c, .type "tuple"]) Q E s := by
  refine wpAny_call (codeAny_call_builtin (by decide +kernel) (entryFor_of_tree (b := Builtin.«issubclass») (by kernel_rfl)) (h1.here ?_))
  show wpAny _ _ (pure (Fin.again (.builtin "issubclass.nested" ⟨[.ref c, .type "tuple", rawInt 0], []⟩))) _ _ _
  exact wpAny_pure ⟨Code.quiet_builtin _ (by decide +kernel), codeAny_builtin (entryFor_of_tree (b := Builtin.«issubclass.nested») (by kernel_rfl)) (h2.here h)⟩
theorem issub416 {Q : Value → Shared → Prop} (X : (KK w).In s.heap) (h : Q (.bool true) s) : wpAny (model pg w) A (call (.builtin "issubclass") [.ref 416, .type "tuple"]) Q E s :=
  issub_go (Looks.of_peek X (by kernel_rfl)) (Looks.of_peek X (by kernel_rfl)) h
theorem issub171 {Q : Value → Shared → Prop} (X : (KK w).In s.heap) (h : Q (.bool true) s) : wpAny (model pg w) A (call (.builtin "issubclass") [.ref 171, .type "tuple"]) Q E s :=
  issub_go (Looks.of_peek X (by kernel_rfl)) (Looks.of_peek X (by kernel_rfl)) h
end
end Mine
namespace Mine
open PySem PySem.Calls
section
variable {w : World} {A : Around} {E : Value → Shared → Prop} {s : Shared} {h₀ : Heap} {L : Addr} {m : Str → Option Value}
theorem meth_tup {pl : Sem Bool} {Q : Value × List Value → Shared → Prop} (F : Fr h₀ L s.heap m) (X₀ : (KK w).In h₀) (h : Q (.builtin "tuple.__getitem__", []) { s with toks := s.toks + 1 }) :
    wpAny (model pg w) A (getMethod (.type "tuple") "__getitem__" pl) Q E s :=
  method_type (K := KK w) (T := "tuple") F X₀ (kitMeta_of (by decide +kernel)) (by decide +kernel) (v := .builtin "tuple.__getitem__") (by kernel_rfl) (by decide +kernel) h
theorem tgi449 {i : Int} {tk : Tok} {v : Value} {Q : Value → Shared → Prop} (X : (KK w).In s.heap) (e : (i = 0 ∧ v = .int 1 972) ∨ (i = 1 ∧ v = .str (Str.ofString "second") 973)) (h : Q v s) :
    wpAny (model pg w) A (call (.builtin "tuple.__getitem__") [.ref 449, .int i tk]) Q E s := by
  have h1 : Looks (model pg w) s.heap (checkBuiltinCall "tuple.__getitem__" ⟨[.ref 449, .int i tk], []⟩) () := Looks.of_peek X (by kernel_rfl)
  have h2 : Looks (model pg w) s.heap (Builtin.«tuple.__getitem__» ⟨[.ref 449, .int i tk], []⟩) (.done (.ret v)) := by
    rcases e with ⟨rfl, rfl⟩ | ⟨rfl, rfl⟩
    · exact Looks.of_peek X (by kernel_rfl)
    · exact Looks.of_peek X (by kernel_rfl)
  exact wpAny_call (codeAny_call_builtin F.slot_tuple_getitem.plain F.entry_tuple_getitem (h1.here (h2.here h)))
end
end Mine
end IsSub

section TupComp
theorem Mine.top_TupComp : True := by
  w_top off
  trivial
namespace Mine
open PySem PySem.Spec PySem.Calls PyProof.Rows PySem.W
def TupAt (ax : Addr) (its : Array Value) (news : List (Addr × Obj)) : Prop := ∃ o, (ax, o) ∈ news ∧ o.cls = .type "tuple" ∧ ∃ n, o.data = .seq its n
section
variable {prog : Program} {w : World} {A : Around} {E : Value → Shared → Prop} {s : Shared} {h₀ : Heap} {L : Addr} {m : Str → Option Value} {env : Env}
theorem TupAt.tup {h : Heap} {ax : Addr} {its : Array Value} {news : List (Addr × Obj)} (x : TupAt ax its news) (N : News h₀ L h news) : h.IsTuple ax its := let ⟨o, hm, r⟩ := x; ⟨o, (N _ hm).1, r⟩
def SrcTup (prog : Program) (w : World) (A : Around) (h₀ : Heap) (L : Addr) (m : Str → Option Value) (env : Env) (elt : Expr) (x : Str) (scope : Scope) (cl : List (Str × Addr)) (Fin : Shared → List Value → List (Addr × Obj) → Prop) (xv : Value) (s₁ : Shared) : Prop :=
  ∃ ax its news, xv = .ref ax ∧ A.handled = none ∧ Fr h₀ L s₁.heap m ∧ News h₀ L s₁.heap news ∧ TupAt ax its news ∧ its.size ≤ sizeLine ∧
    ∀ s₂ : Shared, (∃ h, s₂ = { s₁ with heap := h }) → LCg.CompRest prog w A h₀ L m env elt x scope cl s₂ (TupAt ax its) (fun i v => its[i]? = some v) (Fin s₂) its.size 0 [] news
theorem tup_st {ax I : Addr} {its : Array Value} : ∀ i (h h' : Heap) (o : Obj) (nw : List (Addr × Obj)), (h.IsTupleIter I ax i ∧ h.IsTuple ax its) → h.get? I = some o → h'.get? I = some o → (∀ b o, h₀.get? b = some o → h'.get? b = some o) → News h₀ L h' nw → TupAt ax its nw → (h'.IsTupleIter I ax i ∧ h'.IsTuple ax its) :=
  fun i h h' o nw st e e' k N S => ⟨by obtain ⟨o', q, r⟩ := st.1; rw [e] at q; cases q; exact ⟨o, e', r⟩, S.tup N⟩
theorem TupComp {elt iter : Expr} {x : Str} {px : Pos} {scope : Scope} {cl : List (Str × Addr)} {pos : Pos} {Q : Value → Shared → Prop} (F₀ : Fr h₀ L s.heap m)
    (hclos : closureFor scope env = pure cl) (hcell : ∀ y ∈ scope.names, y.2 ≠ .cell) (hkind : scope.kind = .function)
    (hnames : ∀ y ∈ scope.names, y.2 = .local → scope.names.lookup y.1 = some .local) (hx : scope.names.lookup x = some .local)
    (h : wpAny (model prog w) A (eval iter env) (SrcTup prog w A h₀ L m env elt x scope cl (fun s₂ => LCg.FinE h₀ L m s₂ Q)) E s)
    (hs : ∀ x, foldedSetIterable iter env x = pure x := by intro _; rfl) :
    wpAny (model prog w) A (eval (.ListComp elt [⟨.Name x px, iter, [], 0⟩] scope pos) env) Q E s := by
  rw [eval_ListComp]
  refine wpAny_comprehension_free (use := none) rfl hs hclos hkind hnames (wpAny_mono h (fun xv s₁ h₁ => ?_) fun _ _ e => e)
  obtain ⟨ax, its, news, rfl, hh, F, N, S, hsz, R⟩ := h₁
  have hl := S.tup N
  have hlt : ax < s₁.heap.objs.size := by obtain ⟨_, e, _⟩ := hl; exact Heap.lt_size e
  refine wpAny_pyIter_tuple hl ?_
  have up : ∀ b o, s₁.heap.get? b = some o → (s₁.heap.push { cls := .type "tuple_iterator", data := .fields #[.ref ax, .int 0 0] }).get? b = some o := fun b o e => Heap.get?_push_of_some _ e
  refine LCg.block_U (Walks.tuple hh s₁.heap.objs.size ax (Nat.ne_of_lt hlt) its) hsz (fun i h st => by obtain ⟨o, e, _⟩ := st.1; exact ⟨o, e⟩) tup_st hcell hkind hx ⟨⟨_, Heap.get?_push_size _ rfl, rfl, rfl⟩, hl.push _⟩ (fun b hb => ?_)
      (F.keeps up) (N.grown up) (Nat.ne_of_lt F.ns.lt) (next_is_new F) (fun p hp => Nat.ne_of_lt (Heap.lt_size (N p hp).1)) S (R _ ⟨_, rfl⟩) ?_
  · show b < (s₁.heap.push _).objs.size
    rw [Heap.size_push]
    rcases List.mem_cons.mp hb with rfl | hb
    · exact Nat.lt_succ_self _
    · rw [List.mem_singleton.mp hb]; exact Nat.lt_succ_of_lt hlt
  · intro D C h tk m' ys news' F' N' o1 hn hC₀ hD₀ hCL hDL hCD offC fin
    refine ⟨m', hn, fun h'' hs'' => fin D h'' tk (F'.change hs'' hCL hC₀) (fun p hp => ?_) o1⟩
    refine ⟨hs''.extBut _ _ ?_ (N' p hp).1, (N' p hp).2⟩
    rcases List.mem_cons.mp hp with rfl | hp
    · exact Ne.symm hCD
    · exact offC p hp
def OneEnd (h₀ : Heap) (L : Addr) (m : Str → Option Value) (s₁ : Shared) (news : List (Addr × Obj)) (G : Value → Prop) (y : Value) (s' : Shared) : Prop := ∃ h' tk', s' = { s₁ with heap := h', toks := tk' } ∧ Fr h₀ L h' m ∧ News h₀ L h' news ∧ G y
theorem OneEnd.intro {m : Str → Option Value} {s₁ : Shared} {news : List (Addr × Obj)} {G : Value → Prop} {y : Value} {h' : Heap} {tk : Nat} (F : Fr h₀ L h' m) (N : News h₀ L h' news) (g : G y) : OneEnd h₀ L m s₁ news G y { s₁ with heap := h', toks := tk } := ⟨h', tk, rfl, F, N, g⟩
/-- one element in the tuple -/
theorem SrcTup.one {elt : Expr} {x : Str} {scope : Scope} {cl : List (Str × Addr)} {Fin : Shared → List Value → List (Addr × Obj) → Prop} {ax : Addr} {v : Value} {k : Nat} {news : List (Addr × Obj)} {s₁ : Shared}
    (hh : A.handled = none) (F : Fr h₀ L s₁.heap m) (N : News h₀ L s₁.heap news) (hm : (ax, ({ cls := .type "tuple", data := .seq #[v] k } : Obj)) ∈ news)
    (h : ∀ I oI C oC D m₂ h tk (E' : Value → Shared → Prop), LCg.NsObj oC m₂ → m₂ x = some v → Fr h₀ L h m → News h₀ L h ((I, oI) :: (C, oC) :: (D, LCg.lst []) :: news) →
      wpAny (model prog w) A (eval elt (compEnvC scope cl C env)) (OneEnd h₀ L m s₁ ((I, oI) :: (C, oC) :: (D, LCg.lst []) :: news) (fun y => ∀ g, Fin { s₁ with heap := g } [y] news)) E' { s₁ with heap := h, toks := tk }) :
    SrcTup prog w A h₀ L m env elt x scope cl Fin (.ref ax) s₁ :=
  ⟨ax, #[v], news, rfl, hh, F, N, ⟨_, hm, rfl, _, rfl⟩, Nat.le_of_ble_eq_true rfl, fun s₂ ⟨g, e⟩ => by
    subst e
    refine LCg.CompRest.succ fun v' I oI C oC D m₂ h' tk E' hv hC hx F' N' off ne => ?_
    have hv' : v = v' := by simpa using hv
    subst hv'
    refine wpAny_mono (h I oI C oC D m₂ h' tk E' hC hx F' N') (fun y s' hy => ?_) fun _ _ e => e
    obtain ⟨h2, tk2, rfl, F2, N2, fin⟩ := hy
    exact ⟨h2, tk2, news, rfl, F2, N2, off, ⟨_, hm, rfl, _, rfl⟩, LCg.CompRest.zero (fin _)⟩⟩
end
end Mine
end TupComp

section CKey
theorem Mine.top_CKey : True := by
  w_top off
  trivial
open PySem PySem.W PyProof.Rows
namespace Mine
open PySem PySem.Calls
local macro_rules | `(tactic| k_room) => `(tactic| ktr_room)
local macro_rules | `(tactic| k_units) => `(tactic| ktr_units)
local macro_rules | `(tactic| walk_at "getMethod ref") => `(tactic| (k_here; (with_reducible show wpAny _ _ (getMethod (Value.ref _) (PySem.Str.ofString "clock") _) _ _ _); k_dflt (refine' kmu_own ?k1 ?k2 ?k3 ?k4 ?k5 ?_; (case k1 => k_asm); (case k2 => k_asm); (case k3 => k_inst); (case k4 => k_is); (case k5 => k_is); k_whole)))
local macro_rules | `(tactic| walk_at "callWith ref nil nil") => `(tactic| (k_here; (fail_if_success (with_reducible show wpAny _ _ (callWith _ (Value.ref 483) _ _ _) _ _ _)); (fail_if_success (with_reducible show wpAny _ _ (callWith _ (Value.ref 171) _ _ _) _ _ _)); k_dflt (refine' callWith_lam ?k1 ?k2 ?_; (case k1 => k_asm); (case k2 => k_mem); k_whole)))
local macro_rules | `(tactic| walk_at "call ref nil") => `(tactic| (k_here; k_dflt (refine' clock_m ?k1 ?k2 ?k3 ?k4 ?k5 ?k6 ?m1 ?m2 ?m3 ?m4 ?c1 ?c2 ?c3 ?d1 ?d2 ?_; (case k1 => k_asm); (case k2 => k_asm); (case k3 => k_asm); (case k4 => k_asm); (case k5 => first | exact rfl | assumption); (case k6 => k_asm); (case m1 => k_mem); (case m2 => k_mem); (case m3 => k_mem); (case m4 => k_mem); (case c1 => k_asm); (case c2 => k_asm); (case c3 => k_asm); (case d1 => ktr_room); (case d2 => ktr_units); k_whole; intro t' h' tk' F' N')))
section
variable {w : World} {p : Program} {loose : List Str} {mean : ExcName → Option Value} {mg mb : Str → Option Value}
abbrev itO (itd : Addr) (A Ln : Int) (ta tl tn : Tok) : Obj := ⟨.ref 528, some itd, .plain, #[some (.int A ta), some (.int Ln tl), some (.str (Str.ofString "LIMITER") tn)]⟩
abbrev o449 : Obj := ⟨.ref 416, some 448, .seq #[.int 1 972, .str (Str.ofString "second") 973] 0, #[]⟩
theorem in449 {h : Heap} (X : (KK w).In h) : W.InstAt h 449 o449 416 (some (dictOf [] 0)) := ⟨X 449 _ (by kernel_rfl), rfl, rfl, X 448 _ (by kernel_rfl)⟩
theorem k416a : findIn (KK w) (.ref 416) "__getattribute__" = some (some (.builtin "tuple.__getattribute__")) := by kernel_rfl
theorem k416b : findIn (KK w) (.ref 416) "__getattr__" = some none := by kernel_rfl
theorem k416c : mroIn (KK w) 416 (.type "tuple") = some true := by kernel_rfl
theorem k416d : findObj (KK w) 416 (some (dictOf [] 0)) "seconds" = some (.bind (.ref 320) (.ref 408)) := by kernel_rfl
theorem k416e : findObj (KK w) 416 (some (dictOf [] 0)) "name" = some (.bind (.ref 320) (.ref 411)) := by kernel_rfl
local macro_rules | `(tactic| walk_at "getAttr ref") => `(tactic| (k_here; (with_reducible show wpAny _ _ (getAttr (Value.ref 449) (PySem.Str.ofString "seconds") _) _ _ _); k_dflt (refine' get_tup (Frag.In.keeps ?k1 (Fr.keep ?k2)) (in449 (Frag.In.keeps ?k1 (Fr.keep ?k2))) k416a k416b k416c k416d ?_; (case k1 => k_asm); (case k2 => k_asm); k_whole)))
local macro_rules | `(tactic| walk_at "getAttr ref") => `(tactic| (k_here; (with_reducible show wpAny _ _ (getAttr (Value.ref 449) (PySem.Str.ofString "name") _) _ _ _); k_dflt (refine' get_tup (Frag.In.keeps ?k1 (Fr.keep ?k2)) (in449 (Frag.In.keeps ?k1 (Fr.keep ?k2))) k416a k416b k416c k416e ?_; (case k1 => k_asm); (case k2 => k_asm); k_whole)))
local macro_rules | `(tactic| walk_at "call type:type") => `(tactic| (k_here; (with_reducible show wpAny _ _ (call (Value.type "type") [Value.ref 449]) _ _ _); k_dflt (refine' kto_own (in449 (Frag.In.keeps ?k1 (Fr.keep ?k2))) ?_; (case k1 => k_asm); (case k2 => k_asm); k_whole)))
local macro_rules | `(tactic| walk_at "call builtin:issubclass") => `(tactic| (k_here; k_dflt (refine' issub416 (Frag.In.keeps ?k1 (Fr.keep ?k2)) ?_; (case k1 => k_asm); (case k2 => k_asm); k_whole)))
local macro_rules | `(tactic| walk_at "getMethod type:tuple") => `(tactic| (k_here; k_dflt (refine' meth_tup ?k1 ?k2 ?_; (case k1 => k_asm); (case k2 => k_asm); k_whole)))
local macro_rules | `(tactic| walk_at "call builtin:tuple.__getitem__") => `(tactic| (k_here; k_dflt (refine' tgi449 (Frag.In.keeps ?k1 (Fr.keep ?k2)) ?e ?_; (case k1 => k_asm); (case k2 => k_asm); (case e => first | exact .inl ⟨rfl, rfl⟩ | exact .inr ⟨rfl, rfl⟩); k_whole)))
set_option maxHeartbeats 8000000 in
theorem exp_m {dp un : Nat} {gd : Option (List Code)} {cn : Str} {cs : Scope} {a : Addr} {ccd : Value} {cl : List (Str × Addr)} {outer : List Env} {A₀ : Around} {base h₀ : Heap} {L : Addr} {m : Str → Option Value} {s : Shared} {Q E : Value → Shared → Prop} {it itd : Addr} {A Ln : Int} {ta tl tn : Tok} {news : List (Addr × Obj)}
    (B : Below A₀ base outer h₀) (F : Fr h₀ L s.heap m) (KX : (Mine.hd.heap_39 w.params).In h₀) (T : Top p loose mean mg mb h₀) (hk : cs.kind = .function) (N : News h₀ L s.heap news) (i1 : (it, itO itd A Ln ta tl tn) ∈ news) (i2 : (itd, dictOf [] 0) ∈ news) (hA : 1 ≤ A ∧ A ≤ 5) (hL : 2 ≤ Ln ∧ Ln ≤ 6)
    (hd : dp + 5 < recursionLimit) (hu : un + 20 < cLine)
    (h : ∀ t' tk' h', Fr h₀ L h' m → News h₀ L h' news → Q (.int Ln t') { s with heap := h', toks := tk' }) :
    wpAny (model pg w) (ktrTop dp un gd cn cs L a ccd cl outer) (call (.ref 483) [.ref it]) Q E s := by
  have N1 : News h₀ L s.heap ((it, itO itd A Ln ta tl tn) :: (itd, dictOf [] 0) :: news) := nadd (nadd N i2) (.tail _ i1)
  refine wpAny_call ?_
  (refine' code_def ?k1 ?k2 ?k3 ?k4 ?k5 ?kA ?kF ?kK ?k6 ?k7 ?k8 ?k9 ?kB ?_ ?c2 ?c3 ?c4 ?c5; (case kA => exact rfl); (case kF => exact rfl); (case kK => assumption); (case k1 => k_asm); (case k2 => k_asm); (case k3 => k_asm); (case k4 => k_asm); (case k5 => k_asm); (case k6 => k_is); (case k7 => k_is); (case k8 => ktr_room); (case k9 => first | exact BindsTo.of_eq rfl | exact binds_K (by k_in) rfl (by k_is) rfl rfl rfl); (case c5 => decide); (case kB => exact locs rfl); (case c2 => exact rfl); (case c3 => exact rfl); (case c4 => exact rfl); k_whole; intro g' L' h' FG' F' N' B' X' T'; (try dsimp only); (try k_fold))
  repeat' (first | (k_unfold; (try dsimp only)) | (k_end; wrow_close) | walk1 | (dsimp only; walk1) | (leave1; try dsimp only))
  have e : (1 : Int) * Ln = Ln := Int.one_mul Ln
  rw [e]
  exact h _ _ _ (by k_asm) (nless (nless (by k_asm)))

local macro_rules | `(tactic| walk_at "eval ListComp") => `(tactic| (k_here; k_dflt (refine TupComp (F₀ := by k_asm) (by with_unfolding_all rfl) (by decide) (by rfl) (by decide) (by rfl) ?_ (hs := by intro _; with_unfolding_all rfl))))
local macro_rules | `(tactic| walk_at "SrcTup") => `(tactic| (k_here; k_dflt (refine' SrcTup.one ?hh ?F ?N ?hm ?_; (case hh => with_unfolding_all rfl); (case F => k_asm); (case N => k_asm); (case hm => k_mem); intro I9 oI9 C9 oC9 D9 m9 h9 tk9 E9 hC9 hx9 F9 N9; (try dsimp only))))
local macro_rules | `(tactic| walk_at "OneEnd") => `(tactic| (k_here; k_dflt (refine' OneEnd.intro ?a ?b ?_; (case a => k_asm); (case b => k_asm); intro g9)))
theorem len5 {x : Int} (h : 0 ≤ x ∧ x ≤ 9) : (Str.ofString (toString x)).length = 1 := by
  have : x = 0 ∨ x = 1 ∨ x = 2 ∨ x = 3 ∨ x = 4 ∨ x = 5 ∨ x = 6 ∨ x = 7 ∨ x = 8 ∨ x = 9 := by omega
  rcases this with rfl | rfl | rfl | rfl | rfl | rfl | rfl | rfl | rfl | rfl <;> decide +kernel
abbrev keyTs (nm : Str) (A Ln : Int) : List Str := [nm, Str.ofString (toString A), Str.ofString (toString Ln), Str.ofString "second"]
theorem keyOk {nm : Str} {A Ln : Int} (hnm : nm.length ≤ 5) (hA : 1 ≤ A ∧ A ≤ 5) (hL : 2 ≤ Ln ∧ Ln ≤ 6) : JoinOk (Str.ofString "/") (keyTs nm A Ln) = true := by
  have e1 := len5 (x := A) (by omega)
  have e2 := len5 (x := Ln) (by omega)
  have e3 : (Str.ofString "second").length = 6 := by decide +kernel
  have e4 : (Str.ofString "/").length = 1 := by decide +kernel
  refine joinOk_of_weight ?_ (by omega)
  simp only [keyTs, List.map_cons, List.map_nil, List.sum_cons, List.sum_nil, List.length_cons, List.length_nil, e1, e2, e3]
  omega
theorem join4 {pr : Program} {w : World} {A₁ : Around} {s : Shared} {h₀ : Heap} {L : Addr} {news : List (Addr × Obj)} {Q E : Value → Shared → Prop} {D : Addr} {x a b c d : Str} {t t1 t2 t3 t4 : Tok} {n : Nat} (N : News h₀ L s.heap news) (hm : (D, listOf #[.str a t1, .str b t2, .str c t3, .str d t4] n) ∈ news)
    (hok : JoinOk x [a, b, c, d] = true) (hle : a.length + b.length + c.length + d.length + 4 * x.length ≤ 40) (hq : ∀ y, y = Txt.join x [a, b, c, d] → y.length ≤ 40 → ∀ t' k, Q (.str y t') { s with toks := k }) : wpAny (model pr w) A₁ (call (.builtin "str.join") [.str x t, .ref D]) Q E s :=
  SC.join (l := [(a, t1), (b, t2), (c, t3), (d, t4)]) (N.isList hm) rfl hok (hq _ rfl (by
    have h := StrLaws.join_length_le x [a, b, c, d]
    simp only [List.map_cons, List.map_nil, List.sum_cons, List.sum_nil, List.length_cons, List.length_nil] at h
    have e : Txt.join x [a, b, c, d] = Str.join x [a, b, c, d] := StrLaws.glued_eq_join _ _
    exact e ▸ (by omega)))
theorem keyLe {nm : Str} {A Ln : Int} (hnm : nm.length ≤ 5) (hA : 1 ≤ A ∧ A ≤ 5) (hL : 2 ≤ Ln ∧ Ln ≤ 6) : nm.length + (Str.ofString (toString A)).length + (Str.ofString (toString Ln)).length + (Str.ofString "second").length + 4 * (Str.ofString "/").length ≤ 40 := by
  have e1 := len5 (x := A) (by omega)
  have e2 := len5 (x := Ln) (by omega)
  have e3 : (Str.ofString "second").length = 6 := by decide +kernel
  have e4 : (Str.ofString "/").length = 1 := by decide +kernel
  omega
def keyF (nm : Str) (A Ln : Int) : Str := Str.empty ++ Str.ofString "LIMITER" ++ Str.ofString "/" ++ Txt.join (Str.ofString "/") (keyTs nm A Ln)
theorem pre10 : (Str.empty ++ Str.ofString "LIMITER" ++ Str.ofString "/").length = 8 := by decide +kernel
theorem fits10 {y : Str} (h : y.length ≤ 40) : (Str.empty ++ Str.ofString "LIMITER" ++ Str.ofString "/" ++ y).length ≤ sizeLine := by
  rw [Str.length_append, pre10, PySem.sizeLine_eq]; omega
theorem ff_str {M : Model} {A₁ : Around} {s : Shared} {Q E : Value → Shared → Prop} {x : Str} {t : Tok} (hx : x.length ≤ 40) (h : ∀ t' tk, Q (.str x t') { s with toks := tk }) : wpAny M A₁ (formatField (.str x t) Str.empty) Q E s := formatField_str h (by rw [PySem.sizeLine_eq]; omega)
local macro_rules | `(tactic| walk_at "call builtin:str.join") => `(tactic| (k_here; k_dflt (refine' join4 ?N ?hm ?ok ?le ?_; (case le => exact keyLe (by assumption) (by assumption) (by assumption)); (case N => k_asm); (case hm => k_mem); (case ok => exact keyOk (by assumption) (by assumption) (by assumption)); intro ky hky hkl tj kj)))
local macro_rules | `(tactic| walk_at "formatField str") => `(tactic| (k_here; k_dflt (refine' ff_str ?z ?_; (case z => assumption); intro tf kf; refine' And.intro (fits10 (by assumption)) ?_)))
set_option maxHeartbeats 8000000 in
theorem key_code {dp un : Nat} {gd : Option (List Code)} {cn : Str} {cs : Scope} {a : Addr} {ccd : Value} {cl : List (Str × Addr)} {outer : List Env} {A₀ : Around} {base h₀ : Heap} {L : Addr} {m : Str → Option Value} {s : Shared} {Q E : Value → Shared → Prop} {it itd : Addr} {A Ln : Int} {ta tl tn tm : Tok} {nm : Str} {news : List (Addr × Obj)}
    (B : Below A₀ base outer h₀) (F : Fr h₀ L s.heap m) (KX : (Mine.hd.heap_39 w.params).In h₀) (T : Top p loose mean mg mb h₀) (hk : cs.kind = .function) (N : News h₀ L s.heap news) (i1 : (it, itO itd A Ln ta tl tn) ∈ news) (i2 : (itd, dictOf [] 0) ∈ news) (hA : 1 ≤ A ∧ A ≤ 5) (hL : 2 ≤ Ln ∧ Ln ≤ 6) (hnm : nm.length ≤ 5)
    (hd : dp + 5 < recursionLimit) (hu : un + 20 < cLine)
    (h : ∀ t' tk' h', Fr h₀ L h' m → News h₀ L h' news → Q (.str (keyF nm A Ln) t') { s with heap := h', toks := tk' }) :
    codeAny (model pg w) (ktrTop dp un gd cn cs L a ccd cl outer) (.call (.ref 488) ⟨[.ref it, .str nm tm], []⟩) (fun r s' => match r with | .ok (.ret v) => Q v s' | .ok _ => False | .error e => E e s') s := by
  have N1 : News h₀ L s.heap ((it, itO itd A Ln ta tl tn) :: (itd, dictOf [] 0) :: news) := nadd (nadd N i2) (.tail _ i1)
  (refine' kp_rest ?k1 ?k2 ?k3 ?k4 ?k5 ?kA ?kF ?kK ?k6 ?k7 ?k8 ?kV ?kP ?kG ?kB ?_ ?c2 ?c3 ?c4 ?c5; (case kA => exact rfl); (case kF => exact rfl); (case kK => assumption); (case k1 => k_asm); (case k2 => k_asm); (case k3 => k_asm); (case k4 => k_asm); (case k5 => k_asm); (case k6 => k_is); (case k7 => k_is); (case k8 => k_room); (case kV => kl_lit); (case kP => exact rfl); (case kG => exact fun _ => rfl); (case kB => exact fun _ => locs rfl); (case c5 => decide); (case c2 => exact rfl); (case c3 => exact rfl); (case c4 => exact rfl); k_whole; intro D' g' L' h' l1 FG' F' N' B' X' T'; (try k_lt l1); (try dsimp only); (try k_lift B'); (try k_fold))
  repeat' (first | (k_unfold; (try dsimp only)) | (k_end; wrow_close) | walk1 | (dsimp only; walk1) | (leave1; try dsimp only))
  cases ‹(_ : Str) = Txt.join (Str.ofString "/") (keyTs nm A Ln)›
  exact h _ _ _ (by k_asm) (news_of (by k_asm) (by intro q hq; simp only [List.mem_cons]; repeat' (first | exact .inr hq | refine .inr ?_)))
theorem key_q {dp un : Nat} {gd : Option (List Code)} {cn : Str} {cs : Scope} {a : Addr} {ccd : Value} {cl : List (Str × Addr)} {outer : List Env} {A₀ : Around} {base h₀ : Heap} {L : Addr} {m : Str → Option Value} {s : Shared} {Q E : Value → Shared → Prop} {q it itd : Addr} {A Ln : Int} {ta tl tn tm : Tok} {nm : Str} {news : List (Addr × Obj)}
    (B : Below A₀ base outer h₀) (F : Fr h₀ L s.heap m) (KX : (Mine.hd.heap_39 w.params).In h₀) (T : Top p loose mean mg mb h₀) (hk : cs.kind = .function) (N : News h₀ L s.heap news) (hq : (q, methodObj (.ref 488) (.ref it)) ∈ news) (i1 : (it, itO itd A Ln ta tl tn) ∈ news) (i2 : (itd, dictOf [] 0) ∈ news) (hA : 1 ≤ A ∧ A ≤ 5) (hL : 2 ≤ Ln ∧ Ln ≤ 6) (hnm : nm.length ≤ 5)
    (hd : dp + 5 < recursionLimit) (hu : un + 20 < cLine)
    (h : ∀ t' tk' h', Fr h₀ L h' m → News h₀ L h' news → Q (.str (keyF nm A Ln) t') { s with heap := h', toks := tk' }) :
    wpAny (model pg w) (ktrTop dp un gd cn cs L a ccd cl outer) (call (.ref q) [.str nm tm]) Q E s := call_meth N hq (key_code B F KX T hk N i1 i2 hA hL hnm hd hu h)
theorem keyF_len {nm : Str} {A Ln : Int} (hnm : nm.length ≤ 5) (hA : 1 ≤ A ∧ A ≤ 5) (hL : 2 ≤ Ln ∧ Ln ≤ 6) : (keyF nm A Ln).length ≤ 60 := by
  have h := StrLaws.join_length_le (Str.ofString "/") (keyTs nm A Ln)
  have e : Txt.join (Str.ofString "/") (keyTs nm A Ln) = Str.join (Str.ofString "/") (keyTs nm A Ln) := StrLaws.glued_eq_join _ _
  have l := keyLe hnm hA hL
  simp only [keyTs, List.map_cons, List.map_nil, List.sum_cons, List.sum_nil, List.length_cons, List.length_nil] at h
  unfold keyF
  rw [Str.length_append, pre10, e]
  show 8 + (Str.join (Str.ofString "/") [nm, Str.ofString (toString A), Str.ofString (toString Ln), Str.ofString "second"]).length ≤ 60
  omega
end
end Mine
end CKey

section CSwk
theorem Mine.top_CSwk : True := by
  w_top off
  trivial
open PySem PySem.W PyProof.Rows
namespace Mine
open PySem PySem.Calls
local macro_rules | `(tactic| k_room) => `(tactic| ktr_room)
local macro_rules | `(tactic| k_units) => `(tactic| ktr_units)
local macro_rules | `(tactic| walk_at "getMethod ref") => `(tactic| (k_here; (with_reducible show wpAny _ _ (getMethod (Value.ref _) (PySem.Str.ofString "clock") _) _ _ _); k_dflt (refine' kmu_own ?k1 ?k2 ?k3 ?k4 ?k5 ?_; (case k1 => k_asm); (case k2 => k_asm); (case k3 => k_inst); (case k4 => k_is); (case k5 => k_is); k_whole)))
local macro_rules | `(tactic| walk_at "callWith ref nil nil") => `(tactic| (k_here; (fail_if_success (with_reducible show wpAny _ _ (callWith _ (Value.ref 483) _ _ _) _ _ _)); (fail_if_success (with_reducible show wpAny _ _ (callWith _ (Value.ref 171) _ _ _) _ _ _)); k_dflt (refine' callWith_lam ?k1 ?k2 ?_; (case k1 => k_asm); (case k2 => k_mem); k_whole)))
local macro_rules | `(tactic| walk_at "call ref nil") => `(tactic| (k_here; k_dflt (refine' clock_m ?k1 ?k2 ?k3 ?k4 ?k5 ?k6 ?m1 ?m2 ?m3 ?m4 ?c1 ?c2 ?c3 ?d1 ?d2 ?_; (case k1 => k_asm); (case k2 => k_asm); (case k3 => k_asm); (case k4 => k_asm); (case k5 => first | exact rfl | assumption); (case k6 => k_asm); (case m1 => k_mem); (case m2 => k_mem); (case m3 => k_mem); (case m4 => k_mem); (case c1 => k_asm); (case c2 => k_asm); (case c3 => k_asm); (case d1 => ktr_room); (case d2 => ktr_units); k_whole; intro t' h' tk' F' N')))
section
variable {w : World} {p : Program} {loose : List Str} {mean : ExcName → Option Value} {mg mb : Str → Option Value}
theorem fits20 {x : Str} {y : Str} (h : x.length ≤ 60) (hy : y.length ≤ 10) : (Str.empty ++ x ++ Str.ofString "/" ++ y).length ≤ sizeLine := by
  rw [Str.length_append, Str.length_append, Str.length_append, PySem.sizeLine_eq]
  have e4 : (Str.ofString "/").length = 1 := by decide +kernel
  have e5 : (Str.empty).length = 0 := by decide +kernel
  omega
theorem ff_int {pr : Program} {w : World} {A₁ : Around} {s : Shared} {Q E : Value → Shared → Prop} {a : Int} {t : Tok} (h0 : 0 ≤ a) (h1 : a < 1000000000) (h : ∀ x, x = Str.ofString (toString a) → x.length ≤ 10 → ∀ t' tk, Q (.str x t') { s with toks := tk }) : wpAny (model pr w) A₁ (formatField (.int a t) Str.empty) Q E s := by
  refine formatField_int_small ?_ (h _ rfl (KT.len_num h0 (by omega)) _ _)
  by_cases z : a.natAbs = 0
  · rw [z]; decide
  · exact Nat.lt_trans ((Nat.log2_lt z).mpr (by omega : a.natAbs < 2 ^ 60)) (by decide)
def curK (key : Str) (t Ln : Int) : Str := Str.empty ++ key ++ Str.ofString "/" ++ Str.ofString (toString (t.fdiv Ln))
def prvK (key : Str) (t Ln : Int) : Str := Str.empty ++ key ++ Str.ofString "/" ++ Str.ofString (toString ((t - Ln).fdiv Ln))
theorem cnt_nn {sg : Str → Option (Int × Int)} {t : Int} {k : Str} (h : ∀ k c e, sg k = some (c, e) → 1 ≤ c) : 0 ≤ cnt sg t k := by
  unfold cnt
  cases q : sg k with
  | none => exact Int.le_refl 0
  | some p => obtain ⟨c, e⟩ := p; have := h _ _ _ q; dsimp; split <;> omega
theorem div_bnd {a b : Int} (h0 : 0 ≤ a) (h1 : a ≤ 5000) (hb : 2 ≤ b ∧ b ≤ 6) : 0 ≤ a.fdiv b ∧ a.fdiv b < 1000000000 := by rw [Int.fdiv_eq_ediv_of_nonneg a (by omega : 0 ≤ b)]; exact ⟨Int.ediv_nonneg h0 (by omega), by have := Int.ediv_le_self b h0; omega⟩
theorem lt_all {l : Addr} : ∀ {news : List (Addr × Obj)}, AllLt l news → ∀ p ∈ news, p.1 < l
  | [], _, p, hp => nomatch hp
  | q :: r, h, p, hp => by
    rcases List.mem_cons.mp hp with rfl | hp
    · exact h.1
    · exact lt_all h.2 p hp
local macro_rules | `(tactic| walk_at "formatField int") => `(tactic| (k_here; k_dflt (refine' ff_int ?z0 ?z1 ?_; (case z0 => first | exact (div_bnd (by omega) (by omega) (by assumption)).1); (case z1 => first | exact (div_bnd (by omega) (by omega) (by assumption)).2); intro x9 e9 l9 tf kf; (try refine' And.intro (fits20 (by assumption) (by assumption)) ?_))))
set_option maxHeartbeats 8000000 in
theorem swk_q {dp un : Nat} {gd : Option (List Code)} {cn : Str} {cs : Scope} {a : Addr} {ccd : Value} {cl : List (Str × Addr)} {outer : List Env} {A₀ : Around} {base h₀ : Heap} {L : Addr} {m : Str → Option Value} {s : Shared} {Q E : Value → Shared → Prop} {key : Str} {tk tl tt : Tok} {Ln t : Int} {q : Addr} {news : List (Addr × Obj)}
    (B : Below A₀ base outer h₀) (F : Fr h₀ L s.heap m) (KX : (Mine.hd.heap_39 w.params).In h₀) (T : Top p loose mean mg mb h₀) (hk : cs.kind = .function) (N : News h₀ L s.heap news) (hq : (q, methodObj (.ref 546) (.ref 912)) ∈ news) (hL : 2 ≤ Ln ∧ Ln ≤ 6) (htt : 10 ≤ t ∧ t ≤ 5000) (hkl : key.length ≤ 60)
    (hd : dp + 5 < recursionLimit) (hu : un + 20 < cLine)
    (h : ∀ pk ck t1 t2 D (tk' : Nat) h', pk = prvK key t Ln → ck = curK key t Ln → Fr h₀ L h' m → News h₀ L h' ((D, { cls := .type "tuple", data := .seq #[.str pk t1, .str ck t2] 0 }) :: news) → (∀ p ∈ news, p.1 < D) → Q (.ref D) { s with heap := h', toks := tk' }) :
    wpAny (model pg w) (ktrTop dp un gd cn cs L a ccd cl outer) (call (.ref q) [.str key tk, .int Ln tl, .int t tt]) Q E s := by
  refine call_meth N hq ?_
  (refine' code_def ?k1 ?k2 ?k3 ?k4 ?k5 ?kA ?kF ?kK ?k6 ?k7 ?k8 ?k9 ?kB ?_ ?c2 ?c3 ?c4 ?c5; (case kA => exact rfl); (case kF => exact rfl); (case kK => assumption); (case k1 => k_asm); (case k2 => k_asm); (case k3 => k_asm); (case k4 => k_asm); (case k5 => k_asm); (case k6 => k_is); (case k7 => k_is); (case k8 => ktr_room); (case k9 => first | exact BindsTo.of_eq rfl | exact binds_K (by k_in) rfl (by k_is) rfl rfl rfl); (case c5 => decide); (case kB => exact locs rfl); (case c2 => exact rfl); (case c3 => exact rfl); (case c4 => exact rfl); k_whole; intro g' L' h' FG' F' N' B' X' T'; (try dsimp only); (try k_fold))
  repeat' (first | (k_unfold; (try dsimp only)) | (k_end; wrow_close) | walk1 | (dsimp only; walk1) | (leave1; try dsimp only))
  cases ‹_ = Str.ofString (toString ((t - Ln).fdiv Ln))›
  cases ‹_ = Str.ofString (toString (t.fdiv Ln))›
  exact h _ _ _ _ _ _ _ rfl rfl (by k_asm) (by k_asm) (by first | assumption | exact lt_all (by assumption))
end
end Mine
end CSwk

section CAcq
theorem Mine.top_CAcq : True := by
  w_top off
  trivial
open PySem PySem.W PyProof.Rows
namespace Mine
open PySem PySem.Calls
local macro_rules | `(tactic| k_room) => `(tactic| ktr_room)
local macro_rules | `(tactic| k_units) => `(tactic| ktr_units)
local macro_rules | `(tactic| walk_at "getMethod ref") => `(tactic| (k_here; (with_reducible show wpAny _ _ (getMethod (Value.ref _) (PySem.Str.ofString "clock") _) _ _ _); k_dflt (refine' kmu_own ?k1 ?k2 ?k3 ?k4 ?k5 ?_; (case k1 => k_asm); (case k2 => k_asm); (case k3 => k_inst); (case k4 => k_is); (case k5 => k_is); k_whole)))
local macro_rules | `(tactic| walk_at "callWith ref nil nil") => `(tactic| (k_here; (fail_if_success (with_reducible show wpAny _ _ (callWith _ (Value.ref 483) _ _ _) _ _ _)); (fail_if_success (with_reducible show wpAny _ _ (callWith _ (Value.ref 171) _ _ _) _ _ _)); k_dflt (refine' callWith_lam ?k1 ?k2 ?_; (case k1 => k_asm); (case k2 => k_mem); k_whole)))
local macro_rules | `(tactic| walk_at "call ref nil") => `(tactic| (k_here; k_dflt (refine' clock_m ?k1 ?k2 ?k3 ?k4 ?k5 ?k6 ?m1 ?m2 ?m3 ?m4 ?c1 ?c2 ?c3 ?d1 ?d2 ?_; (case k1 => k_asm); (case k2 => k_asm); (case k3 => k_asm); (case k4 => k_asm); (case k5 => first | exact rfl | assumption); (case k6 => k_asm); (case m1 => k_mem); (case m2 => k_mem); (case m3 => k_mem); (case m4 => k_mem); (case c1 => k_asm); (case c2 => k_asm); (case c3 => k_asm); (case d1 => ktr_room); (case d2 => ktr_units); k_whole; intro t' h' tk' F' N')))
local macro_rules | `(tactic| walk_at "call ref") => `(tactic| (k_here; k_dflt (show wpAny _ _ (call (Value.ref 837) [Value.ref _, Value.str _ _] []) _ _ _); k_dflt (refine' get_m ?k1 ?k2 ?k3 ?k4 ?k5 ?k6 ?u1 ?u2 ?i0 ?i1 ?i2 ?i3 ?i4 ?i5 ?i6 ?i7 ?r1 ?r2 ?r3 ?s1 ?s2 ?s3 ?s4  ?d1 ?d2 ?_; (case k1 => k_asm); (case k2 => k_asm); (case k3 => k_asm); (case k4 => k_asm); (case k5 => first | exact rfl | assumption); (case k6 => k_asm); (case i0 => k_mem); (case i1 => k_mem); (case i3 => k_mem); (case i4 => k_mem); (case i5 => k_mem); (case s2 => k_asm); (case s3 => k_asm); (case s4 => k_asm); (case i7 => k_mem); (case u1 => k_updF); (case i2 => k_mem); (case i6 => k_mem); (case u2 => (intro o; (try dsimp only); k_updF)); (case r1 => k_asm); (case r2 => omega); (case r3 => omega); (case s1 => k_asm); (case d1 => ktr_room); (case d2 => ktr_units); k_whole; intro t' tk' h' esS' nS' esX' nX' F' N' R'; (try dsimp only at N'); have R2 := StRepK.rep R')))
local macro_rules | `(tactic| walk_at "call ref") => `(tactic| (k_here; k_dflt (show wpAny _ _ (call (Value.ref 822) [Value.ref _, Value.str _ _, Value.int _ _] [(_, Value.int _ _)]) _ _ _); k_dflt (refine' incr_m ?k1 ?k2 ?k3 ?k4 ?k5 ?k6 ?u1 ?u2 ?i0 ?i1 ?i2 ?i3 ?i4 ?i5 ?i6 ?i7 ?r1 ?r2 ?r3 ?s1 ?s2 ?s3 ?s4 ?e0 ?e1 ?d1 ?d2 ?_; (case k1 => k_asm); (case k2 => k_asm); (case k3 => k_asm); (case k4 => k_asm); (case k5 => first | exact rfl | assumption); (case k6 => k_asm); (case i0 => k_mem); (case i1 => k_mem); (case i3 => k_mem); (case i4 => k_mem); (case i5 => k_mem); (case s2 => k_asm); (case s3 => k_asm); (case s4 => k_asm); (case i7 => k_mem); (case u1 => k_updF); (case i2 => k_mem); (case i6 => k_mem); (case u2 => (intro o; (try dsimp only); k_updF)); (case r1 => k_asm); (case r2 => omega); (case r3 => omega); (case s1 => k_asm); (case e0 => omega); (case e1 => omega); (case d1 => ktr_room); (case d2 => ktr_units); k_whole; intro t' tk' h' esS' nS' esX' nX' F' N' R'; (try dsimp only at N'))))
def wgt (sg : Str → Option (Int × Int)) (t : Int) (key : Str) (Ln : Int) : Int := (cnt sg t (prvK key t Ln) * (if cnt sg t (prvK key t Ln) = 0 then 0 else Ln - (t - Ln).fmod Ln)).fdiv Ln + cnt sg t (curK key t Ln)
def acqOk (sg : Str → Option (Int × Int)) (t : Int) (key : Str) (A Ln cost : Int) : Bool := decide (cost ≤ A ∧ wgt sg t key Ln + cost ≤ A)
local macro_rules | `(tactic| walk_at "getMethod ref") => `(tactic| (k_here; (with_reducible show wpAny _ _ (getMethod (Value.ref _) (PySem.Str.ofString "sliding_window_keys") _) _ _ _); k_dflt (refine' kmu_cm ?k1 ?k2 ?k3 ?k4 ?k5 ?k6 ?k7 ?k8 ?k9 ?k10 ?k11 ?k12 ?k13 ?_; (case k1 => k_asm); (case k2 => k_asm); (case k3 => k_asm); (case k4 => k_inst); (case k5 => k_is); (case k6 => k_is); (case k7 => k_is); (case k8 => k_is); (case k9 => k_is); (case k10 => k_is); (case k11 => decide +kernel); (case k12 => k_get); (case k13 => k_is); k_whole; intro q' h' F' N' l1; (try k_lt l1); (try k_sweep))))
local macro_rules | `(tactic| walk_at "call ref cons") => `(tactic| (k_here; k_dflt (show wpAny _ _ (call (Value.ref _) [Value.str _ _, Value.int _ _, Value.int _ _]) _ _ _); k_dflt (refine' swk_q ?k1 ?k2 ?k3 ?k4 ?k5 ?k6 ?hq ?a1 ?a2 ?a3 ?d1 ?d2 ?_; (case k1 => k_asm); (case k2 => k_asm); (case k3 => k_asm); (case k4 => k_asm); (case k5 => first | exact rfl | assumption); (case k6 => k_asm); (case hq => k_mem); (case a1 => assumption); (case a2 => assumption); (case a3 => assumption); (case d1 => ktr_room); (case d2 => ktr_units); k_whole; intro pk ck t1 t2 D' tk' h' epk eck F' N' l1; (try k_lt l1))))
theorem mul_cnt {sg : Str → Option (Int × Int)} {t : Int} {k : Str} {b : Int} (h : ∀ k, 0 ≤ cnt sg t k ∧ cnt sg t k ≤ 100000) : IntMulOk (cnt sg t k) b := IntMulOk.of_left (PySem.intBits_le_64 (by have := h k; omega) (by have := h k; omega))
local macro_rules | `(tactic| walk_at "binaryOp Mult int int") => `(tactic| (k_here; k_dflt (refine' PySem.P.mul_int ?_ ?z; (case z => exact mul_cnt (by assumption)))))
section
variable {w : World} {p : Program} {loose : List Str} {mean : ExcName → Option Value} {mg mb : Str → Option Value}
set_option maxHeartbeats 8000000 in
theorem acq_c {dp un : Nat} {gd : Option (List Code)} {cn : Str} {cs : Scope} {a : Addr} {ccd : Value} {cl : List (Str × Addr)} {outer : List Env} {A₀ : Around} {base h₀ : Heap} {L : Addr} {m : Str → Option Value} {s : Shared} {Q E : Value → Shared → Prop} {st sd S dS X EV lam cell c' now : Addr} {k1 k2 k3 k4 tq tt : Tok} {qual : Str} {pm ctv : Value} {oc oCell : Obj} {vs : Array Value} {esS esX : List DictEntry} {nS nX nn nE n : Nat} {sg : Str → Option (Int × Int)} {t : Int} {rest : List (Addr × Obj)} {key : Str} {tk ta tl tc : Tok} {A Ln cost : Int}
    (B : Below A₀ base outer h₀) (F : Fr h₀ L s.heap m) (KX : (Mine.hd.heap_39 w.params).In h₀) (T : Top p loose mean mg mb h₀) (hk : cs.kind = .function)
    (N : News h₀ L s.heap ((S, cntO dS esS nS) :: (X, dictOf esX nX) :: (st, instObj 912 sd) :: (sd, stD w k1 k2 k3 k4 lam S X EV) :: (dS, dictOf [] 0) :: (lam, lamO qual cell c' pm ctv) :: (c', oc) :: (cell, oCell) :: (EV, dictOf [] nE) :: (now, listOf #[.int t tt] nn) :: rest))
    (R : StRep w esS esX sg t n) (hn : n ≤ 900) (ht : 0 ≤ t) (ord : @LT.lt Nat _ 1 cell ∧ @LT.lt Nat _ cell now ∧ @LT.lt Nat _ now c' ∧ @LT.lt Nat _ c' lam ∧ @LT.lt Nat _ lam sd ∧ @LT.lt Nat _ sd st ∧ @LT.lt Nat _ st dS ∧ @LT.lt Nat _ dS S ∧ @LT.lt Nat _ S X ∧ @LT.lt Nat _ X EV) (hc : oCell.data = .cell (some (.ref now))) (hc1 : oc.data = .fields vs) (hc2 : vs[1]? = some (.str qual tq)) (rS : ∀ p ∈ rest, p.1 ≠ S) (rX : ∀ p ∈ rest, p.1 ≠ X) (hA : 1 ≤ A ∧ A ≤ 5) (hL : 2 ≤ Ln ∧ Ln ≤ 6) (hco : 1 ≤ cost ∧ cost ≤ 6) (htt : 10 ≤ t ∧ t ≤ 5000) (hkl : key.length ≤ 60) (hcb : ∀ k, 0 ≤ cnt sg t k ∧ cnt sg t k ≤ 100000)
    (hd : dp + 12 < recursionLimit) (hu : un + 90 < cLine)
    (h : ∀ (t' : Tok) tk' h' esS' nS' esX' nX', Fr h₀ L h' m → News h₀ L h' (((S, cntO dS esS' nS') :: (X, dictOf esX' nX') :: (st, instObj 912 sd) :: (sd, stD w k1 k2 k3 k4 lam S X EV) :: (dS, dictOf [] 0) :: (lam, lamO qual cell c' pm ctv) :: (c', oc) :: (cell, oCell) :: (EV, dictOf [] nE) :: (now, listOf #[.int t tt] nn) :: rest)) → StRep w esS' esX' (if acqOk sg t key A Ln cost then ups sg t (curK key t Ln) (2 * Ln) cost else sg) t (n + 1) → Q (.bool (acqOk sg t key A Ln cost)) { s with heap := h', toks := tk' }) :
    wpAny (model pg w) (ktrTop dp un gd cn cs L a ccd cl outer) (call (.ref 874) [.ref st, .str key tk, .int A ta, .int Ln tl, .int cost tc]) Q E s := by
  have lS : @LT.lt Nat _ 1 S := by omega
  have lX : @LT.lt Nat _ 1 X := by omega
  refine wpAny_call ?_
  (refine' code_def ?k1 ?k2 ?k3 ?k4 ?k5 ?kA ?kF ?kK ?k6 ?k7 ?k8 ?k9 ?kB ?_ ?c2 ?c3 ?c4 ?c5; (case kA => exact rfl); (case kF => exact rfl); (case kK => assumption); (case k1 => k_asm); (case k2 => k_asm); (case k3 => k_asm); (case k4 => k_asm); (case k5 => k_asm); (case k6 => k_is); (case k7 => k_is); (case k8 => ktr_room); (case k9 => first | exact BindsTo.of_eq rfl | exact binds_K (by k_in) rfl (by k_is) rfl rfl rfl); (case c5 => decide); (case kB => exact locs rfl); (case c2 => exact rfl); (case c3 => exact rfl); (case c4 => exact rfl); k_whole; intro g' L' h' FG' F' N' B' X' T'; (try dsimp only); (try k_fold))
  have hT : acqOk sg t key A Ln cost = true → ∀ tk' h' esS' nS' esX' nX', Fr h₀ L h' m → News h₀ L h' ((S, cntO dS esS' nS') :: (X, dictOf esX' nX') :: (st, instObj 912 sd) :: (sd, stD w k1 k2 k3 k4 lam S X EV) :: (dS, dictOf [] 0) :: (lam, lamO qual cell c' pm ctv) :: (c', oc) :: (cell, oCell) :: (EV, dictOf [] nE) :: (now, listOf #[.int t tt] nn) :: rest) →
      StRep w esS' esX' (ups sg t (curK key t Ln) (2 * Ln) cost) t (n + 1) → Q (.bool true) { s with heap := h', toks := tk' } := by
    intro e tk' h' a b c d F' N' R'
    have z := h 0 tk' h' a b c d F' N'
    rw [e] at z
    exact z R'
  have hF : acqOk sg t key A Ln cost = false → ∀ tk' h' esS' nS' esX' nX', Fr h₀ L h' m → News h₀ L h' ((S, cntO dS esS' nS') :: (X, dictOf esX' nX') :: (st, instObj 912 sd) :: (sd, stD w k1 k2 k3 k4 lam S X EV) :: (dS, dictOf [] 0) :: (lam, lamO qual cell c' pm ctv) :: (c', oc) :: (cell, oCell) :: (EV, dictOf [] nE) :: (now, listOf #[.int t tt] nn) :: rest) →
      StRep w esS' esX' sg t (n + 1) → Q (.bool false) { s with heap := h', toks := tk' } := by
    intro e tk' h' a b c d F' N' R'
    have z := h 0 tk' h' a b c d F' N'
    rw [e] at z
    exact z R'
  clear h
  repeat' (first | (k_unfold; (try dsimp only)) | (k_end; wrow_close) | walk1 | (dsimp only; walk1) | (leave1; try dsimp only))
  · refine hF ?_ _ _ _ _ _ _ (by k_asm) (by k_asm) (R.mono (by omega))
    refine decide_eq_false ?_
    omega
  all_goals
    have e1 := ‹_ = prvK key t Ln›
    have e2 := ‹_ = curK key t Ln›
    subst e1
    subst e2
    first
    | refine hT (decide_eq_true ⟨by omega, ?_⟩) _ _ _ _ _ _ (by k_asm) (news_of (by k_asm) (fun q hq => by first | exact hq | exact .tail _ hq | exact .tail _ (.tail _ hq) | exact .tail _ (.tail _ (.tail _ hq)) | exact .tail _ (.tail _ (.tail _ (.tail _ hq))))) (by assumption)
      unfold wgt
      split <;> first | omega | contradiction
    | refine hF (decide_eq_false ?_) _ _ _ _ _ _ (by k_asm) (news_of (by k_asm) (fun q hq => by first | exact hq | exact .tail _ hq | exact .tail _ (.tail _ hq) | exact .tail _ (.tail _ (.tail _ hq)) | exact .tail _ (.tail _ (.tail _ (.tail _ hq))))) (StRep.mono (by assumption) (by omega))
      unfold wgt
      split <;> first | omega | contradiction
    | fail

theorem acq_m {dp un : Nat} {gd : Option (List Code)} {cn : Str} {cs : Scope} {a : Addr} {ccd : Value} {cl : List (Str × Addr)} {outer : List Env} {A₀ : Around} {base h₀ : Heap} {L : Addr} {m : Str → Option Value} {s : Shared} {Q E : Value → Shared → Prop} {st sd S dS X EV lam cell c' now : Addr} {k1 k2 k3 k4 tq tt : Tok} {qual : Str} {pm ctv : Value} {oc oCell : Obj} {vs : Array Value} {esS esX : List DictEntry} {nS nX nn nE n : Nat} {sg : Str → Option (Int × Int)} {t : Int} {news : List (Addr × Obj)} {g1 : Obj → List (Addr × Obj)} {g2 : Obj → Obj → List (Addr × Obj)} {key : Str} {tk ta tl tc : Tok} {A Ln cost : Int}
    (B : Below A₀ base outer h₀) (F : Fr h₀ L s.heap m) (KX : (Mine.hd.heap_39 w.params).In h₀) (T : Top p loose mean mg mb h₀) (hk : cs.kind = .function)
    (N : News h₀ L s.heap news) (U1 : UpdF S (cntO dS esS nS) news g1) (U2 : ∀ o, UpdF X (dictOf esX nX) (g1 o) (g2 o)) (i0 : (st, instObj 912 sd) ∈ news) (i1 : (sd, stD w k1 k2 k3 k4 lam S X EV) ∈ news) (i2 : (dS, dictOf [] 0) ∈ news) (i3 : (lam, lamO qual cell c' pm ctv) ∈ news) (i4 : (c', oc) ∈ news) (i5 : (cell, oCell) ∈ news) (i6 : (EV, dictOf [] nE) ∈ news) (i7 : (now, listOf #[.int t tt] nn) ∈ news)
    (R : StRep w esS esX sg t n) (hn : n ≤ 900) (ht : 0 ≤ t) (ord : @LT.lt Nat _ 1 cell ∧ @LT.lt Nat _ cell now ∧ @LT.lt Nat _ now c' ∧ @LT.lt Nat _ c' lam ∧ @LT.lt Nat _ lam sd ∧ @LT.lt Nat _ sd st ∧ @LT.lt Nat _ st dS ∧ @LT.lt Nat _ dS S ∧ @LT.lt Nat _ S X ∧ @LT.lt Nat _ X EV) (hc : oCell.data = .cell (some (.ref now))) (hc1 : oc.data = .fields vs) (hc2 : vs[1]? = some (.str qual tq)) (hA : 1 ≤ A ∧ A ≤ 5) (hL : 2 ≤ Ln ∧ Ln ≤ 6) (hco : 1 ≤ cost ∧ cost ≤ 6) (htt : 10 ≤ t ∧ t ≤ 5000) (hkl : key.length ≤ 60) (hcb : ∀ k, 0 ≤ cnt sg t k ∧ cnt sg t k ≤ 100000)
    (hd : dp + 12 < recursionLimit) (hu : un + 90 < cLine)
    (h : ∀ (t' : Tok) tk' h' esS' nS' esX' nX', Fr h₀ L h' m → News h₀ L h' ((g2 (cntO dS esS' nS') (dictOf esX' nX'))) → StRep w esS' esX' (if acqOk sg t key A Ln cost then ups sg t (curK key t Ln) (2 * Ln) cost else sg) t (n + 1) → Q (.bool (acqOk sg t key A Ln cost)) { s with heap := h', toks := tk' }) :
    wpAny (model pg w) (ktrTop dp un gd cn cs L a ccd cl outer) (call (.ref 874) [.ref st, .str key tk, .int A ta, .int Ln tl, .int cost tc]) Q E s := by
  obtain ⟨rest, rS, rX, jS, jX, jr, jb⟩ := adapt U1 U2
  have N1 : News h₀ L s.heap ((S, cntO dS esS nS) :: (X, dictOf esX nX) :: (st, instObj 912 sd) :: (sd, stD w k1 k2 k3 k4 lam S X EV) :: (dS, dictOf [] 0) :: (lam, lamO qual cell c' pm ctv) :: (c', oc) :: (cell, oCell) :: (EV, dictOf [] nE) :: (now, listOf #[.int t tt] nn) :: rest) := news_of N (by
    intro q hq
    simp only [List.mem_cons] at hq
    rcases hq with rfl | rfl | rfl | rfl | rfl | rfl | rfl | rfl | rfl | rfl | hq <;> first | assumption | exact jr _ hq)
  refine acq_c B F KX T hk N1 R hn ht ord hc hc1 hc2 rS rX hA hL hco htt hkl hcb hd hu ?_
  intro  t' tk' h' esS' nS' esX' nX' F' N'
  exact h  t' tk' h' esS' nS' esX' nX' F' (news_of N' (fun q hq => by
    rcases jb _ _ q hq with rfl | rfl | hq
    · exact .head _
    · exact .tail _ (.head _)
    · simp only [List.mem_cons]; repeat' (first | exact .inr hq | refine .inr ?_)))
end
end Mine
end CAcq

section StarM
theorem Mine.top_StarM : True := by
  w_top off
  trivial
namespace Mine
open PySem PySem.Spec PySem.Calls PyProof.Rows PySem.W
abbrev tup1 (nm : Str) (tm : Tok) : Obj := { cls := .type "tuple", data := .seq #[.str nm tm] 0 }
section
variable {M : Model} {A : Around} {E : Value → Shared → Prop} {s : Shared} {env : Env} {pos p : Pos} {first : List Value} {Q : Value → Shared → Prop} {e : Expr} {K : Frag}
theorem methodCallS {o : Expr} {name : Str} {apos : Pos}
    (h : wpAny M A (eval o env) (fun ov s₁ => wpAny M A (getAttr ov name true) (fun f s₂ => wpAny M A (callWith pos f [] (backTo pos (starEach [.Starred e p] env)) []) Q E s₂) E s₁) E s)
    (he : eval (.Call (.Attribute o name apos) [.Starred e p] [] pos) env = (do
      let ov ← eval o env
      standAt apos.atName
      let (f, first) ← holding [ov] (do pure (← getAttr ov name true, []))
      callWith pos f first (backTo pos (starEach [.Starred e p] env)) []) := by rfl) :
    wpAny M A (eval (.Call (.Attribute o name apos) [.Starred e p] [] pos) env) Q E s := by
  rw [he]
  refine wpAny_bind (wpAny_mono h (fun ov s₁ h₁ => ?_) fun _ _ x => x)
  exact wpAny_bind (wpAny_standAt (wpAny_bind (wpAny_holding (wpAny_bind (wpAny_mono h₁ (fun f s₂ h₂ => wpAny_pure h₂) fun _ _ x => x)))))
theorem callWith_MS {q g : Addr} {self : Value} {h₀ : Heap} {L : Addr} {news : List (Addr × Obj)} (_X : K.In h₀) (_N : News h₀ L s.heap news) (_q : (q, methodObj (.ref g) self) ∈ news) (hf : fnIn K g = true)
    (h : wpAny M A (eval e env) (fun v s₁ => StarOf M A E v (fun vs s₂ => MethP K q g self s₂.heap ∧ wpAny M A (call (.ref q) (first ++ vs)) Q E s₂) s₁) E s)
    (he : starEach [.Starred e p] env = [(true, eval e env)] := by rfl) :
    wpAny M A (callWith pos (.ref q) first (backTo pos (starEach [.Starred e p] env)) []) Q E s := by
  rw [he]
  exact ks_call rfl (keeps_M hf) (ks_lone h)
end
section
variable {prog : Program} {w : World} {A : Around} {E : Value → Shared → Prop} {s : Shared} {h₀ : Heap} {L a : Addr} {m : Str → Option Value} {news : List (Addr × Obj)} {K : Frag}
theorem star_K {nm : Str} {tm : Tok} {Q : List Value → Shared → Prop} (F : Fr h₀ L s.heap m) (N : News h₀ L s.heap news) (X : K.In h₀) (e : List.lookup a K = some (tup1 nm tm))
    (h : ∀ h', Fr h₀ L h' m → News h₀ L h' news → Q [.str nm tm] { s with heap := h' }) : StarOf (model prog w) A E (.ref a) Q s := by
  have D := (X.keeps F.keep) a _ e
  have hT' : s.TypeIs (.ref a) "tuple" := ⟨_, D, rfl⟩
  have z : wpAny (model prog w) A (collect (.ref a)) Q E s := by
    refine wpAny_collect_seq a (.inr rfl) D rfl rfl (fun h' hk => h h' ?_ fun p hp => ⟨hk _ _ (N p hp).1, (N p hp).2⟩) (Nat.le_of_ble_eq_true rfl)
    obtain ⟨oL, es, ep, hL, r⟩ := F.ns
    exact ⟨⟨oL, es, ep, hk _ _ hL, r⟩, fun b x q => hk _ _ (F.keep b x q), F.above⟩
  unfold StarOf notIterableAtAll
  exact wpAny_bind (wpAny_specialOf hT' PySem.F.slot_tuple_iter.lookup (wpAny_pure ⟨rfl, z⟩))
end
end Mine
end StarM

section CFix
theorem Mine.top_CFix : True := by
  w_top off
  trivial
open PySem PySem.W PyProof.Rows
namespace Mine
open PySem PySem.Calls
local macro_rules | `(tactic| k_room) => `(tactic| ktr_room)
local macro_rules | `(tactic| k_units) => `(tactic| ktr_units)
local macro_rules | `(tactic| walk_at "getMethod ref") => `(tactic| (k_here; (with_reducible show wpAny _ _ (getMethod (Value.ref _) (PySem.Str.ofString "clock") _) _ _ _); k_dflt (refine' kmu_own ?k1 ?k2 ?k3 ?k4 ?k5 ?_; (case k1 => k_asm); (case k2 => k_asm); (case k3 => k_inst); (case k4 => k_is); (case k5 => k_is); k_whole)))
local macro_rules | `(tactic| walk_at "callWith ref nil nil") => `(tactic| (k_here; (fail_if_success (with_reducible show wpAny _ _ (callWith _ (Value.ref 483) _ _ _) _ _ _)); (fail_if_success (with_reducible show wpAny _ _ (callWith _ (Value.ref 171) _ _ _) _ _ _)); k_dflt (refine' callWith_lam ?k1 ?k2 ?_; (case k1 => k_asm); (case k2 => k_mem); k_whole)))
local macro_rules | `(tactic| walk_at "call ref nil") => `(tactic| (k_here; k_dflt (refine' clock_m ?k1 ?k2 ?k3 ?k4 ?k5 ?k6 ?m1 ?m2 ?m3 ?m4 ?c1 ?c2 ?c3 ?d1 ?d2 ?_; (case k1 => k_asm); (case k2 => k_asm); (case k3 => k_asm); (case k4 => k_asm); (case k5 => first | exact rfl | assumption); (case k6 => k_asm); (case m1 => k_mem); (case m2 => k_mem); (case m3 => k_mem); (case m4 => k_mem); (case c1 => k_asm); (case c2 => k_asm); (case c3 => k_asm); (case d1 => ktr_room); (case d2 => ktr_units); k_whole; intro t' h' tk' F' N')))
local macro_rules | `(tactic| walk_at "call ref") => `(tactic| (k_here; k_dflt (show wpAny _ _ (call (Value.ref _) [Value.str _ _] []) _ _ _); k_dflt (refine' key_q ?k1 ?k2 ?k3 ?k4 ?k5 ?k6 ?hq ?i1 ?i2 ?a1 ?a2 ?a3 ?d1 ?d2 ?_; (case k1 => k_asm); (case k2 => k_asm); (case k3 => k_asm); (case k4 => k_asm); (case k5 => first | exact rfl | assumption); (case k6 => k_asm); (case hq => k_mem); (case i1 => k_mem); (case i2 => k_mem); (case a1 => assumption); (case a2 => assumption); (case a3 => first | with_reducible assumption | decide +kernel); (case d1 => ktr_room); (case d2 => ktr_units); k_whole; intro t' tk' h' F' N')))
local macro_rules | `(tactic| walk_at "call ref") => `(tactic| (k_here; k_dflt (show wpAny _ _ (call (Value.ref 483) [Value.ref _] []) _ _ _); k_dflt (refine' exp_m ?k1 ?k2 ?k3 ?k4 ?k5 ?k6 ?i1 ?i2 ?a1 ?a2 ?d1 ?d2 ?_; (case k1 => k_asm); (case k2 => k_asm); (case k3 => k_asm); (case k4 => k_asm); (case k5 => first | exact rfl | assumption); (case k6 => k_asm); (case i1 => k_mem); (case i2 => k_mem); (case a1 => assumption); (case a2 => assumption); (case d1 => ktr_room); (case d2 => ktr_units); k_whole; intro t' tk' h' F' N')))
local macro_rules | `(tactic| walk_at "eval Call Attribute") => `(tactic| (k_here; (with_reducible show wpAny _ _ (eval (Expr.Call (Expr.Attribute _ _ _) [Expr.Starred _ _] [] _) _) _ _ _); refine methodCallS ?_))
local macro_rules | `(tactic| walk_at "callWith ref") => `(tactic| (k_here; (with_reducible show wpAny _ _ (callWith _ (Value.ref _) _ (backTo _ (starEach [Expr.Starred _ _] _)) []) _ _ _); k_dflt (refine' callWith_MS ?k1 ?k2 ?k3 ?k4 ?_; (case k1 => k_asm); (case k2 => k_asm); (case k3 => k_mem); (case k4 => k_is); k_whole)))
local macro_rules | `(tactic| walk_at "StarOf ref") => `(tactic| (k_here; k_dflt (refine' star_K ?k1 ?k2 ?k3 ?k4 ?_; (case k1 => k_asm); (case k2 => k_asm); (case k3 => k_asm); (case k4 => first | with_reducible assumption | k_is); k_whole); intro h' F' N'; (refine' And.intro (methP (by k_asm) (by k_mem) (by k_in)) ?_); try dsimp only [List.nil_append, List.cons_append]))
local macro_rules | `(tactic| walk_at "call ref") => `(tactic| (k_here; k_dflt (show wpAny _ _ (call (Value.ref 822) [Value.ref _, Value.str _ _, Value.int _ _] [(_, Value.int _ _)]) _ _ _); k_dflt (refine' incr_m ?k1 ?k2 ?k3 ?k4 ?k5 ?k6 ?u1 ?u2 ?i0 ?i1 ?i2 ?i3 ?i4 ?i5 ?i6 ?i7 ?r1 ?r2 ?r3 ?s1 ?s2 ?s3 ?s4 ?e0 ?e1 ?d1 ?d2 ?_; (case k1 => k_asm); (case k2 => k_asm); (case k3 => k_asm); (case k4 => k_asm); (case k5 => first | exact rfl | assumption); (case k6 => k_asm); (case i0 => k_mem); (case i1 => k_mem); (case i3 => k_mem); (case i4 => k_mem); (case i5 => k_mem); (case s2 => k_asm); (case s3 => k_asm); (case s4 => k_asm); (case i7 => k_mem); (case u1 => k_updF); (case i2 => k_mem); (case i6 => k_mem); (case u2 => (intro o; (try dsimp only); k_updF)); (case r1 => k_asm); (case r2 => omega); (case r3 => omega); (case s1 => k_asm); (case e0 => omega); (case e1 => omega); (case d1 => ktr_room); (case d2 => ktr_units); k_whole; intro t' tk' h' esS' nS' esX' nX' F' N' R'; (try dsimp only at N'))))
section
variable {w : World} {p : Program} {loose : List Str} {mean : ExcName → Option Value} {mg mb : Str → Option Value}
set_option maxHeartbeats 8000000 in
theorem fix_c {dp un : Nat} {gd : Option (List Code)} {cn : Str} {cs : Scope} {a : Addr} {ccd : Value} {cl : List (Str × Addr)} {outer : List Env} {A₀ : Around} {base h₀ : Heap} {L : Addr} {m : Str → Option Value} {s : Shared} {Q E : Value → Shared → Prop} {st sd S dS X EV lam cell c' now : Addr} {k1 k2 k3 k4 tq tt : Tok} {qual : Str} {pm ctv : Value} {oc oCell : Obj} {vs : Array Value} {esS esX : List DictEntry} {nS nX nn nE n : Nat} {sg : Str → Option (Int × Int)} {t : Int} {rest : List (Addr × Obj)} {fx fxd it itd idt : Addr} {nm : Str} {kso tm ta tl tn tc : Tok} {A Ln cost : Int} {nk : Nat}
    (B : Below A₀ base outer h₀) (F : Fr h₀ L s.heap m) (KX : (Mine.hd.heap_39 w.params).In h₀) (T : Top p loose mean mg mb h₀) (hk : cs.kind = .function)
    (N : News h₀ L s.heap ((S, cntO dS esS nS) :: (X, dictOf esX nX) :: (st, instObj 912 sd) :: (sd, stD w k1 k2 k3 k4 lam S X EV) :: (dS, dictOf [] 0) :: (lam, lamO qual cell c' pm ctv) :: (c', oc) :: (cell, oCell) :: (EV, dictOf [] nE) :: (now, listOf #[.int t tt] nn) :: (fx, instObj 241 fxd) :: (fxd, dictOf [⟨PyData.keyHash w.params (Str.ofString "storage"), .str (Str.ofString "storage") kso, .ref st⟩] nk) :: (it, itO itd A Ln ta tl tn) :: (itd, dictOf [] 0) :: rest))
    (R : StRep w esS esX sg t n) (hn : n ≤ 900) (ht : 0 ≤ t) (ord : @LT.lt Nat _ 1 cell ∧ @LT.lt Nat _ cell now ∧ @LT.lt Nat _ now c' ∧ @LT.lt Nat _ c' lam ∧ @LT.lt Nat _ lam sd ∧ @LT.lt Nat _ sd st ∧ @LT.lt Nat _ st dS ∧ @LT.lt Nat _ dS S ∧ @LT.lt Nat _ S X ∧ @LT.lt Nat _ X EV) (hc : oCell.data = .cell (some (.ref now))) (hc1 : oc.data = .fields vs) (hc2 : vs[1]? = some (.str qual tq)) (rS : ∀ p ∈ rest, p.1 ≠ S) (rX : ∀ p ∈ rest, p.1 ≠ X) (hid : List.lookup idt (Mine.hd.heap_39 w.params) = some (tup1 nm tm)) (hnm : nm.length ≤ 5) (hA : 1 ≤ A ∧ A ≤ 5) (hL : 2 ≤ Ln ∧ Ln ≤ 6) (ord2 : @LT.lt Nat _ X fx ∧ @LT.lt Nat _ X fxd ∧ @LT.lt Nat _ X it ∧ @LT.lt Nat _ X itd) (hco : 1 ≤ cost ∧ cost ≤ 6)
    (hd : dp + 14 < recursionLimit) (hu : un + 110 < cLine)
    (h : ∀ (t' : Tok) tk' h' esS' nS' esX' nX', Fr h₀ L h' m → News h₀ L h' (((S, cntO dS esS' nS') :: (X, dictOf esX' nX') :: (st, instObj 912 sd) :: (sd, stD w k1 k2 k3 k4 lam S X EV) :: (dS, dictOf [] 0) :: (lam, lamO qual cell c' pm ctv) :: (c', oc) :: (cell, oCell) :: (EV, dictOf [] nE) :: (now, listOf #[.int t tt] nn) :: (fx, instObj 241 fxd) :: (fxd, dictOf [⟨PyData.keyHash w.params (Str.ofString "storage"), .str (Str.ofString "storage") kso, .ref st⟩] nk) :: (it, itO itd A Ln ta tl tn) :: (itd, dictOf [] 0) :: rest)) → StRep w esS' esX' (ups sg t (keyF nm A Ln) Ln cost) t (n + 1) → Q (.bool (decide (cnt sg t (keyF nm A Ln) + cost ≤ A))) { s with heap := h', toks := tk' }) :
    wpAny (model pg w) (ktrTop dp un gd cn cs L a ccd cl outer) (call (.ref 220) [.ref fx, .ref it, .ref idt, .int cost tc]) Q E s := by
  have lS : @LT.lt Nat _ 1 S := by omega
  have lX : @LT.lt Nat _ 1 X := by omega
  refine wpAny_call ?_
  (refine' code_def ?k1 ?k2 ?k3 ?k4 ?k5 ?kA ?kF ?kK ?k6 ?k7 ?k8 ?k9 ?kB ?_ ?c2 ?c3 ?c4 ?c5; (case kA => exact rfl); (case kF => exact rfl); (case kK => assumption); (case k1 => k_asm); (case k2 => k_asm); (case k3 => k_asm); (case k4 => k_asm); (case k5 => k_asm); (case k6 => k_is); (case k7 => k_is); (case k8 => ktr_room); (case k9 => first | exact BindsTo.of_eq rfl | exact binds_K (by k_in) rfl (by k_is) rfl rfl rfl); (case c5 => decide); (case kB => exact locs rfl); (case c2 => exact rfl); (case c3 => exact rfl); (case c4 => exact rfl); k_whole; intro g' L' h' FG' F' N' B' X' T'; (try dsimp only); (try k_fold))
  repeat' (first | (k_unfold; (try dsimp only)) | (k_end; wrow_close) | walk1 | (dsimp only; walk1) | (leave1; try dsimp only))
  exact h 0 _ _ _ _ _ _ (by k_asm) (news_of (by k_asm) (fun q hq => .tail _ hq)) (by assumption)

theorem fix_m {dp un : Nat} {gd : Option (List Code)} {cn : Str} {cs : Scope} {a : Addr} {ccd : Value} {cl : List (Str × Addr)} {outer : List Env} {A₀ : Around} {base h₀ : Heap} {L : Addr} {m : Str → Option Value} {s : Shared} {Q E : Value → Shared → Prop} {st sd S dS X EV lam cell c' now : Addr} {k1 k2 k3 k4 tq tt : Tok} {qual : Str} {pm ctv : Value} {oc oCell : Obj} {vs : Array Value} {esS esX : List DictEntry} {nS nX nn nE n : Nat} {sg : Str → Option (Int × Int)} {t : Int} {news : List (Addr × Obj)} {g1 : Obj → List (Addr × Obj)} {g2 : Obj → Obj → List (Addr × Obj)} {fx fxd it itd idt : Addr} {nm : Str} {kso tm ta tl tn tc : Tok} {A Ln cost : Int} {nk : Nat}
    (B : Below A₀ base outer h₀) (F : Fr h₀ L s.heap m) (KX : (Mine.hd.heap_39 w.params).In h₀) (T : Top p loose mean mg mb h₀) (hk : cs.kind = .function)
    (N : News h₀ L s.heap news) (U1 : UpdF S (cntO dS esS nS) news g1) (U2 : ∀ o, UpdF X (dictOf esX nX) (g1 o) (g2 o)) (i0 : (st, instObj 912 sd) ∈ news) (i1 : (sd, stD w k1 k2 k3 k4 lam S X EV) ∈ news) (i2 : (dS, dictOf [] 0) ∈ news) (i3 : (lam, lamO qual cell c' pm ctv) ∈ news) (i4 : (c', oc) ∈ news) (i5 : (cell, oCell) ∈ news) (i6 : (EV, dictOf [] nE) ∈ news) (i7 : (now, listOf #[.int t tt] nn) ∈ news) (i8 : (fx, instObj 241 fxd) ∈ news) (i9 : (fxd, dictOf [⟨PyData.keyHash w.params (Str.ofString "storage"), .str (Str.ofString "storage") kso, .ref st⟩] nk) ∈ news) (i10 : (it, itO itd A Ln ta tl tn) ∈ news) (i11 : (itd, dictOf [] 0) ∈ news)
    (R : StRep w esS esX sg t n) (hn : n ≤ 900) (ht : 0 ≤ t) (ord : @LT.lt Nat _ 1 cell ∧ @LT.lt Nat _ cell now ∧ @LT.lt Nat _ now c' ∧ @LT.lt Nat _ c' lam ∧ @LT.lt Nat _ lam sd ∧ @LT.lt Nat _ sd st ∧ @LT.lt Nat _ st dS ∧ @LT.lt Nat _ dS S ∧ @LT.lt Nat _ S X ∧ @LT.lt Nat _ X EV) (hc : oCell.data = .cell (some (.ref now))) (hc1 : oc.data = .fields vs) (hc2 : vs[1]? = some (.str qual tq)) (hid : List.lookup idt (Mine.hd.heap_39 w.params) = some (tup1 nm tm)) (hnm : nm.length ≤ 5) (hA : 1 ≤ A ∧ A ≤ 5) (hL : 2 ≤ Ln ∧ Ln ≤ 6) (ord2 : @LT.lt Nat _ X fx ∧ @LT.lt Nat _ X fxd ∧ @LT.lt Nat _ X it ∧ @LT.lt Nat _ X itd) (hco : 1 ≤ cost ∧ cost ≤ 6)
    (hd : dp + 14 < recursionLimit) (hu : un + 110 < cLine)
    (h : ∀ (t' : Tok) tk' h' esS' nS' esX' nX', Fr h₀ L h' m → News h₀ L h' ((g2 (cntO dS esS' nS') (dictOf esX' nX'))) → StRep w esS' esX' (ups sg t (keyF nm A Ln) Ln cost) t (n + 1) → Q (.bool (decide (cnt sg t (keyF nm A Ln) + cost ≤ A))) { s with heap := h', toks := tk' }) :
    wpAny (model pg w) (ktrTop dp un gd cn cs L a ccd cl outer) (call (.ref 220) [.ref fx, .ref it, .ref idt, .int cost tc]) Q E s := by
  obtain ⟨rest, rS, rX, jS, jX, jr, jb⟩ := adapt U1 U2
  have N1 : News h₀ L s.heap ((S, cntO dS esS nS) :: (X, dictOf esX nX) :: (st, instObj 912 sd) :: (sd, stD w k1 k2 k3 k4 lam S X EV) :: (dS, dictOf [] 0) :: (lam, lamO qual cell c' pm ctv) :: (c', oc) :: (cell, oCell) :: (EV, dictOf [] nE) :: (now, listOf #[.int t tt] nn) :: (fx, instObj 241 fxd) :: (fxd, dictOf [⟨PyData.keyHash w.params (Str.ofString "storage"), .str (Str.ofString "storage") kso, .ref st⟩] nk) :: (it, itO itd A Ln ta tl tn) :: (itd, dictOf [] 0) :: rest) := news_of N (by
    intro q hq
    simp only [List.mem_cons] at hq
    rcases hq with rfl | rfl | rfl | rfl | rfl | rfl | rfl | rfl | rfl | rfl | rfl | rfl | rfl | rfl | hq <;> first | with_reducible assumption | exact jr _ hq)
  refine fix_c B F KX T hk N1 R hn ht ord hc hc1 hc2 rS rX hid hnm hA hL ord2 hco hd hu ?_
  intro  t' tk' h' esS' nS' esX' nX' F' N'
  exact h  t' tk' h' esS' nS' esX' nX' F' (news_of N' (fun q hq => by
    rcases jb _ _ q hq with rfl | rfl | hq
    · exact .head _
    · exact .tail _ (.head _)
    · simp only [List.mem_cons]; repeat' (first | exact .inr hq | refine .inr ?_)))
end
end Mine
end CFix

section CSld
theorem Mine.top_CSld : True := by
  w_top off
  trivial
open PySem PySem.W PyProof.Rows
namespace Mine
open PySem PySem.Calls
local macro_rules | `(tactic| k_room) => `(tactic| ktr_room)
local macro_rules | `(tactic| k_units) => `(tactic| ktr_units)
local macro_rules | `(tactic| walk_at "unused0") => `(tactic| fail)
local macro_rules | `(tactic| walk_at "getMethod ref") => `(tactic| (k_here; (with_reducible show wpAny _ _ (getMethod (Value.ref _) (PySem.Str.ofString "clock") _) _ _ _); k_dflt (refine' kmu_own ?k1 ?k2 ?k3 ?k4 ?k5 ?_; (case k1 => k_asm); (case k2 => k_asm); (case k3 => k_inst); (case k4 => k_is); (case k5 => k_is); k_whole)))
local macro_rules | `(tactic| walk_at "callWith ref nil nil") => `(tactic| (k_here; (fail_if_success (with_reducible show wpAny _ _ (callWith _ (Value.ref 483) _ _ _) _ _ _)); (fail_if_success (with_reducible show wpAny _ _ (callWith _ (Value.ref 171) _ _ _) _ _ _)); k_dflt (refine' callWith_lam ?k1 ?k2 ?_; (case k1 => k_asm); (case k2 => k_mem); k_whole)))
local macro_rules | `(tactic| walk_at "call ref nil") => `(tactic| (k_here; k_dflt (refine' clock_m ?k1 ?k2 ?k3 ?k4 ?k5 ?k6 ?m1 ?m2 ?m3 ?m4 ?c1 ?c2 ?c3 ?d1 ?d2 ?_; (case k1 => k_asm); (case k2 => k_asm); (case k3 => k_asm); (case k4 => k_asm); (case k5 => first | exact rfl | assumption); (case k6 => k_asm); (case m1 => k_mem); (case m2 => k_mem); (case m3 => k_mem); (case m4 => k_mem); (case c1 => k_asm); (case c2 => k_asm); (case c3 => k_asm); (case d1 => ktr_room); (case d2 => ktr_units); k_whole; intro t' h' tk' F' N')))
local macro_rules | `(tactic| walk_at "call ref") => `(tactic| (k_here; k_dflt (show wpAny _ _ (call (Value.ref _) [Value.str _ _] []) _ _ _); k_dflt (refine' key_q ?k1 ?k2 ?k3 ?k4 ?k5 ?k6 ?hq ?i1 ?i2 ?a1 ?a2 ?a3 ?d1 ?d2 ?_; (case k1 => k_asm); (case k2 => k_asm); (case k3 => k_asm); (case k4 => k_asm); (case k5 => first | exact rfl | assumption); (case k6 => k_asm); (case hq => k_mem); (case i1 => k_mem); (case i2 => k_mem); (case a1 => assumption); (case a2 => assumption); (case a3 => first | with_reducible assumption | decide +kernel); (case d1 => ktr_room); (case d2 => ktr_units); k_whole; intro t' tk' h' F' N')))
local macro_rules | `(tactic| walk_at "call ref") => `(tactic| (k_here; k_dflt (show wpAny _ _ (call (Value.ref 483) [Value.ref _] []) _ _ _); k_dflt (refine' exp_m ?k1 ?k2 ?k3 ?k4 ?k5 ?k6 ?i1 ?i2 ?a1 ?a2 ?d1 ?d2 ?_; (case k1 => k_asm); (case k2 => k_asm); (case k3 => k_asm); (case k4 => k_asm); (case k5 => first | exact rfl | assumption); (case k6 => k_asm); (case i1 => k_mem); (case i2 => k_mem); (case a1 => assumption); (case a2 => assumption); (case d1 => ktr_room); (case d2 => ktr_units); k_whole; intro t' tk' h' F' N')))
local macro_rules | `(tactic| walk_at "eval Call Attribute") => `(tactic| (k_here; (with_reducible show wpAny _ _ (eval (Expr.Call (Expr.Attribute _ _ _) [Expr.Starred _ _] [] _) _) _ _ _); refine methodCallS ?_))
local macro_rules | `(tactic| walk_at "callWith ref") => `(tactic| (k_here; (with_reducible show wpAny _ _ (callWith _ (Value.ref _) _ (backTo _ (starEach [Expr.Starred _ _] _)) []) _ _ _); k_dflt (refine' callWith_MS ?k1 ?k2 ?k3 ?k4 ?_; (case k1 => k_asm); (case k2 => k_asm); (case k3 => k_mem); (case k4 => k_is); k_whole)))
local macro_rules | `(tactic| walk_at "StarOf ref") => `(tactic| (k_here; k_dflt (refine' star_K ?k1 ?k2 ?k3 ?k4 ?_; (case k1 => k_asm); (case k2 => k_asm); (case k3 => k_asm); (case k4 => first | with_reducible assumption | k_is); k_whole); intro h' F' N'; (refine' And.intro (methP (by k_asm) (by k_mem) (by k_in)) ?_); try dsimp only [List.nil_append, List.cons_append]))
local macro_rules | `(tactic| walk_at "call ref") => `(tactic| (k_here; k_dflt (show wpAny _ _ (call (Value.ref 874) [Value.ref _, Value.str _ _, Value.int _ _, Value.int _ _, Value.int _ _] []) _ _ _); k_dflt (refine' acq_m ?k1 ?k2 ?k3 ?k4 ?k5 ?k6 ?u1 ?u2 ?i0 ?i1 ?i2 ?i3 ?i4 ?i5 ?i6 ?i7 ?r1 ?r2 ?r3 ?s1 ?s2 ?s3 ?s4 ?e0 ?e1 ?e2 ?e3 ?e4 ?e5 ?d1 ?d2 ?_; (case k1 => k_asm); (case k2 => k_asm); (case k3 => k_asm); (case k4 => k_asm); (case k5 => first | exact rfl | assumption); (case k6 => k_asm); (case i0 => k_mem); (case i1 => k_mem); (case i3 => k_mem); (case i4 => k_mem); (case i5 => k_mem); (case s2 => k_asm); (case s3 => k_asm); (case s4 => k_asm); (case i7 => k_mem); (case u1 => k_updF); (case i2 => k_mem); (case i6 => k_mem); (case u2 => (intro o; (try dsimp only); k_updF)); (case r1 => k_asm); (case r2 => omega); (case r3 => omega); (case s1 => k_asm); (case e0 => first | with_reducible assumption | omega | exact keyF_len (by assumption) (by assumption) (by assumption)); (case e1 => first | with_reducible assumption | omega | exact keyF_len (by assumption) (by assumption) (by assumption)); (case e2 => first | with_reducible assumption | omega | exact keyF_len (by assumption) (by assumption) (by assumption)); (case e3 => first | with_reducible assumption | omega | exact keyF_len (by assumption) (by assumption) (by assumption)); (case e4 => first | with_reducible assumption | omega | exact keyF_len (by assumption) (by assumption) (by assumption)); (case e5 => first | with_reducible assumption | omega | exact keyF_len (by assumption) (by assumption) (by assumption)); (case d1 => ktr_room); (case d2 => ktr_units); k_whole; intro t' tk' h' esS' nS' esX' nX' F' N' R'; (try dsimp only at N'))))
section
variable {w : World} {p : Program} {loose : List Str} {mean : ExcName → Option Value} {mg mb : Str → Option Value}
set_option maxHeartbeats 8000000 in
theorem sld_c {dp un : Nat} {gd : Option (List Code)} {cn : Str} {cs : Scope} {a : Addr} {ccd : Value} {cl : List (Str × Addr)} {outer : List Env} {A₀ : Around} {base h₀ : Heap} {L : Addr} {m : Str → Option Value} {s : Shared} {Q E : Value → Shared → Prop} {st sd S dS X EV lam cell c' now : Addr} {k1 k2 k3 k4 tq tt : Tok} {qual : Str} {pm ctv : Value} {oc oCell : Obj} {vs : Array Value} {esS esX : List DictEntry} {nS nX nn nE n : Nat} {sg : Str → Option (Int × Int)} {t : Int} {rest : List (Addr × Obj)} {fx fxd it itd idt : Addr} {nm : Str} {kso tm ta tl tn tc : Tok} {A Ln cost : Int} {nk : Nat}
    (B : Below A₀ base outer h₀) (F : Fr h₀ L s.heap m) (KX : (Mine.hd.heap_39 w.params).In h₀) (T : Top p loose mean mg mb h₀) (hk : cs.kind = .function)
    (N : News h₀ L s.heap ((S, cntO dS esS nS) :: (X, dictOf esX nX) :: (st, instObj 912 sd) :: (sd, stD w k1 k2 k3 k4 lam S X EV) :: (dS, dictOf [] 0) :: (lam, lamO qual cell c' pm ctv) :: (c', oc) :: (cell, oCell) :: (EV, dictOf [] nE) :: (now, listOf #[.int t tt] nn) :: (fx, instObj 296 fxd) :: (fxd, dictOf [⟨PyData.keyHash w.params (Str.ofString "storage"), .str (Str.ofString "storage") kso, .ref st⟩] nk) :: (it, itO itd A Ln ta tl tn) :: (itd, dictOf [] 0) :: rest))
    (R : StRep w esS esX sg t n) (hn : n ≤ 900) (ht : 0 ≤ t) (ord : @LT.lt Nat _ 1 cell ∧ @LT.lt Nat _ cell now ∧ @LT.lt Nat _ now c' ∧ @LT.lt Nat _ c' lam ∧ @LT.lt Nat _ lam sd ∧ @LT.lt Nat _ sd st ∧ @LT.lt Nat _ st dS ∧ @LT.lt Nat _ dS S ∧ @LT.lt Nat _ S X ∧ @LT.lt Nat _ X EV) (hc : oCell.data = .cell (some (.ref now))) (hc1 : oc.data = .fields vs) (hc2 : vs[1]? = some (.str qual tq)) (rS : ∀ p ∈ rest, p.1 ≠ S) (rX : ∀ p ∈ rest, p.1 ≠ X) (hid : List.lookup idt (Mine.hd.heap_39 w.params) = some (tup1 nm tm)) (hnm : nm.length ≤ 5) (hA : 1 ≤ A ∧ A ≤ 5) (hL : 2 ≤ Ln ∧ Ln ≤ 6) (ord2 : @LT.lt Nat _ X fx ∧ @LT.lt Nat _ X fxd ∧ @LT.lt Nat _ X it ∧ @LT.lt Nat _ X itd) (hco : 1 ≤ cost ∧ cost ≤ 6) (htt : 10 ≤ t ∧ t ≤ 5000) (hcb : ∀ k, 0 ≤ cnt sg t k ∧ cnt sg t k ≤ 100000)
    (hd : dp + 30 < recursionLimit) (hu : un + 150 < cLine)
    (h : ∀ (t' : Tok) tk' h' esS' nS' esX' nX', Fr h₀ L h' m → News h₀ L h' (((S, cntO dS esS' nS') :: (X, dictOf esX' nX') :: (st, instObj 912 sd) :: (sd, stD w k1 k2 k3 k4 lam S X EV) :: (dS, dictOf [] 0) :: (lam, lamO qual cell c' pm ctv) :: (c', oc) :: (cell, oCell) :: (EV, dictOf [] nE) :: (now, listOf #[.int t tt] nn) :: (fx, instObj 296 fxd) :: (fxd, dictOf [⟨PyData.keyHash w.params (Str.ofString "storage"), .str (Str.ofString "storage") kso, .ref st⟩] nk) :: (it, itO itd A Ln ta tl tn) :: (itd, dictOf [] 0) :: rest)) → StRep w esS' esX' (if acqOk sg t (keyF nm A Ln) A Ln cost then ups sg t (curK (keyF nm A Ln) t Ln) (2 * Ln) cost else sg) t (n + 1) → Q (.bool (acqOk sg t (keyF nm A Ln) A Ln cost)) { s with heap := h', toks := tk' }) :
    wpAny (model pg w) (ktrTop dp un gd cn cs L a ccd cl outer) (call (.ref 266) [.ref fx, .ref it, .ref idt, .int cost tc]) Q E s := by
  have lS : @LT.lt Nat _ 1 S := by omega
  have lX : @LT.lt Nat _ 1 X := by omega
  refine wpAny_call ?_
  (refine' code_def ?k1 ?k2 ?k3 ?k4 ?k5 ?kA ?kF ?kK ?k6 ?k7 ?k8 ?k9 ?kB ?_ ?c2 ?c3 ?c4 ?c5; (case kA => exact rfl); (case kF => exact rfl); (case kK => assumption); (case k1 => k_asm); (case k2 => k_asm); (case k3 => k_asm); (case k4 => k_asm); (case k5 => k_asm); (case k6 => k_is); (case k7 => k_is); (case k8 => ktr_room); (case k9 => first | exact BindsTo.of_eq rfl | exact binds_K (by k_in) rfl (by k_is) rfl rfl rfl); (case c5 => decide); (case kB => exact locs rfl); (case c2 => exact rfl); (case c3 => exact rfl); (case c4 => exact rfl); k_whole; intro g' L' h' FG' F' N' B' X' T'; (try dsimp only); (try k_fold))
  repeat' (first | (k_unfold; (try dsimp only)) | (k_end; wrow_close) | walk1 | (dsimp only; walk1) | (leave1; try dsimp only))
  exact h 0 _ _ _ _ _ _ (by k_asm) (news_of (by k_asm) (fun q hq => .tail _ hq)) (by assumption)

theorem sld_m {dp un : Nat} {gd : Option (List Code)} {cn : Str} {cs : Scope} {a : Addr} {ccd : Value} {cl : List (Str × Addr)} {outer : List Env} {A₀ : Around} {base h₀ : Heap} {L : Addr} {m : Str → Option Value} {s : Shared} {Q E : Value → Shared → Prop} {st sd S dS X EV lam cell c' now : Addr} {k1 k2 k3 k4 tq tt : Tok} {qual : Str} {pm ctv : Value} {oc oCell : Obj} {vs : Array Value} {esS esX : List DictEntry} {nS nX nn nE n : Nat} {sg : Str → Option (Int × Int)} {t : Int} {news : List (Addr × Obj)} {g1 : Obj → List (Addr × Obj)} {g2 : Obj → Obj → List (Addr × Obj)} {fx fxd it itd idt : Addr} {nm : Str} {kso tm ta tl tn tc : Tok} {A Ln cost : Int} {nk : Nat}
    (B : Below A₀ base outer h₀) (F : Fr h₀ L s.heap m) (KX : (Mine.hd.heap_39 w.params).In h₀) (T : Top p loose mean mg mb h₀) (hk : cs.kind = .function)
    (N : News h₀ L s.heap news) (U1 : UpdF S (cntO dS esS nS) news g1) (U2 : ∀ o, UpdF X (dictOf esX nX) (g1 o) (g2 o)) (i0 : (st, instObj 912 sd) ∈ news) (i1 : (sd, stD w k1 k2 k3 k4 lam S X EV) ∈ news) (i2 : (dS, dictOf [] 0) ∈ news) (i3 : (lam, lamO qual cell c' pm ctv) ∈ news) (i4 : (c', oc) ∈ news) (i5 : (cell, oCell) ∈ news) (i6 : (EV, dictOf [] nE) ∈ news) (i7 : (now, listOf #[.int t tt] nn) ∈ news) (i8 : (fx, instObj 296 fxd) ∈ news) (i9 : (fxd, dictOf [⟨PyData.keyHash w.params (Str.ofString "storage"), .str (Str.ofString "storage") kso, .ref st⟩] nk) ∈ news) (i10 : (it, itO itd A Ln ta tl tn) ∈ news) (i11 : (itd, dictOf [] 0) ∈ news)
    (R : StRep w esS esX sg t n) (hn : n ≤ 900) (ht : 0 ≤ t) (ord : @LT.lt Nat _ 1 cell ∧ @LT.lt Nat _ cell now ∧ @LT.lt Nat _ now c' ∧ @LT.lt Nat _ c' lam ∧ @LT.lt Nat _ lam sd ∧ @LT.lt Nat _ sd st ∧ @LT.lt Nat _ st dS ∧ @LT.lt Nat _ dS S ∧ @LT.lt Nat _ S X ∧ @LT.lt Nat _ X EV) (hc : oCell.data = .cell (some (.ref now))) (hc1 : oc.data = .fields vs) (hc2 : vs[1]? = some (.str qual tq)) (hid : List.lookup idt (Mine.hd.heap_39 w.params) = some (tup1 nm tm)) (hnm : nm.length ≤ 5) (hA : 1 ≤ A ∧ A ≤ 5) (hL : 2 ≤ Ln ∧ Ln ≤ 6) (ord2 : @LT.lt Nat _ X fx ∧ @LT.lt Nat _ X fxd ∧ @LT.lt Nat _ X it ∧ @LT.lt Nat _ X itd) (hco : 1 ≤ cost ∧ cost ≤ 6) (htt : 10 ≤ t ∧ t ≤ 5000) (hcb : ∀ k, 0 ≤ cnt sg t k ∧ cnt sg t k ≤ 100000)
    (hd : dp + 30 < recursionLimit) (hu : un + 150 < cLine)
    (h : ∀ (t' : Tok) tk' h' esS' nS' esX' nX', Fr h₀ L h' m → News h₀ L h' ((g2 (cntO dS esS' nS') (dictOf esX' nX'))) → StRep w esS' esX' (if acqOk sg t (keyF nm A Ln) A Ln cost then ups sg t (curK (keyF nm A Ln) t Ln) (2 * Ln) cost else sg) t (n + 1) → Q (.bool (acqOk sg t (keyF nm A Ln) A Ln cost)) { s with heap := h', toks := tk' }) :
    wpAny (model pg w) (ktrTop dp un gd cn cs L a ccd cl outer) (call (.ref 266) [.ref fx, .ref it, .ref idt, .int cost tc]) Q E s := by
  obtain ⟨rest, rS, rX, jS, jX, jr, jb⟩ := adapt U1 U2
  have N1 : News h₀ L s.heap ((S, cntO dS esS nS) :: (X, dictOf esX nX) :: (st, instObj 912 sd) :: (sd, stD w k1 k2 k3 k4 lam S X EV) :: (dS, dictOf [] 0) :: (lam, lamO qual cell c' pm ctv) :: (c', oc) :: (cell, oCell) :: (EV, dictOf [] nE) :: (now, listOf #[.int t tt] nn) :: (fx, instObj 296 fxd) :: (fxd, dictOf [⟨PyData.keyHash w.params (Str.ofString "storage"), .str (Str.ofString "storage") kso, .ref st⟩] nk) :: (it, itO itd A Ln ta tl tn) :: (itd, dictOf [] 0) :: rest) := news_of N (by
    intro q hq
    simp only [List.mem_cons] at hq
    rcases hq with rfl | rfl | rfl | rfl | rfl | rfl | rfl | rfl | rfl | rfl | rfl | rfl | rfl | rfl | hq <;> first | with_reducible assumption | exact jr _ hq)
  refine sld_c B F KX T hk N1 R hn ht ord hc hc1 hc2 rS rX hid hnm hA hL ord2 hco htt hcb hd hu ?_
  intro  t' tk' h' esS' nS' esX' nX' F' N'
  exact h  t' tk' h' esS' nS' esX' nX' F' (news_of N' (fun q hq => by
    rcases jb _ _ q hq with rfl | rfl | hq
    · exact .head _
    · exact .tail _ (.head _)
    · simp only [List.mem_cons]; repeat' (first | exact .inr hq | refine .inr ?_)))
end
end Mine
end CSld

section WsNew
theorem Mine.top_WsNew : True := by
  w_top off
  trivial
open PySem PySem.W PyProof.Rows
namespace Mine
open PySem PySem.Calls
abbrev wsO (dx : Addr) (v : Value) (r : Int) (tr : Tok) : Obj := ⟨.ref 171, some dx, .seq #[v, .int r tr] 0, #[]⟩
section
variable {w : World} {A : Around} {E : Value → Shared → Prop} {R : Result → Shared → Prop} {s : Shared} {h₀ : Heap} {L : Addr} {m : Str → Option Value} {news : List (Addr × Obj)}
theorem ws_check {h : Heap} {v : Value} (X : (KK w).In h) : Looks (model pg w) h (checkBuiltinCall "tuple.__new__" ⟨[.ref 171, v], []⟩) () := Looks.of_peek X (by kernel_rfl)
theorem ws_ist {h : Heap} (X : (KK w).In h) : Looks (model pg w) h (isType (.ref 171)) true := Looks.of_peek X (by kernel_rfl)
theorem ws_sub {h : Heap} (X : (KK w).In h) : Looks (model pg w) h (isSubtype (.ref 171) (.type "tuple")) true := Looks.of_peek X (by kernel_rfl)
theorem ws_here {h : Heap} (X : (KK w).In h) : Looks (model pg w) h (Bind.madeHere "tuple.__new__" (.ref 171)) () := Looks.of_peek X (by kernel_rfl)
theorem ws_init {h : Heap} (X : (KK w).In h) : Looks (model pg w) h (typeLookup (.ref 171) "__init__") (some (.builtin "object.__init__")) := Looks.of_peek X (by kernel_rfl)
theorem ws_del {h : Heap} (X : (KK w).In h) : Looks (model pg w) h (classHasDel 171) false := Looks.of_peek X (by kernel_rfl)
theorem ws_mro {h : Heap} (X : (KK w).In h) : Looks (model pg w) h (mroOf (.ref 171)) [.ref 171, .type "tuple", .type "object"] := Looks.of_peek X (by kernel_rfl)
theorem ws_made {h : Heap} (X : (KK w).In h) : Looks (model pg w) h (Bind.madeBy (.ref 171)) none := Looks.of_peek X (by kernel_rfl)
theorem ws_self {h : Heap} (X : (KK w).In h) : Looks (model pg w) h (isSubtype (.ref 171) (.ref 171)) true := Looks.of_peek X (by kernel_rfl)
theorem ws_callAny {h : Heap} {a b : Value} (X : (KK w).In h) : Looks (model pg w) h (callAny (.ref 171) ⟨[a, b], []⟩) (Fin.again (.call (.builtin "type.__call__") ⟨[.ref 171, a, b], []⟩)) := Looks.of_peek X (by kernel_rfl)
theorem ws_tcheck {h : Heap} {a b : Value} (X : (KK w).In h) : Looks (model pg w) h (checkBuiltinCall "type.__call__" ⟨[.ref 171, a, b], []⟩) () := Looks.of_peek X (by kernel_rfl)

theorem ws_tnew {D' : Addr} {v : Value} {r : Int} {tr : Tok} {n : Nat} (F : Fr h₀ L s.heap m) (X₀ : (KK w).In h₀) (N : News h₀ L s.heap news) (hm : (D', ({ cls := .type "tuple", data := .seq #[v, .int r tr] n } : Obj)) ∈ news)
    (hq : ∀ x dx h', Fr h₀ L h' m → News h₀ L h' ((x, wsO dx v r tr) :: (dx, dictOf [] 0) :: news) → (∀ p ∈ news, p.1 < dx) → dx < x → R (.ok (.ret (.ref x))) { s with heap := h' }) :
    codeAny (model pg w) A (.call (.builtin "tuple.__new__") ⟨[.ref 171, .ref D'], []⟩) R s := by
  have X := X₀.keeps F.keep
  refine codeAny_call_builtin_code (Code.quiet_builtin _ (by decide +kernel)) ((ws_check X).at (codeAny_builtin (entryFor_of_tree (id := "tuple.__new__") (b := Builtin.«tuple.__new__») (by kernel_rfl)) ?_))
  unfold Builtin.«tuple.__new__»
  refine wpAny_bind ((ws_ist X).at ?_)
  rw [if_neg (by decide)]
  refine wpAny_bind ((ws_sub X).at ?_)
  rw [if_neg (by decide)]
  refine wpAny_bind ((ws_here X).at ?_)
  refine wpAny_bind ((ws_init X).at ?_)
  rw [if_pos (by decide)]
  refine wpAny_bind (wpAny_of_eq (a := ()) (by rfl) ?_)
  refine wpAny_bind (wpAny_of_eq (a := ()) (by rfl) ?_)
  refine wpAny_bind ?_
  dsimp only
  have D := (N _ hm).1
  refine wpAny_collect_seq D' (.inr rfl) D rfl rfl (fun h1 hk => ?_) (Nat.le_of_ble_eq_true rfl)
  have F1 : Fr h₀ L h1 m := by
    obtain ⟨oL, es, ep, hL, r⟩ := F.ns
    exact ⟨⟨oL, es, ep, hk _ _ hL, r⟩, fun b x q => hk _ _ (F.keep b x q), F.above⟩
  have N1 : News h₀ L h1 news := fun p hp => ⟨hk _ _ (N p hp).1, (N p hp).2⟩
  refine wpAny_bind (wpAny_pure (wpAny_bind (wpAny_alloc (wpAny_bind ?_))))
  show wpAny _ _ (newObjAsIs _ _ _) _ _ _
  unfold newObjAsIs
  refine wpAny_bind (wpAny_alloc (wpAny_bind ?_))
  have N2 := (N1.push F1 emptyDict).push (F1.push _) (wsO h1.objs.size v r tr)
  rw [Heap.size_push] at N2
  have X2 : (KK w).In ((h1.push emptyDict).push (wsO h1.objs.size v r tr)) := X₀.keeps ((F1.push _).push _).keep
  refine (ws_del X2).at ?_
  rw [if_neg (by decide)]
  refine wpAny_pure (wpAny_pure ?_)
  show R _ _
  rw [Heap.size_push]
  exact hq _ h1.objs.size _ ((F1.push _).push _) N2 (fun p hp => Heap.lt_size (N1 p hp).1) (Nat.lt_succ_self _)
end
end Mine
end WsNew

section CWs
theorem Mine.top_CWs : True := by
  w_top off
  trivial
open PySem PySem.W PyProof.Rows
namespace Mine
open PySem PySem.Calls
local macro_rules | `(tactic| k_room) => `(tactic| ktr_room)
local macro_rules | `(tactic| k_units) => `(tactic| ktr_units)
local macro_rules | `(tactic| walk_at "getMethod ref") => `(tactic| (k_here; (with_reducible show wpAny _ _ (getMethod (Value.ref _) (PySem.Str.ofString "clock") _) _ _ _); k_dflt (refine' kmu_own ?k1 ?k2 ?k3 ?k4 ?k5 ?_; (case k1 => k_asm); (case k2 => k_asm); (case k3 => k_inst); (case k4 => k_is); (case k5 => k_is); k_whole)))
local macro_rules | `(tactic| walk_at "callWith ref nil nil") => `(tactic| (k_here; (fail_if_success (with_reducible show wpAny _ _ (callWith _ (Value.ref 483) _ _ _) _ _ _)); (fail_if_success (with_reducible show wpAny _ _ (callWith _ (Value.ref 171) _ _ _) _ _ _)); k_dflt (refine' callWith_lam ?k1 ?k2 ?_; (case k1 => k_asm); (case k2 => k_mem); k_whole)))
local macro_rules | `(tactic| walk_at "call ref nil") => `(tactic| (k_here; k_dflt (refine' clock_m ?k1 ?k2 ?k3 ?k4 ?k5 ?k6 ?m1 ?m2 ?m3 ?m4 ?c1 ?c2 ?c3 ?d1 ?d2 ?_; (case k1 => k_asm); (case k2 => k_asm); (case k3 => k_asm); (case k4 => k_asm); (case k5 => first | exact rfl | assumption); (case k6 => k_asm); (case m1 => k_mem); (case m2 => k_mem); (case m3 => k_mem); (case m4 => k_mem); (case c1 => k_asm); (case c2 => k_asm); (case c3 => k_asm); (case d1 => ktr_room); (case d2 => ktr_units); k_whole; intro t' h' tk' F' N')))
section
variable {w : World} {p : Program} {loose : List Str} {mean : ExcName → Option Value} {mg mb : Str → Option Value}
theorem meth_tnew {A : Around} {E : Value → Shared → Prop} {s : Shared} {h₀ : Heap} {L : Addr} {m : Str → Option Value} {pl : Sem Bool} {Q : Value × List Value → Shared → Prop} (F : Fr h₀ L s.heap m) (X₀ : (KK w).In h₀) (h : Q (.builtin "tuple.__new__", []) { s with toks := s.toks + 1 }) :
    wpAny (model pg w) A (getMethod (.type "tuple") "__new__" pl) Q E s :=
  method_type (K := KK w) (T := "tuple") F X₀ (kitMeta_of (by decide +kernel)) (by decide +kernel) (v := .builtin "tuple.__new__") (by kernel_rfl) (by decide +kernel) h
theorem ws_call {A : Around} {E : Value → Shared → Prop} {s : Shared} {h₀ : Heap} {L D' : Addr} {m : Str → Option Value} {news : List (Addr × Obj)} {v : Value} {r : Int} {tr : Tok} {n : Nat} {Q : Value → Shared → Prop} (F : Fr h₀ L s.heap m) (X₀ : (KK w).In h₀) (N : News h₀ L s.heap news) (hm : (D', ({ cls := .type "tuple", data := .seq #[v, .int r tr] n } : Obj)) ∈ news)
    (hq : ∀ x dx h', Fr h₀ L h' m → News h₀ L h' ((x, wsO dx v r tr) :: (dx, dictOf [] 0) :: news) → (∀ p ∈ news, p.1 < dx) → dx < x → Q (.ref x) { s with heap := h' }) :
    wpAny (model pg w) A (call (.builtin "tuple.__new__") [.ref 171, .ref D']) Q E s := wpAny_call (ws_tnew F X₀ N hm hq)
local macro_rules | `(tactic| walk_at "getMethod type:tuple") => `(tactic| (k_here; k_dflt (refine' meth_tnew ?k1 ?k2 ?_; (case k1 => k_asm); (case k2 => k_asm); k_whole)))
local macro_rules | `(tactic| walk_at "call builtin:tuple.__new__") => `(tactic| (k_here; k_dflt (refine' ws_call ?k1 ?k2 ?k3 ?k4 ?_; (case k1 => k_asm); (case k2 => k_asm); (case k3 => k_asm); (case k4 => k_mem)); intro x' d' h' F' N' l1 l2; (try k_lt l1); (try k_lt2 l2)))
local macro_rules | `(tactic| k_room) => `(tactic| (simp only [depth_under_make]; ktr_room))
set_option maxHeartbeats 8000000 in
theorem ws_code {dp un : Nat} {gd : Option (List Code)} {cn : Str} {cs : Scope} {a : Addr} {ccd : Value} {cl : List (Str × Addr)} {outer : List Env} {A₀ : Around} {base h₀ : Heap} {L : Addr} {m : Str → Option Value} {s : Shared} {Q E : Value → Shared → Prop} {v : Value} {r : Int} {tr : Tok} {news : List (Addr × Obj)}
    (B : Below A₀ base outer h₀) (F : Fr h₀ L s.heap m) (KX : (Mine.hd.heap_39 w.params).In h₀) (T : Top p loose mean mg mb h₀) (hk : cs.kind = .function) (N : News h₀ L s.heap news) (hv : (∃ i t, v = .int i t) ∨ ∃ b, v = .ref b)
    (hd : dp + 5 < recursionLimit) (hu : un + 20 < cLine)
    (h : ∀ x dx (tk' : Nat) h', Fr h₀ L h' m → News h₀ L h' ((x, wsO dx v r tr) :: (dx, dictOf [] 0) :: news) → (∀ p ∈ news, p.1 < dx) → dx < x → Q (.ref x) { s with heap := h', toks := tk' }) :
    codeAny (model pg w) ((ktrTop dp un gd cn cs L a ccd cl outer).under (.builtin "type.__call__" ⟨[.ref 171, v, .int r tr], []⟩)) (.call (.ref 121) ⟨[.ref 171, v, .int r tr], []⟩) (fun r s' => match r with | .ok (.ret v) => Q v s' | .ok _ => False | .error e => E e s') s := by
  rcases hv with ⟨i, t, rfl⟩ | ⟨b, rfl⟩
  all_goals
    (refine' code_def ?k1 ?k2 ?k3 ?k4 ?k5 ?kA ?kF ?kK ?k6 ?k7 ?k8 ?k9 ?kB ?_ ?c2 ?c3 ?c4 ?c5; (case kA => exact rfl); (case kF => exact rfl); (case kK => assumption); (case k1 => k_asm); (case k2 => k_asm); (case k3 => k_asm); (case k4 => k_asm); (case k5 => k_asm); (case k6 => k_is); (case k7 => k_is); (case k8 => k_room); (case k9 => first | exact BindsTo.of_eq rfl | exact binds_K (by k_in) rfl (by k_is) rfl rfl rfl); (case c5 => decide); (case kB => exact locs rfl); (case c2 => exact rfl); (case c3 => exact rfl); (case c4 => exact rfl); k_whole; intro g' L' h' FG' F' N' B' X' T'; (try dsimp only); (try k_fold))
    repeat' (first | (k_unfold; (try dsimp only)) | (k_end; wrow_close) | walk1 | (dsimp only; walk1) | (leave1; try dsimp only))
    exact h _ _ _ _ (by k_asm) (news_of (by k_asm) (fun q hq => by
      rcases List.mem_cons.mp hq with rfl | hq
      · exact .head _
      rcases List.mem_cons.mp hq with rfl | hq
      · exact .tail _ (.head _)
      exact .tail _ (.tail _ (.tail _ hq)))) (by first | assumption | exact lt_all (And.right (by assumption))) (by assumption)
theorem ws_oinit {A : Around} {R : Result → Shared → Prop} {x dx : Addr} {v a b : Value} {r : Int} {tr : Tok} {h : Heap} {g : Array GenState} {d : Drawn} {t : Nat} {os : OsState} (X : (KK w).In h) (e : h.get? x = some (wsO dx v r tr))
    (hq : R (.ok (.ret .none)) ⟨h, g, d, t, os⟩) : codeAny (model pg w) A (.call (.builtin "object.__init__") ⟨[.ref x, a, b], []⟩) R ⟨h, g, d, t, os⟩ := by
  have t1 : Looks (model pg w) h (typeOf (.ref x)) (.ref 171) := looks_typeOf e
  have t0 : Looks (model pg w) h (isSubtype (.ref 171) (.type "object")) true := Looks.of_peek X (by kernel_rfl)
  have t2 : Looks (model pg w) h (isInstance (.ref x) (.type "object")) true := t1.andThen t0
  have ta : argsOk "object.__init__" ⟨[.ref x, a, b], []⟩ := by unfold argsOk; kernel_rfl
  refine codeAny_call_builtin oi_plain entry_oi (@check_slot (model pg w) _ _ _ "object.__init__" "object" "__init__" (.ref x) [a, b] [] _ oi_kind oi_split t2 ta ?_)
  unfold Builtin.«object.__init__»
  refine wpAny_bind ?_
  refine t1.at (wpAny_bind ((ws_init X).at ?_))
  refine wpAny_bind ((ws_made X).at ?_)
  rw [if_neg (by decide)]
  rw [if_neg (by decide)]
  exact wpAny_pure hq
set_option maxHeartbeats 8000000 in
theorem ws_m {dp un : Nat} {gd : Option (List Code)} {cn : Str} {cs : Scope} {a : Addr} {ccd : Value} {cl : List (Str × Addr)} {outer : List Env} {A₀ : Around} {base h₀ : Heap} {L : Addr} {m : Str → Option Value} {s : Shared} {Q E : Value → Shared → Prop} {v : Value} {r : Int} {tr : Tok} {news : List (Addr × Obj)}
    (B : Below A₀ base outer h₀) (F : Fr h₀ L s.heap m) (KX : (Mine.hd.heap_39 w.params).In h₀) (T : Top p loose mean mg mb h₀) (hk : cs.kind = .function) (N : News h₀ L s.heap news) (hv : (∃ i t, v = .int i t) ∨ ∃ b, v = .ref b)
    (hd : dp + 5 < recursionLimit) (hu : un + 20 < cLine)
    (h : ∀ x dx (tk' : Nat) h', Fr h₀ L h' m → News h₀ L h' ((x, wsO dx v r tr) :: (dx, dictOf [] 0) :: news) → (∀ p ∈ news, p.1 < dx) → dx < x → Q (.ref x) { s with heap := h', toks := tk' }) :
    wpAny (model pg w) (ktrTop dp un gd cn cs L a ccd cl outer) (call (.ref 171) [v, .int r tr]) Q E s := by
  obtain ⟨hh, g, d, t, os⟩ := s
  have X := KX.keeps F.keep
  refine wpAny_call (codeAny_of_tree ?_)
  show wpAny _ _ (callAny (.ref 171) _) _ _ _
  refine (ws_callAny X).at ⟨rfl, ?_⟩
  refine codeAny_call_builtin_at (Code.quiet_builtin _ (by decide +kernel)) entry_typeCall ((ws_tcheck X).at ?_)
  unfold Builtin.«type.__call__»
  refine wpAny_bind ((ws_mro X).at ?_)
  rw [if_neg (by decide)]
  refine wpAny_bind ((ws_made X).at ?_)
  refine wpAny_bind ?_
  refine cls_sm (K := KK w) (C := 171) (p := 172) (mc := .type "type") F KX (by kernel_rfl) (by kernel_rfl) (by kernel_rfl) (f := .ref 121) (rest := []) (by kernel_rfl) (by kernel_rfl) ?_
  refine wpAny_bind (wpAny_holding (wpAny_call (ws_code B F KX T hk N hv hd hu ?_)))
  intro x dx tk' h' F' N' l1 l2
  have X' := KX.keeps F'.keep
  have t1 : Looks (model pg w) h' (typeOf (.ref x)) (.ref 171) := looks_typeOf (N' _ (.head _)).1
  unfold isInstance
  refine wpAny_bind (wpAny_bind (t1.at ((ws_self X').at ?_)))
  rw [if_neg (by decide)]
  unfold callSpecial? specialOf
  refine wpAny_bind (wpAny_holding (wpAny_bind (wpAny_bind (t1.at ((ws_init X').at ?_)))))
  dsimp only
  rw [oi_bind]
  refine wpAny_holding (wpAny_bind (wpAny_pure (wpAny_bind (wpAny_call (ws_oinit X' (N' _ (.head _)).1 ?_)))))
  refine wpAny_pure ?_
  dsimp only
  rw [if_neg (by decide)]
  exact wpAny_pure (h x dx tk' h' F' N' l1 l2)
end
end Mine
end CWs

section CFst
theorem Mine.top_CFst : True := by
  w_top off
  trivial
open PySem PySem.W PyProof.Rows
namespace Mine
open PySem PySem.Calls
local macro_rules | `(tactic| k_room) => `(tactic| ktr_room)
local macro_rules | `(tactic| k_units) => `(tactic| ktr_units)
local macro_rules | `(tactic| walk_at "getMethod ref") => `(tactic| (k_here; (with_reducible show wpAny _ _ (getMethod (Value.ref _) (PySem.Str.ofString "clock") _) _ _ _); k_dflt (refine' kmu_own ?k1 ?k2 ?k3 ?k4 ?k5 ?_; (case k1 => k_asm); (case k2 => k_asm); (case k3 => k_inst); (case k4 => k_is); (case k5 => k_is); k_whole)))
local macro_rules | `(tactic| walk_at "callWith ref nil nil") => `(tactic| (k_here; (fail_if_success (with_reducible show wpAny _ _ (callWith _ (Value.ref 483) _ _ _) _ _ _)); (fail_if_success (with_reducible show wpAny _ _ (callWith _ (Value.ref 171) _ _ _) _ _ _)); k_dflt (refine' callWith_lam ?k1 ?k2 ?_; (case k1 => k_asm); (case k2 => k_mem); k_whole)))
local macro_rules | `(tactic| walk_at "call ref nil") => `(tactic| (k_here; k_dflt (refine' clock_m ?k1 ?k2 ?k3 ?k4 ?k5 ?k6 ?m1 ?m2 ?m3 ?m4 ?c1 ?c2 ?c3 ?d1 ?d2 ?_; (case k1 => k_asm); (case k2 => k_asm); (case k3 => k_asm); (case k4 => k_asm); (case k5 => first | exact rfl | assumption); (case k6 => k_asm); (case m1 => k_mem); (case m2 => k_mem); (case m3 => k_mem); (case m4 => k_mem); (case c1 => k_asm); (case c2 => k_asm); (case c3 => k_asm); (case d1 => ktr_room); (case d2 => ktr_units); k_whole; intro t' h' tk' F' N')))
local macro_rules | `(tactic| walk_at "call ref") => `(tactic| (k_here; k_dflt (show wpAny _ _ (call (Value.ref _) [Value.str _ _] []) _ _ _); k_dflt (refine' key_q ?k1 ?k2 ?k3 ?k4 ?k5 ?k6 ?hq ?i1 ?i2 ?a1 ?a2 ?a3 ?d1 ?d2 ?_; (case k1 => k_asm); (case k2 => k_asm); (case k3 => k_asm); (case k4 => k_asm); (case k5 => first | exact rfl | assumption); (case k6 => k_asm); (case hq => k_mem); (case i1 => k_mem); (case i2 => k_mem); (case a1 => assumption); (case a2 => assumption); (case a3 => first | with_reducible assumption | decide +kernel); (case d1 => ktr_room); (case d2 => ktr_units); k_whole; intro t' tk' h' F' N')))
local macro_rules | `(tactic| walk_at "call ref") => `(tactic| (k_here; k_dflt (show wpAny _ _ (call (Value.ref 483) [Value.ref _] []) _ _ _); k_dflt (refine' exp_m ?k1 ?k2 ?k3 ?k4 ?k5 ?k6 ?i1 ?i2 ?a1 ?a2 ?d1 ?d2 ?_; (case k1 => k_asm); (case k2 => k_asm); (case k3 => k_asm); (case k4 => k_asm); (case k5 => first | exact rfl | assumption); (case k6 => k_asm); (case i1 => k_mem); (case i2 => k_mem); (case a1 => assumption); (case a2 => assumption); (case d1 => ktr_room); (case d2 => ktr_units); k_whole; intro t' tk' h' F' N')))
local macro_rules | `(tactic| walk_at "eval Call Attribute") => `(tactic| (k_here; (with_reducible show wpAny _ _ (eval (Expr.Call (Expr.Attribute _ _ _) [Expr.Starred _ _] [] _) _) _ _ _); refine methodCallS ?_))
local macro_rules | `(tactic| walk_at "callWith ref") => `(tactic| (k_here; (with_reducible show wpAny _ _ (callWith _ (Value.ref _) _ (backTo _ (starEach [Expr.Starred _ _] _)) []) _ _ _); k_dflt (refine' callWith_MS ?k1 ?k2 ?k3 ?k4 ?_; (case k1 => k_asm); (case k2 => k_asm); (case k3 => k_mem); (case k4 => k_is); k_whole)))
local macro_rules | `(tactic| walk_at "StarOf ref") => `(tactic| (k_here; k_dflt (refine' star_K ?k1 ?k2 ?k3 ?k4 ?_; (case k1 => k_asm); (case k2 => k_asm); (case k3 => k_asm); (case k4 => first | with_reducible assumption | k_is); k_whole); intro h' F' N'; (refine' And.intro (methP (by k_asm) (by k_mem) (by k_in)) ?_); try dsimp only [List.nil_append, List.cons_append]))
local macro_rules | `(tactic| walk_at "call ref cons") => `(tactic| (k_here; k_dflt (show wpAny _ _ (call (Value.ref 171) [_, Value.int _ _] []) _ _ _); k_dflt (refine' ws_m ?k1 ?k2 ?k3 ?k4 ?k5 ?k6 ?hv ?d1 ?d2 ?_; (case k1 => k_asm); (case k2 => k_asm); (case k3 => k_asm); (case k4 => k_asm); (case k5 => first | exact rfl | assumption); (case k6 => k_asm); (case hv => first | exact .inl ⟨_, _, rfl⟩ | exact .inr ⟨_, rfl⟩); (case d1 => ktr_room); (case d2 => ktr_units); k_whole; intro x' d' tk' h' F' N' l1 l2; (try k_lt l1); (try k_lt2 l2))))
local macro_rules | `(tactic| walk_at "call ref") => `(tactic| (k_here; k_dflt (show wpAny _ _ (call (Value.ref 837) [Value.ref _, Value.str _ _] []) _ _ _); k_dflt (refine' get_m ?k1 ?k2 ?k3 ?k4 ?k5 ?k6 ?u1 ?u2 ?i0 ?i1 ?i2 ?i3 ?i4 ?i5 ?i6 ?i7 ?r1 ?r2 ?r3 ?s1 ?s2 ?s3 ?s4  ?d1 ?d2 ?_; (case k1 => k_asm); (case k2 => k_asm); (case k3 => k_asm); (case k4 => k_asm); (case k5 => first | exact rfl | assumption); (case k6 => k_asm); (case i0 => k_mem); (case i1 => k_mem); (case i3 => k_mem); (case i4 => k_mem); (case i5 => k_mem); (case s2 => k_asm); (case s3 => k_asm); (case s4 => k_asm); (case i7 => k_mem); (case u1 => k_updF); (case i2 => k_mem); (case i6 => k_mem); (case u2 => (intro o; (try dsimp only); k_updF)); (case r1 => k_asm); (case r2 => omega); (case r3 => omega); (case s1 => k_asm); (case d1 => ktr_room); (case d2 => ktr_units); k_whole; intro t' tk' h' esS' nS' esX' nX' F' N' R'; (try dsimp only at N'); have R2 := StRepK.rep R'; have R3 := StRepK.rep R'; obtain ⟨fS9, fX9, DS9, DX9, H9⟩ := R3)))
section
variable {w : World} {p : Program} {loose : List Str} {mean : ExcName → Option Value} {mg mb : Str → Option Value}
set_option maxHeartbeats 8000000 in
theorem fst_c {dp un : Nat} {gd : Option (List Code)} {cn : Str} {cs : Scope} {a : Addr} {ccd : Value} {cl : List (Str × Addr)} {outer : List Env} {A₀ : Around} {base h₀ : Heap} {L : Addr} {m : Str → Option Value} {s : Shared} {Q E : Value → Shared → Prop} {st sd S dS X EV lam cell c' now : Addr} {k1 k2 k3 k4 tq tt : Tok} {qual : Str} {pm ctv : Value} {oc oCell : Obj} {vs : Array Value} {esS esX : List DictEntry} {nS nX nn nE n : Nat} {sg : Str → Option (Int × Int)} {t : Int} {rest : List (Addr × Obj)} {fx fxd it itd idt : Addr} {nm : Str} {kso tm ta tl tn : Tok} {A Ln : Int} {nk : Nat}
    (B : Below A₀ base outer h₀) (F : Fr h₀ L s.heap m) (KX : (Mine.hd.heap_39 w.params).In h₀) (T : Top p loose mean mg mb h₀) (hk : cs.kind = .function)
    (N : News h₀ L s.heap ((S, cntO dS esS nS) :: (X, dictOf esX nX) :: (st, instObj 912 sd) :: (sd, stD w k1 k2 k3 k4 lam S X EV) :: (dS, dictOf [] 0) :: (lam, lamO qual cell c' pm ctv) :: (c', oc) :: (cell, oCell) :: (EV, dictOf [] nE) :: (now, listOf #[.int t tt] nn) :: (fx, instObj 241 fxd) :: (fxd, dictOf [⟨PyData.keyHash w.params (Str.ofString "storage"), .str (Str.ofString "storage") kso, .ref st⟩] nk) :: (it, itO itd A Ln ta tl tn) :: (itd, dictOf [] 0) :: rest))
    (R : StRep w esS esX sg t n) (hn : n ≤ 900) (ht : 0 ≤ t) (ord : @LT.lt Nat _ 1 cell ∧ @LT.lt Nat _ cell now ∧ @LT.lt Nat _ now c' ∧ @LT.lt Nat _ c' lam ∧ @LT.lt Nat _ lam sd ∧ @LT.lt Nat _ sd st ∧ @LT.lt Nat _ st dS ∧ @LT.lt Nat _ dS S ∧ @LT.lt Nat _ S X ∧ @LT.lt Nat _ X EV) (hc : oCell.data = .cell (some (.ref now))) (hc1 : oc.data = .fields vs) (hc2 : vs[1]? = some (.str qual tq)) (rS : ∀ p ∈ rest, p.1 ≠ S) (rX : ∀ p ∈ rest, p.1 ≠ X) (hid : List.lookup idt (Mine.hd.heap_39 w.params) = some (tup1 nm tm)) (hnm : nm.length ≤ 5) (hA : 1 ≤ A ∧ A ≤ 5) (hL : 2 ≤ Ln ∧ Ln ≤ 6) (ord2 : @LT.lt Nat _ X fx ∧ @LT.lt Nat _ X fxd ∧ @LT.lt Nat _ X it ∧ @LT.lt Nat _ X itd)
    (hd : dp + 14 < recursionLimit) (hu : un + 110 < cLine)
    (h : ∀ (D : Addr) (dw : Addr) (v : Value) (tr : Tok) (t' : Tok) tk' h' esS' nS' esX' nX', Fr h₀ L h' m → News h₀ L h' ((D, wsO dw v (if A - cnt sg t (keyF nm A Ln) > 0 then A - cnt sg t (keyF nm A Ln) else 0) tr) :: (dw, dictOf [] 0) :: ((S, cntO dS esS' nS') :: (X, dictOf esX' nX') :: (st, instObj 912 sd) :: (sd, stD w k1 k2 k3 k4 lam S X EV) :: (dS, dictOf [] 0) :: (lam, lamO qual cell c' pm ctv) :: (c', oc) :: (cell, oCell) :: (EV, dictOf [] nE) :: (now, listOf #[.int t tt] nn) :: (fx, instObj 241 fxd) :: (fxd, dictOf [⟨PyData.keyHash w.params (Str.ofString "storage"), .str (Str.ofString "storage") kso, .ref st⟩] nk) :: (it, itO itd A Ln ta tl tn) :: (itd, dictOf [] 0) :: rest)) → @LT.lt Nat _ X dw → @LT.lt Nat _ dw D → StRep w esS' esX' sg t n → Q (.ref D) { s with heap := h', toks := tk' }) :
    wpAny (model pg w) (ktrTop dp un gd cn cs L a ccd cl outer) (call (.ref 238) [.ref fx, .ref it, .ref idt]) Q E s := by
  have lS : @LT.lt Nat _ 1 S := by omega
  have lX : @LT.lt Nat _ 1 X := by omega
  refine wpAny_call ?_
  (refine' code_def ?k1 ?k2 ?k3 ?k4 ?k5 ?kA ?kF ?kK ?k6 ?k7 ?k8 ?k9 ?kB ?_ ?c2 ?c3 ?c4 ?c5; (case kA => exact rfl); (case kF => exact rfl); (case kK => assumption); (case k1 => k_asm); (case k2 => k_asm); (case k3 => k_asm); (case k4 => k_asm); (case k5 => k_asm); (case k6 => k_is); (case k7 => k_is); (case k8 => ktr_room); (case k9 => first | exact BindsTo.of_eq rfl | exact binds_K (by k_in) rfl (by k_is) rfl rfl rfl); (case c5 => decide); (case kB => exact locs rfl); (case c2 => exact rfl); (case c3 => exact rfl); (case c4 => exact rfl); k_whole; intro g' L' h' FG' F' N' B' X' T'; (try dsimp only); (try k_fold))
  repeat' (first | (k_unfold; (try dsimp only)) | (k_end; wrow_close) | walk1 | (dsimp only; walk1) | (leave1; try dsimp only))
  exact h _ _ _ _ 0 _ _ _ _ _ _ (by k_asm) (news_of (by k_asm) (fun q hq => by
    rcases List.mem_cons.mp hq with rfl | hq
    · exact .head _
    rcases List.mem_cons.mp hq with rfl | hq
    · exact .tail _ (.head _)
    exact .tail _ (.tail _ (.tail _ (.tail _ hq))))) (by omega) (by omega) (by assumption)

theorem fst_m {dp un : Nat} {gd : Option (List Code)} {cn : Str} {cs : Scope} {a : Addr} {ccd : Value} {cl : List (Str × Addr)} {outer : List Env} {A₀ : Around} {base h₀ : Heap} {L : Addr} {m : Str → Option Value} {s : Shared} {Q E : Value → Shared → Prop} {st sd S dS X EV lam cell c' now : Addr} {k1 k2 k3 k4 tq tt : Tok} {qual : Str} {pm ctv : Value} {oc oCell : Obj} {vs : Array Value} {esS esX : List DictEntry} {nS nX nn nE n : Nat} {sg : Str → Option (Int × Int)} {t : Int} {news : List (Addr × Obj)} {g1 : Obj → List (Addr × Obj)} {g2 : Obj → Obj → List (Addr × Obj)} {fx fxd it itd idt : Addr} {nm : Str} {kso tm ta tl tn : Tok} {A Ln : Int} {nk : Nat}
    (B : Below A₀ base outer h₀) (F : Fr h₀ L s.heap m) (KX : (Mine.hd.heap_39 w.params).In h₀) (T : Top p loose mean mg mb h₀) (hk : cs.kind = .function)
    (N : News h₀ L s.heap news) (U1 : UpdF S (cntO dS esS nS) news g1) (U2 : ∀ o, UpdF X (dictOf esX nX) (g1 o) (g2 o)) (i0 : (st, instObj 912 sd) ∈ news) (i1 : (sd, stD w k1 k2 k3 k4 lam S X EV) ∈ news) (i2 : (dS, dictOf [] 0) ∈ news) (i3 : (lam, lamO qual cell c' pm ctv) ∈ news) (i4 : (c', oc) ∈ news) (i5 : (cell, oCell) ∈ news) (i6 : (EV, dictOf [] nE) ∈ news) (i7 : (now, listOf #[.int t tt] nn) ∈ news) (i8 : (fx, instObj 241 fxd) ∈ news) (i9 : (fxd, dictOf [⟨PyData.keyHash w.params (Str.ofString "storage"), .str (Str.ofString "storage") kso, .ref st⟩] nk) ∈ news) (i10 : (it, itO itd A Ln ta tl tn) ∈ news) (i11 : (itd, dictOf [] 0) ∈ news)
    (R : StRep w esS esX sg t n) (hn : n ≤ 900) (ht : 0 ≤ t) (ord : @LT.lt Nat _ 1 cell ∧ @LT.lt Nat _ cell now ∧ @LT.lt Nat _ now c' ∧ @LT.lt Nat _ c' lam ∧ @LT.lt Nat _ lam sd ∧ @LT.lt Nat _ sd st ∧ @LT.lt Nat _ st dS ∧ @LT.lt Nat _ dS S ∧ @LT.lt Nat _ S X ∧ @LT.lt Nat _ X EV) (hc : oCell.data = .cell (some (.ref now))) (hc1 : oc.data = .fields vs) (hc2 : vs[1]? = some (.str qual tq)) (hid : List.lookup idt (Mine.hd.heap_39 w.params) = some (tup1 nm tm)) (hnm : nm.length ≤ 5) (hA : 1 ≤ A ∧ A ≤ 5) (hL : 2 ≤ Ln ∧ Ln ≤ 6) (ord2 : @LT.lt Nat _ X fx ∧ @LT.lt Nat _ X fxd ∧ @LT.lt Nat _ X it ∧ @LT.lt Nat _ X itd)
    (hd : dp + 14 < recursionLimit) (hu : un + 110 < cLine)
    (h : ∀ (D : Addr) (dw : Addr) (v : Value) (tr : Tok) (t' : Tok) tk' h' esS' nS' esX' nX', Fr h₀ L h' m → News h₀ L h' ((D, wsO dw v (if A - cnt sg t (keyF nm A Ln) > 0 then A - cnt sg t (keyF nm A Ln) else 0) tr) :: (dw, dictOf [] 0) :: (g2 (cntO dS esS' nS') (dictOf esX' nX'))) → @LT.lt Nat _ X dw → @LT.lt Nat _ dw D → StRep w esS' esX' sg t n → Q (.ref D) { s with heap := h', toks := tk' }) :
    wpAny (model pg w) (ktrTop dp un gd cn cs L a ccd cl outer) (call (.ref 238) [.ref fx, .ref it, .ref idt]) Q E s := by
  obtain ⟨rest, rS, rX, jS, jX, jr, jb⟩ := adapt U1 U2
  have N1 : News h₀ L s.heap ((S, cntO dS esS nS) :: (X, dictOf esX nX) :: (st, instObj 912 sd) :: (sd, stD w k1 k2 k3 k4 lam S X EV) :: (dS, dictOf [] 0) :: (lam, lamO qual cell c' pm ctv) :: (c', oc) :: (cell, oCell) :: (EV, dictOf [] nE) :: (now, listOf #[.int t tt] nn) :: (fx, instObj 241 fxd) :: (fxd, dictOf [⟨PyData.keyHash w.params (Str.ofString "storage"), .str (Str.ofString "storage") kso, .ref st⟩] nk) :: (it, itO itd A Ln ta tl tn) :: (itd, dictOf [] 0) :: rest) := news_of N (by
    intro q hq
    simp only [List.mem_cons] at hq
    rcases hq with rfl | rfl | rfl | rfl | rfl | rfl | rfl | rfl | rfl | rfl | rfl | rfl | rfl | rfl | hq <;> first | with_reducible assumption | exact jr _ hq)
  refine fst_c B F KX T hk N1 R hn ht ord hc hc1 hc2 rS rX hid hnm hA hL ord2 hd hu ?_
  intro D dw v tr t' tk' h' esS' nS' esX' nX' F' N'
  exact h D dw v tr t' tk' h' esS' nS' esX' nX' F' (news_of N' (fun q hq => by
    rcases List.mem_cons.mp hq with rfl | hq
    · exact .head _
    refine List.mem_cons_of_mem _ ?_
    rcases List.mem_cons.mp hq with rfl | hq
    · exact .head _
    refine List.mem_cons_of_mem _ ?_
    rcases jb _ _ q hq with rfl | rfl | hq
    · exact .head _
    · exact .tail _ (.head _)
    · simp only [List.mem_cons]; repeat' (first | exact .inr hq | refine .inr ?_)))
end
end Mine
end CFst

section CRem
theorem Mine.top_CRem : True := by
  w_top off
  trivial
open PySem PySem.W PyProof.Rows
namespace Mine
open PySem PySem.Calls
local macro_rules | `(tactic| k_room) => `(tactic| ktr_room)
local macro_rules | `(tactic| k_units) => `(tactic| ktr_units)
local macro_rules | `(tactic| walk_at "getMethod ref") => `(tactic| (k_here; (with_reducible show wpAny _ _ (getMethod (Value.ref _) (PySem.Str.ofString "clock") _) _ _ _); k_dflt (refine' kmu_own ?k1 ?k2 ?k3 ?k4 ?k5 ?_; (case k1 => k_asm); (case k2 => k_asm); (case k3 => k_inst); (case k4 => k_is); (case k5 => k_is); k_whole)))
local macro_rules | `(tactic| walk_at "callWith ref nil nil") => `(tactic| (k_here; (fail_if_success (with_reducible show wpAny _ _ (callWith _ (Value.ref 483) _ _ _) _ _ _)); (fail_if_success (with_reducible show wpAny _ _ (callWith _ (Value.ref 171) _ _ _) _ _ _)); k_dflt (refine' callWith_lam ?k1 ?k2 ?_; (case k1 => k_asm); (case k2 => k_mem); k_whole)))
local macro_rules | `(tactic| walk_at "call ref nil") => `(tactic| (k_here; k_dflt (refine' clock_m ?k1 ?k2 ?k3 ?k4 ?k5 ?k6 ?m1 ?m2 ?m3 ?m4 ?c1 ?c2 ?c3 ?d1 ?d2 ?_; (case k1 => k_asm); (case k2 => k_asm); (case k3 => k_asm); (case k4 => k_asm); (case k5 => first | exact rfl | assumption); (case k6 => k_asm); (case m1 => k_mem); (case m2 => k_mem); (case m3 => k_mem); (case m4 => k_mem); (case c1 => k_asm); (case c2 => k_asm); (case c3 => k_asm); (case d1 => ktr_room); (case d2 => ktr_units); k_whole; intro t' h' tk' F' N')))
section
variable {w : World} {p : Program} {loose : List Str} {mean : ExcName → Option Value} {mg mb : Str → Option Value}
theorem k171a : findIn (KK w) (.ref 171) "__getattribute__" = some (some (.builtin "tuple.__getattribute__")) := by kernel_rfl
theorem k171b : findIn (KK w) (.ref 171) "__getattr__" = some none := by kernel_rfl
theorem k171c : mroIn (KK w) 171 (.type "tuple") = some true := by kernel_rfl
theorem k171d : findObj (KK w) 171 (some (dictOf [] 0)) "remaining" = some (.bind (.ref 82) (.ref 166)) := by kernel_rfl
theorem inWs {h h₀ : Heap} {L D dw : Addr} {v : Value} {r : Int} {tr : Tok} {news : List (Addr × Obj)} (N : News h₀ L h news) (i1 : (D, wsO dw v r tr) ∈ news) (i2 : (dw, dictOf [] 0) ∈ news) : W.InstAt h D (wsO dw v r tr) 171 (some (dictOf [] 0)) := ⟨(N _ i1).1, rfl, rfl, (N _ i2).1⟩
theorem rem_get {A : Around} {s : Shared} {h₀ : Heap} {L D dw : Addr} {m : Str → Option Value} {v : Value} {r : Int} {tr : Tok} {news : List (Addr × Obj)} {Q E : Value → Shared → Prop} {expr : Bool} (F : Fr h₀ L s.heap m) (X₀ : (KK w).In h₀) (N : News h₀ L s.heap news) (i1 : (D, wsO dw v r tr) ∈ news) (i2 : (dw, dictOf [] 0) ∈ news)
    (h : wpAny (model pg w) A.in1 (call (.ref 82) [.ref 166, .ref D, .ref 171]) (fun v s' => wpAny (model pg w) A (handedOut v) Q E s') (fun _ _ => False) { s with toks := s.toks + 1 }) :
    wpAny (model pg w) A (getAttr (.ref D) "remaining" expr) Q E s := get_tup (X₀.keeps F.keep) (inWs N i1 i2) k171a k171b k171c k171d h
theorem tgiW {A : Around} {E : Value → Shared → Prop} {s : Shared} {h₀ : Heap} {L D dw : Addr} {v : Value} {r : Int} {tr tk : Tok} {news : List (Addr × Obj)} {Q : Value → Shared → Prop} (X : (KK w).In s.heap) (N : News h₀ L s.heap news) (i1 : (D, wsO dw v r tr) ∈ news) (i2 : (dw, dictOf [] 0) ∈ news) (h : Q (.int r tr) s) :
    wpAny (model pg w) A (call (.builtin "tuple.__getitem__") [.ref D, .int 1 tk]) Q E s := by
  have L0 := (inWs N i1 i2).type (M := model pg w)
  have L4 : Looks (model pg w) s.heap (isInstance (.ref D) (.type "tuple")) true := L0.andThen (looks_mroIn X k171c)
  refine wpAny_call (codeAny_call_builtin PySem.F.slot_tuple_getitem.plain PySem.F.entry_tuple_getitem ?_)
  refine @check_slot (model pg w) _ _ _ "tuple.__getitem__" "tuple" "__getitem__" (.ref D) [.int 1 tk] [] _ (by decide +kernel) (by decide +kernel) L4 (PySem.F.args_tuple_getitem_2 _ _) ?_
  show wpAny _ _ (Builtin.Tuple.tupleItemsOf (.ref D) >>= _) _ _ s
  refine wpAny_bind (wpAny_tupleItemsOf (N _ i1).1 rfl ?_)
  refine wpAny_bind (wpAny_typeOf (typeIs_int s 1 tk) ?_)
  rw [if_neg (by decide)]
  refine wpAny_bind (wpAny_specialOf (T := "int") (typeIs_int s 1 tk) PySem.int_index ?_)
  rw [if_neg (by simp)]
  refine wpAny_bind (wpAny_of_eq (a := 1) rfl ?_)
  rw [if_neg (by decide)]
  exact wpAny_pure h
local macro_rules | `(tactic| walk_at "getMethod type:tuple") => `(tactic| (k_here; k_dflt (refine' meth_tup ?k1 ?k2 ?_; (case k1 => k_asm); (case k2 => k_asm); k_whole)))
local macro_rules | `(tactic| walk_at "call type:type") => `(tactic| (k_here; (with_reducible show wpAny _ _ (call (Value.type "type") [Value.ref _]) _ _ _); k_dflt (refine' kto_own (inWs ?k1 ?k2 ?k3) ?_; (case k1 => k_asm); (case k2 => k_mem); (case k3 => k_mem); k_whole)))
local macro_rules | `(tactic| walk_at "call builtin:issubclass") => `(tactic| (k_here; k_dflt (refine' issub171 (Frag.In.keeps ?k1 (Fr.keep ?k2)) ?_; (case k1 => k_asm); (case k2 => k_asm); k_whole)))
local macro_rules | `(tactic| walk_at "call builtin:tuple.__getitem__") => `(tactic| (k_here; k_dflt (refine' tgiW (Frag.In.keeps ?k1 (Fr.keep ?k2)) ?k3 ?k4 ?k5 ?_; (case k1 => k_asm); (case k2 => k_asm); (case k3 => k_asm); (case k4 => k_mem); (case k5 => k_mem); k_whole)))
set_option maxHeartbeats 8000000 in
theorem rem_m {dp un : Nat} {gd : Option (List Code)} {cn : Str} {cs : Scope} {a : Addr} {ccd : Value} {cl : List (Str × Addr)} {outer : List Env} {A₀ : Around} {base h₀ : Heap} {L : Addr} {m : Str → Option Value} {s : Shared} {Q E : Value → Shared → Prop} {D dw : Addr} {v : Value} {r : Int} {tr : Tok} {news : List (Addr × Obj)} {expr : Bool}
    (B : Below A₀ base outer h₀) (F : Fr h₀ L s.heap m) (KX : (Mine.hd.heap_39 w.params).In h₀) (T : Top p loose mean mg mb h₀) (hk : cs.kind = .function) (N : News h₀ L s.heap news) (i1 : (D, wsO dw v r tr) ∈ news) (i2 : (dw, dictOf [] 0) ∈ news) (hd : dp + 5 < recursionLimit) (hu : un + 20 < cLine)
    (h : ∀ tk' h', Fr h₀ L h' m → News h₀ L h' news → Q (.int r tr) { s with heap := h', toks := tk' }) :
    wpAny (model pg w) (ktrTop dp un gd cn cs L a ccd cl outer) (getAttr (.ref D) "remaining" expr) Q E s := by
  have N1 : News h₀ L s.heap ((D, wsO dw v r tr) :: (dw, dictOf [] 0) :: news) := nadd (nadd N i2) (.tail _ i1)
  refine rem_get F KX N1 (.head _) (.tail _ (.head _)) ?_
  refine wpAny_call ?_
  (refine' code_def ?k1 ?k2 ?k3 ?k4 ?k5 ?kA ?kF ?kK ?k6 ?k7 ?k8 ?k9 ?kB ?_ ?c2 ?c3 ?c4 ?c5; (case kA => exact rfl); (case kF => exact rfl); (case kK => assumption); (case k1 => k_asm); (case k2 => k_asm); (case k3 => k_asm); (case k4 => k_asm); (case k5 => k_asm); (case k6 => k_is); (case k7 => k_is); (case k8 => ktr_room); (case k9 => first | exact BindsTo.of_eq rfl | exact binds_K (by k_in) rfl (by k_is) rfl rfl rfl); (case c5 => decide); (case kB => exact locs rfl); (case c2 => exact rfl); (case c3 => exact rfl); (case c4 => exact rfl); k_whole; intro g' L' h' FG' F' N' B' X' T'; (try dsimp only); (try k_fold))
  repeat' (first | (k_unfold; (try dsimp only)) | (k_end; wrow_close) | walk1 | (dsimp only; walk1) | (leave1; try dsimp only))
  exact h _ _ (by k_asm) (nless (nless (by k_asm)))
end
end Mine
end CRem

section CInf
theorem Mine.top_CInf : True := by
  w_top off
  trivial
open PySem PySem.W PyProof.Rows
namespace Mine
open PySem PySem.Calls
local macro_rules | `(tactic| k_room) => `(tactic| ktr_room)
local macro_rules | `(tactic| k_units) => `(tactic| ktr_units)
local macro_rules | `(tactic| walk_at "getMethod ref") => `(tactic| (k_here; (with_reducible show wpAny _ _ (getMethod (Value.ref _) (PySem.Str.ofString "clock") _) _ _ _); k_dflt (refine' kmu_own ?k1 ?k2 ?k3 ?k4 ?k5 ?_; (case k1 => k_asm); (case k2 => k_asm); (case k3 => k_inst); (case k4 => k_is); (case k5 => k_is); k_whole)))
local macro_rules | `(tactic| walk_at "callWith ref nil nil") => `(tactic| (k_here; (fail_if_success (with_reducible show wpAny _ _ (callWith _ (Value.ref 483) _ _ _) _ _ _)); (fail_if_success (with_reducible show wpAny _ _ (callWith _ (Value.ref 171) _ _ _) _ _ _)); k_dflt (refine' callWith_lam ?k1 ?k2 ?_; (case k1 => k_asm); (case k2 => k_mem); k_whole)))
local macro_rules | `(tactic| walk_at "call ref nil") => `(tactic| (k_here; k_dflt (refine' clock_m ?k1 ?k2 ?k3 ?k4 ?k5 ?k6 ?m1 ?m2 ?m3 ?m4 ?c1 ?c2 ?c3 ?d1 ?d2 ?_; (case k1 => k_asm); (case k2 => k_asm); (case k3 => k_asm); (case k4 => k_asm); (case k5 => first | exact rfl | assumption); (case k6 => k_asm); (case m1 => k_mem); (case m2 => k_mem); (case m3 => k_mem); (case m4 => k_mem); (case c1 => k_asm); (case c2 => k_asm); (case c3 => k_asm); (case d1 => ktr_room); (case d2 => ktr_units); k_whole; intro t' h' tk' F' N')))
local macro_rules | `(tactic| walk_at "call ref") => `(tactic| (k_here; k_dflt (show wpAny _ _ (call (Value.ref 837) [Value.ref _, Value.str _ _] []) _ _ _); k_dflt (refine' get_m ?k1 ?k2 ?k3 ?k4 ?k5 ?k6 ?u1 ?u2 ?i0 ?i1 ?i2 ?i3 ?i4 ?i5 ?i6 ?i7 ?r1 ?r2 ?r3 ?s1 ?s2 ?s3 ?s4  ?d1 ?d2 ?_; (case k1 => k_asm); (case k2 => k_asm); (case k3 => k_asm); (case k4 => k_asm); (case k5 => first | exact rfl | assumption); (case k6 => k_asm); (case i0 => k_mem); (case i1 => k_mem); (case i3 => k_mem); (case i4 => k_mem); (case i5 => k_mem); (case s2 => k_asm); (case s3 => k_asm); (case s4 => k_asm); (case i7 => k_mem); (case u1 => k_updF); (case i2 => k_mem); (case i6 => k_mem); (case u2 => (intro o; (try dsimp only); k_updF)); (case r1 => k_asm); (case r2 => omega); (case r3 => omega); (case s1 => k_asm); (case d1 => ktr_room); (case d2 => ktr_units); k_whole; intro t' tk' h' esS' nS' esX' nX' F' N' R'; (try dsimp only at N'); have R2 := StRepK.rep R')))
abbrev tup4 (a b c d : Int) (t1 t2 t3 t4 : Tok) : Obj := { cls := .type "tuple", data := .seq #[.int a t1, .int b t2, .int c t3, .int d t4] 0 }
section
variable {w : World} {p : Program} {loose : List Str} {mean : ExcName → Option Value} {mg mb : Str → Option Value}
set_option maxHeartbeats 8000000 in
theorem inf_c {dp un : Nat} {gd : Option (List Code)} {cn : Str} {cs : Scope} {a : Addr} {ccd : Value} {cl : List (Str × Addr)} {outer : List Env} {A₀ : Around} {base h₀ : Heap} {L : Addr} {m : Str → Option Value} {s : Shared} {Q E : Value → Shared → Prop} {st sd S dS X EV lam cell c' now : Addr} {k1 k2 k3 k4 tq tt : Tok} {qual : Str} {pm ctv : Value} {oc oCell : Obj} {vs : Array Value} {esS esX : List DictEntry} {nS nX nn nE n : Nat} {sg : Str → Option (Int × Int)} {t : Int} {rest : List (Addr × Obj)} {pk ck : Str} {tp tc tl tn : Tok} {Ln : Int}
    (B : Below A₀ base outer h₀) (F : Fr h₀ L s.heap m) (KX : (Mine.hd.heap_39 w.params).In h₀) (T : Top p loose mean mg mb h₀) (hk : cs.kind = .function)
    (N : News h₀ L s.heap ((S, cntO dS esS nS) :: (X, dictOf esX nX) :: (st, instObj 912 sd) :: (sd, stD w k1 k2 k3 k4 lam S X EV) :: (dS, dictOf [] 0) :: (lam, lamO qual cell c' pm ctv) :: (c', oc) :: (cell, oCell) :: (EV, dictOf [] nE) :: (now, listOf #[.int t tt] nn) :: rest))
    (R : StRep w esS esX sg t n) (hn : n ≤ 900) (ht : 0 ≤ t) (ord : @LT.lt Nat _ 1 cell ∧ @LT.lt Nat _ cell now ∧ @LT.lt Nat _ now c' ∧ @LT.lt Nat _ c' lam ∧ @LT.lt Nat _ lam sd ∧ @LT.lt Nat _ sd st ∧ @LT.lt Nat _ st dS ∧ @LT.lt Nat _ dS S ∧ @LT.lt Nat _ S X ∧ @LT.lt Nat _ X EV) (hc : oCell.data = .cell (some (.ref now))) (hc1 : oc.data = .fields vs) (hc2 : vs[1]? = some (.str qual tq)) (rS : ∀ p ∈ rest, p.1 ≠ S) (rX : ∀ p ∈ rest, p.1 ≠ X) (hL : 2 ≤ Ln ∧ Ln ≤ 6) (htt : 10 ≤ t ∧ t ≤ 5000)
    (hd : dp + 8 < recursionLimit) (hu : un + 60 < cLine)
    (h : ∀ (D : Addr) (pt : Int) (ct : Int) (t1 : Tok) (t2 : Tok) (t3 : Tok) (t4 : Tok) (t' : Tok) tk' h' esS' nS' esX' nX', Fr h₀ L h' m → News h₀ L h' ((D, tup4 (cnt sg t pk) pt (cnt sg t ck) ct t1 t2 t3 t4) :: ((S, cntO dS esS' nS') :: (X, dictOf esX' nX') :: (st, instObj 912 sd) :: (sd, stD w k1 k2 k3 k4 lam S X EV) :: (dS, dictOf [] 0) :: (lam, lamO qual cell c' pm ctv) :: (c', oc) :: (cell, oCell) :: (EV, dictOf [] nE) :: (now, listOf #[.int t tt] nn) :: rest)) → pt = (if cnt sg t pk = 0 then 0 else Ln - (t - Ln).fmod Ln) → @LT.lt Nat _ X D → StRep w esS' esX' sg t n → Q (.ref D) { s with heap := h', toks := tk' }) :
    wpAny (model pg w) (ktrTop dp un gd cn cs L a ccd cl outer) (call (.ref 881) [.ref st, .str pk tp, .str ck tc, .int Ln tl, .int t tn]) Q E s := by
  have lS : @LT.lt Nat _ 1 S := by omega
  have lX : @LT.lt Nat _ 1 X := by omega
  refine wpAny_call ?_
  (refine' code_def ?k1 ?k2 ?k3 ?k4 ?k5 ?kA ?kF ?kK ?k6 ?k7 ?k8 ?k9 ?kB ?_ ?c2 ?c3 ?c4 ?c5; (case kA => exact rfl); (case kF => exact rfl); (case kK => assumption); (case k1 => k_asm); (case k2 => k_asm); (case k3 => k_asm); (case k4 => k_asm); (case k5 => k_asm); (case k6 => k_is); (case k7 => k_is); (case k8 => ktr_room); (case k9 => first | exact BindsTo.of_eq rfl | exact binds_K (by k_in) rfl (by k_is) rfl rfl rfl); (case c5 => decide); (case kB => exact locs rfl); (case c2 => exact rfl); (case c3 => exact rfl); (case c4 => exact rfl); k_whole; intro g' L' h' FG' F' N' B' X' T'; (try dsimp only); (try k_fold))
  repeat' (first | (k_unfold; (try dsimp only)) | (k_end; wrow_close) | walk1 | (dsimp only; walk1) | (leave1; try dsimp only))
  · exact h _ _ _ _ _ _ _ 0 _ _ _ _ _ _ (by k_asm) (by k_asm) (if_pos (by assumption)).symm (by omega) (by assumption)
  · exact h _ _ _ _ _ _ _ 0 _ _ _ _ _ _ (by k_asm) (by k_asm) (if_neg (by assumption)).symm (by omega) (by assumption)

theorem inf_m {dp un : Nat} {gd : Option (List Code)} {cn : Str} {cs : Scope} {a : Addr} {ccd : Value} {cl : List (Str × Addr)} {outer : List Env} {A₀ : Around} {base h₀ : Heap} {L : Addr} {m : Str → Option Value} {s : Shared} {Q E : Value → Shared → Prop} {st sd S dS X EV lam cell c' now : Addr} {k1 k2 k3 k4 tq tt : Tok} {qual : Str} {pm ctv : Value} {oc oCell : Obj} {vs : Array Value} {esS esX : List DictEntry} {nS nX nn nE n : Nat} {sg : Str → Option (Int × Int)} {t : Int} {news : List (Addr × Obj)} {g1 : Obj → List (Addr × Obj)} {g2 : Obj → Obj → List (Addr × Obj)} {pk ck : Str} {tp tc tl tn : Tok} {Ln : Int}
    (B : Below A₀ base outer h₀) (F : Fr h₀ L s.heap m) (KX : (Mine.hd.heap_39 w.params).In h₀) (T : Top p loose mean mg mb h₀) (hk : cs.kind = .function)
    (N : News h₀ L s.heap news) (U1 : UpdF S (cntO dS esS nS) news g1) (U2 : ∀ o, UpdF X (dictOf esX nX) (g1 o) (g2 o)) (i0 : (st, instObj 912 sd) ∈ news) (i1 : (sd, stD w k1 k2 k3 k4 lam S X EV) ∈ news) (i2 : (dS, dictOf [] 0) ∈ news) (i3 : (lam, lamO qual cell c' pm ctv) ∈ news) (i4 : (c', oc) ∈ news) (i5 : (cell, oCell) ∈ news) (i6 : (EV, dictOf [] nE) ∈ news) (i7 : (now, listOf #[.int t tt] nn) ∈ news)
    (R : StRep w esS esX sg t n) (hn : n ≤ 900) (ht : 0 ≤ t) (ord : @LT.lt Nat _ 1 cell ∧ @LT.lt Nat _ cell now ∧ @LT.lt Nat _ now c' ∧ @LT.lt Nat _ c' lam ∧ @LT.lt Nat _ lam sd ∧ @LT.lt Nat _ sd st ∧ @LT.lt Nat _ st dS ∧ @LT.lt Nat _ dS S ∧ @LT.lt Nat _ S X ∧ @LT.lt Nat _ X EV) (hc : oCell.data = .cell (some (.ref now))) (hc1 : oc.data = .fields vs) (hc2 : vs[1]? = some (.str qual tq)) (hL : 2 ≤ Ln ∧ Ln ≤ 6) (htt : 10 ≤ t ∧ t ≤ 5000)
    (hd : dp + 8 < recursionLimit) (hu : un + 60 < cLine)
    (h : ∀ (D : Addr) (pt : Int) (ct : Int) (t1 : Tok) (t2 : Tok) (t3 : Tok) (t4 : Tok) (t' : Tok) tk' h' esS' nS' esX' nX', Fr h₀ L h' m → News h₀ L h' ((D, tup4 (cnt sg t pk) pt (cnt sg t ck) ct t1 t2 t3 t4) :: (g2 (cntO dS esS' nS') (dictOf esX' nX'))) → pt = (if cnt sg t pk = 0 then 0 else Ln - (t - Ln).fmod Ln) → @LT.lt Nat _ X D → StRep w esS' esX' sg t n → Q (.ref D) { s with heap := h', toks := tk' }) :
    wpAny (model pg w) (ktrTop dp un gd cn cs L a ccd cl outer) (call (.ref 881) [.ref st, .str pk tp, .str ck tc, .int Ln tl, .int t tn]) Q E s := by
  obtain ⟨rest, rS, rX, jS, jX, jr, jb⟩ := adapt U1 U2
  have N1 : News h₀ L s.heap ((S, cntO dS esS nS) :: (X, dictOf esX nX) :: (st, instObj 912 sd) :: (sd, stD w k1 k2 k3 k4 lam S X EV) :: (dS, dictOf [] 0) :: (lam, lamO qual cell c' pm ctv) :: (c', oc) :: (cell, oCell) :: (EV, dictOf [] nE) :: (now, listOf #[.int t tt] nn) :: rest) := news_of N (by
    intro q hq
    simp only [List.mem_cons] at hq
    rcases hq with rfl | rfl | rfl | rfl | rfl | rfl | rfl | rfl | rfl | rfl | hq <;> first | assumption | exact jr _ hq)
  refine inf_c B F KX T hk N1 R hn ht ord hc hc1 hc2 rS rX hL htt hd hu ?_
  intro D pt ct t1 t2 t3 t4 t' tk' h' esS' nS' esX' nX' F' N'
  exact h D pt ct t1 t2 t3 t4 t' tk' h' esS' nS' esX' nX' F' (news_of N' (fun q hq => by
    rcases List.mem_cons.mp hq with rfl | hq
    · exact .head _
    refine List.mem_cons_of_mem _ ?_
    rcases jb _ _ q hq with rfl | rfl | hq
    · exact .head _
    · exact .tail _ (.head _)
    · simp only [List.mem_cons]; repeat' (first | exact .inr hq | refine .inr ?_)))
end
end Mine
end CInf

section CGsw
theorem Mine.top_CGsw : True := by
  w_top off
  trivial
open PySem PySem.W PyProof.Rows
namespace Mine
open PySem PySem.Calls
local macro_rules | `(tactic| k_room) => `(tactic| ktr_room)
local macro_rules | `(tactic| k_units) => `(tactic| ktr_units)
local macro_rules | `(tactic| walk_at "getMethod ref") => `(tactic| (k_here; (with_reducible show wpAny _ _ (getMethod (Value.ref _) (PySem.Str.ofString "clock") _) _ _ _); k_dflt (refine' kmu_own ?k1 ?k2 ?k3 ?k4 ?k5 ?_; (case k1 => k_asm); (case k2 => k_asm); (case k3 => k_inst); (case k4 => k_is); (case k5 => k_is); k_whole)))
local macro_rules | `(tactic| walk_at "callWith ref nil nil") => `(tactic| (k_here; (fail_if_success (with_reducible show wpAny _ _ (callWith _ (Value.ref 483) _ _ _) _ _ _)); (fail_if_success (with_reducible show wpAny _ _ (callWith _ (Value.ref 171) _ _ _) _ _ _)); k_dflt (refine' callWith_lam ?k1 ?k2 ?_; (case k1 => k_asm); (case k2 => k_mem); k_whole)))
local macro_rules | `(tactic| walk_at "call ref nil") => `(tactic| (k_here; k_dflt (refine' clock_m ?k1 ?k2 ?k3 ?k4 ?k5 ?k6 ?m1 ?m2 ?m3 ?m4 ?c1 ?c2 ?c3 ?d1 ?d2 ?_; (case k1 => k_asm); (case k2 => k_asm); (case k3 => k_asm); (case k4 => k_asm); (case k5 => first | exact rfl | assumption); (case k6 => k_asm); (case m1 => k_mem); (case m2 => k_mem); (case m3 => k_mem); (case m4 => k_mem); (case c1 => k_asm); (case c2 => k_asm); (case c3 => k_asm); (case d1 => ktr_room); (case d2 => ktr_units); k_whole; intro t' h' tk' F' N')))
local macro_rules | `(tactic| walk_at "getMethod ref") => `(tactic| (k_here; (with_reducible show wpAny _ _ (getMethod (Value.ref _) (PySem.Str.ofString "sliding_window_keys") _) _ _ _); k_dflt (refine' kmu_cm ?k1 ?k2 ?k3 ?k4 ?k5 ?k6 ?k7 ?k8 ?k9 ?k10 ?k11 ?k12 ?k13 ?_; (case k1 => k_asm); (case k2 => k_asm); (case k3 => k_asm); (case k4 => k_inst); (case k5 => k_is); (case k6 => k_is); (case k7 => k_is); (case k8 => k_is); (case k9 => k_is); (case k10 => k_is); (case k11 => decide +kernel); (case k12 => k_get); (case k13 => k_is); k_whole; intro q' h' F' N' l1; (try k_lt l1); (try k_sweep))))
local macro_rules | `(tactic| walk_at "call ref cons") => `(tactic| (k_here; k_dflt (show wpAny _ _ (call (Value.ref _) [Value.str _ _, Value.int _ _, Value.int _ _]) _ _ _); k_dflt (refine' swk_q ?k1 ?k2 ?k3 ?k4 ?k5 ?k6 ?hq ?a1 ?a2 ?a3 ?d1 ?d2 ?_; (case k1 => k_asm); (case k2 => k_asm); (case k3 => k_asm); (case k4 => k_asm); (case k5 => first | exact rfl | assumption); (case k6 => k_asm); (case hq => k_mem); (case a1 => assumption); (case a2 => assumption); (case a3 => assumption); (case d1 => ktr_room); (case d2 => ktr_units); k_whole; intro pk ck t1 t2 D' tk' h' epk eck F' N' l1; (try k_lt l1))))
local macro_rules | `(tactic| walk_at "call ref") => `(tactic| (k_here; k_dflt (show wpAny _ _ (call (Value.ref 881) [Value.ref _, Value.str _ _, Value.str _ _, Value.int _ _, Value.int _ _] []) _ _ _); k_dflt (refine' inf_m ?k1 ?k2 ?k3 ?k4 ?k5 ?k6 ?u1 ?u2 ?i0 ?i1 ?i2 ?i3 ?i4 ?i5 ?i6 ?i7 ?r1 ?r2 ?r3 ?s1 ?s2 ?s3 ?s4 ?e0 ?e1 ?d1 ?d2 ?_; (case k1 => k_asm); (case k2 => k_asm); (case k3 => k_asm); (case k4 => k_asm); (case k5 => first | exact rfl | assumption); (case k6 => k_asm); (case i0 => k_mem); (case i1 => k_mem); (case i3 => k_mem); (case i4 => k_mem); (case i5 => k_mem); (case s2 => k_asm); (case s3 => k_asm); (case s4 => k_asm); (case i7 => k_mem); (case u1 => k_updF); (case i2 => k_mem); (case i6 => k_mem); (case u2 => (intro o; (try dsimp only); k_updF)); (case r1 => k_asm); (case r2 => omega); (case r3 => omega); (case s1 => k_asm); (case e0 => assumption); (case e1 => assumption); (case d1 => ktr_room); (case d2 => ktr_units); k_whole; intro D' pt' ct' t1' t2' t3' t4' t' tk' h' esS' nS' esX' nX' F' N' ept l1' R'; (try dsimp only at N'))))
section
variable {w : World} {p : Program} {loose : List Str} {mean : ExcName → Option Value} {mg mb : Str → Option Value}
set_option maxHeartbeats 8000000 in
theorem gsw_c {dp un : Nat} {gd : Option (List Code)} {cn : Str} {cs : Scope} {a : Addr} {ccd : Value} {cl : List (Str × Addr)} {outer : List Env} {A₀ : Around} {base h₀ : Heap} {L : Addr} {m : Str → Option Value} {s : Shared} {Q E : Value → Shared → Prop} {st sd S dS X EV lam cell c' now : Addr} {k1 k2 k3 k4 tq tt : Tok} {qual : Str} {pm ctv : Value} {oc oCell : Obj} {vs : Array Value} {esS esX : List DictEntry} {nS nX nn nE n : Nat} {sg : Str → Option (Int × Int)} {t : Int} {rest : List (Addr × Obj)} {key : Str} {tk tl : Tok} {Ln : Int}
    (B : Below A₀ base outer h₀) (F : Fr h₀ L s.heap m) (KX : (Mine.hd.heap_39 w.params).In h₀) (T : Top p loose mean mg mb h₀) (hk : cs.kind = .function)
    (N : News h₀ L s.heap ((S, cntO dS esS nS) :: (X, dictOf esX nX) :: (st, instObj 912 sd) :: (sd, stD w k1 k2 k3 k4 lam S X EV) :: (dS, dictOf [] 0) :: (lam, lamO qual cell c' pm ctv) :: (c', oc) :: (cell, oCell) :: (EV, dictOf [] nE) :: (now, listOf #[.int t tt] nn) :: rest))
    (R : StRep w esS esX sg t n) (hn : n ≤ 900) (ht : 0 ≤ t) (ord : @LT.lt Nat _ 1 cell ∧ @LT.lt Nat _ cell now ∧ @LT.lt Nat _ now c' ∧ @LT.lt Nat _ c' lam ∧ @LT.lt Nat _ lam sd ∧ @LT.lt Nat _ sd st ∧ @LT.lt Nat _ st dS ∧ @LT.lt Nat _ dS S ∧ @LT.lt Nat _ S X ∧ @LT.lt Nat _ X EV) (hc : oCell.data = .cell (some (.ref now))) (hc1 : oc.data = .fields vs) (hc2 : vs[1]? = some (.str qual tq)) (rS : ∀ p ∈ rest, p.1 ≠ S) (rX : ∀ p ∈ rest, p.1 ≠ X) (hL : 2 ≤ Ln ∧ Ln ≤ 6) (htt : 10 ≤ t ∧ t ≤ 5000) (hkl : key.length ≤ 60)
    (hd : dp + 12 < recursionLimit) (hu : un + 90 < cLine)
    (h : ∀ (D : Addr) (pt : Int) (ct : Int) (t1 : Tok) (t2 : Tok) (t3 : Tok) (t4 : Tok) (t' : Tok) tk' h' esS' nS' esX' nX', Fr h₀ L h' m → News h₀ L h' ((D, tup4 (cnt sg t (prvK key t Ln)) pt (cnt sg t (curK key t Ln)) ct t1 t2 t3 t4) :: ((S, cntO dS esS' nS') :: (X, dictOf esX' nX') :: (st, instObj 912 sd) :: (sd, stD w k1 k2 k3 k4 lam S X EV) :: (dS, dictOf [] 0) :: (lam, lamO qual cell c' pm ctv) :: (c', oc) :: (cell, oCell) :: (EV, dictOf [] nE) :: (now, listOf #[.int t tt] nn) :: rest)) → pt = (if cnt sg t (prvK key t Ln) = 0 then 0 else Ln - (t - Ln).fmod Ln) → @LT.lt Nat _ X D → StRep w esS' esX' sg t n → Q (.ref D) { s with heap := h', toks := tk' }) :
    wpAny (model pg w) (ktrTop dp un gd cn cs L a ccd cl outer) (call (.ref 888) [.ref st, .str key tk, .int Ln tl]) Q E s := by
  have lS : @LT.lt Nat _ 1 S := by omega
  have lX : @LT.lt Nat _ 1 X := by omega
  refine wpAny_call ?_
  (refine' code_def ?k1 ?k2 ?k3 ?k4 ?k5 ?kA ?kF ?kK ?k6 ?k7 ?k8 ?k9 ?kB ?_ ?c2 ?c3 ?c4 ?c5; (case kA => exact rfl); (case kF => exact rfl); (case kK => assumption); (case k1 => k_asm); (case k2 => k_asm); (case k3 => k_asm); (case k4 => k_asm); (case k5 => k_asm); (case k6 => k_is); (case k7 => k_is); (case k8 => ktr_room); (case k9 => first | exact BindsTo.of_eq rfl | exact binds_K (by k_in) rfl (by k_is) rfl rfl rfl); (case c5 => decide); (case kB => exact locs rfl); (case c2 => exact rfl); (case c3 => exact rfl); (case c4 => exact rfl); k_whole; intro g' L' h' FG' F' N' B' X' T'; (try dsimp only); (try k_fold))
  repeat' (first | (k_unfold; (try dsimp only)) | (k_end; wrow_close) | walk1 | (dsimp only; walk1) | (leave1; try dsimp only))
  have e1 := ‹_ = prvK key t Ln›
  have e2 := ‹_ = curK key t Ln›
  subst e1
  subst e2
  exact h _ _ _ _ _ _ _ 0 _ _ _ _ _ _ (by k_asm) (news_of (by k_asm) (fun q hq => by
    rcases List.mem_cons.mp hq with rfl | hq
    · exact .head _
    exact .tail _ (.tail _ (.tail _ hq)))) (by assumption) (by omega) (by assumption)

theorem gsw_m {dp un : Nat} {gd : Option (List Code)} {cn : Str} {cs : Scope} {a : Addr} {ccd : Value} {cl : List (Str × Addr)} {outer : List Env} {A₀ : Around} {base h₀ : Heap} {L : Addr} {m : Str → Option Value} {s : Shared} {Q E : Value → Shared → Prop} {st sd S dS X EV lam cell c' now : Addr} {k1 k2 k3 k4 tq tt : Tok} {qual : Str} {pm ctv : Value} {oc oCell : Obj} {vs : Array Value} {esS esX : List DictEntry} {nS nX nn nE n : Nat} {sg : Str → Option (Int × Int)} {t : Int} {news : List (Addr × Obj)} {g1 : Obj → List (Addr × Obj)} {g2 : Obj → Obj → List (Addr × Obj)} {key : Str} {tk tl : Tok} {Ln : Int}
    (B : Below A₀ base outer h₀) (F : Fr h₀ L s.heap m) (KX : (Mine.hd.heap_39 w.params).In h₀) (T : Top p loose mean mg mb h₀) (hk : cs.kind = .function)
    (N : News h₀ L s.heap news) (U1 : UpdF S (cntO dS esS nS) news g1) (U2 : ∀ o, UpdF X (dictOf esX nX) (g1 o) (g2 o)) (i0 : (st, instObj 912 sd) ∈ news) (i1 : (sd, stD w k1 k2 k3 k4 lam S X EV) ∈ news) (i2 : (dS, dictOf [] 0) ∈ news) (i3 : (lam, lamO qual cell c' pm ctv) ∈ news) (i4 : (c', oc) ∈ news) (i5 : (cell, oCell) ∈ news) (i6 : (EV, dictOf [] nE) ∈ news) (i7 : (now, listOf #[.int t tt] nn) ∈ news)
    (R : StRep w esS esX sg t n) (hn : n ≤ 900) (ht : 0 ≤ t) (ord : @LT.lt Nat _ 1 cell ∧ @LT.lt Nat _ cell now ∧ @LT.lt Nat _ now c' ∧ @LT.lt Nat _ c' lam ∧ @LT.lt Nat _ lam sd ∧ @LT.lt Nat _ sd st ∧ @LT.lt Nat _ st dS ∧ @LT.lt Nat _ dS S ∧ @LT.lt Nat _ S X ∧ @LT.lt Nat _ X EV) (hc : oCell.data = .cell (some (.ref now))) (hc1 : oc.data = .fields vs) (hc2 : vs[1]? = some (.str qual tq)) (hL : 2 ≤ Ln ∧ Ln ≤ 6) (htt : 10 ≤ t ∧ t ≤ 5000) (hkl : key.length ≤ 60)
    (hd : dp + 12 < recursionLimit) (hu : un + 90 < cLine)
    (h : ∀ (D : Addr) (pt : Int) (ct : Int) (t1 : Tok) (t2 : Tok) (t3 : Tok) (t4 : Tok) (t' : Tok) tk' h' esS' nS' esX' nX', Fr h₀ L h' m → News h₀ L h' ((D, tup4 (cnt sg t (prvK key t Ln)) pt (cnt sg t (curK key t Ln)) ct t1 t2 t3 t4) :: (g2 (cntO dS esS' nS') (dictOf esX' nX'))) → pt = (if cnt sg t (prvK key t Ln) = 0 then 0 else Ln - (t - Ln).fmod Ln) → @LT.lt Nat _ X D → StRep w esS' esX' sg t n → Q (.ref D) { s with heap := h', toks := tk' }) :
    wpAny (model pg w) (ktrTop dp un gd cn cs L a ccd cl outer) (call (.ref 888) [.ref st, .str key tk, .int Ln tl]) Q E s := by
  obtain ⟨rest, rS, rX, jS, jX, jr, jb⟩ := adapt U1 U2
  have N1 : News h₀ L s.heap ((S, cntO dS esS nS) :: (X, dictOf esX nX) :: (st, instObj 912 sd) :: (sd, stD w k1 k2 k3 k4 lam S X EV) :: (dS, dictOf [] 0) :: (lam, lamO qual cell c' pm ctv) :: (c', oc) :: (cell, oCell) :: (EV, dictOf [] nE) :: (now, listOf #[.int t tt] nn) :: rest) := news_of N (by
    intro q hq
    simp only [List.mem_cons] at hq
    rcases hq with rfl | rfl | rfl | rfl | rfl | rfl | rfl | rfl | rfl | rfl | hq <;> first | with_reducible assumption | exact jr _ hq)
  refine gsw_c B F KX T hk N1 R hn ht ord hc hc1 hc2 rS rX hL htt hkl hd hu ?_
  intro D pt ct t1 t2 t3 t4 t' tk' h' esS' nS' esX' nX' F' N'
  exact h D pt ct t1 t2 t3 t4 t' tk' h' esS' nS' esX' nX' F' (news_of N' (fun q hq => by
    rcases List.mem_cons.mp hq with rfl | hq
    · exact .head _
    refine List.mem_cons_of_mem _ ?_
    rcases jb _ _ q hq with rfl | rfl | hq
    · exact .head _
    · exact .tail _ (.head _)
    · simp only [List.mem_cons]; repeat' (first | exact .inr hq | refine .inr ?_)))
end
end Mine
end CGsw

section CSst
theorem Mine.top_CSst : True := by
  w_top off
  trivial
open PySem PySem.W PyProof.Rows
namespace Mine
open PySem PySem.Calls
local macro_rules | `(tactic| k_room) => `(tactic| ktr_room)
local macro_rules | `(tactic| k_units) => `(tactic| ktr_units)
local macro_rules | `(tactic| walk_at "getMethod ref") => `(tactic| (k_here; (with_reducible show wpAny _ _ (getMethod (Value.ref _) (PySem.Str.ofString "clock") _) _ _ _); k_dflt (refine' kmu_own ?k1 ?k2 ?k3 ?k4 ?k5 ?_; (case k1 => k_asm); (case k2 => k_asm); (case k3 => k_inst); (case k4 => k_is); (case k5 => k_is); k_whole)))
local macro_rules | `(tactic| walk_at "callWith ref nil nil") => `(tactic| (k_here; (fail_if_success (with_reducible show wpAny _ _ (callWith _ (Value.ref 483) _ _ _) _ _ _)); (fail_if_success (with_reducible show wpAny _ _ (callWith _ (Value.ref 171) _ _ _) _ _ _)); k_dflt (refine' callWith_lam ?k1 ?k2 ?_; (case k1 => k_asm); (case k2 => k_mem); k_whole)))
local macro_rules | `(tactic| walk_at "call ref nil") => `(tactic| (k_here; k_dflt (refine' clock_m ?k1 ?k2 ?k3 ?k4 ?k5 ?k6 ?m1 ?m2 ?m3 ?m4 ?c1 ?c2 ?c3 ?d1 ?d2 ?_; (case k1 => k_asm); (case k2 => k_asm); (case k3 => k_asm); (case k4 => k_asm); (case k5 => first | exact rfl | assumption); (case k6 => k_asm); (case m1 => k_mem); (case m2 => k_mem); (case m3 => k_mem); (case m4 => k_mem); (case c1 => k_asm); (case c2 => k_asm); (case c3 => k_asm); (case d1 => ktr_room); (case d2 => ktr_units); k_whole; intro t' h' tk' F' N')))
local macro_rules | `(tactic| walk_at "call ref") => `(tactic| (k_here; k_dflt (show wpAny _ _ (call (Value.ref _) [Value.str _ _] []) _ _ _); k_dflt (refine' key_q ?k1 ?k2 ?k3 ?k4 ?k5 ?k6 ?hq ?i1 ?i2 ?a1 ?a2 ?a3 ?d1 ?d2 ?_; (case k1 => k_asm); (case k2 => k_asm); (case k3 => k_asm); (case k4 => k_asm); (case k5 => first | exact rfl | assumption); (case k6 => k_asm); (case hq => k_mem); (case i1 => k_mem); (case i2 => k_mem); (case a1 => assumption); (case a2 => assumption); (case a3 => first | with_reducible assumption | decide +kernel); (case d1 => ktr_room); (case d2 => ktr_units); k_whole; intro t' tk' h' F' N')))
local macro_rules | `(tactic| walk_at "call ref") => `(tactic| (k_here; k_dflt (show wpAny _ _ (call (Value.ref 483) [Value.ref _] []) _ _ _); k_dflt (refine' exp_m ?k1 ?k2 ?k3 ?k4 ?k5 ?k6 ?i1 ?i2 ?a1 ?a2 ?d1 ?d2 ?_; (case k1 => k_asm); (case k2 => k_asm); (case k3 => k_asm); (case k4 => k_asm); (case k5 => first | exact rfl | assumption); (case k6 => k_asm); (case i1 => k_mem); (case i2 => k_mem); (case a1 => assumption); (case a2 => assumption); (case d1 => ktr_room); (case d2 => ktr_units); k_whole; intro t' tk' h' F' N')))
local macro_rules | `(tactic| walk_at "eval Call Attribute") => `(tactic| (k_here; (with_reducible show wpAny _ _ (eval (Expr.Call (Expr.Attribute _ _ _) [Expr.Starred _ _] [] _) _) _ _ _); refine methodCallS ?_))
local macro_rules | `(tactic| walk_at "callWith ref") => `(tactic| (k_here; (with_reducible show wpAny _ _ (callWith _ (Value.ref _) _ (backTo _ (starEach [Expr.Starred _ _] _)) []) _ _ _); k_dflt (refine' callWith_MS ?k1 ?k2 ?k3 ?k4 ?_; (case k1 => k_asm); (case k2 => k_asm); (case k3 => k_mem); (case k4 => k_is); k_whole)))
local macro_rules | `(tactic| walk_at "StarOf ref") => `(tactic| (k_here; k_dflt (refine' star_K ?k1 ?k2 ?k3 ?k4 ?_; (case k1 => k_asm); (case k2 => k_asm); (case k3 => k_asm); (case k4 => first | with_reducible assumption | k_is); k_whole); intro h' F' N'; (refine' And.intro (methP (by k_asm) (by k_mem) (by k_in)) ?_); try dsimp only [List.nil_append, List.cons_append]))
local macro_rules | `(tactic| walk_at "call ref cons") => `(tactic| (k_here; k_dflt (show wpAny _ _ (call (Value.ref 171) [_, Value.int _ _] []) _ _ _); k_dflt (refine' ws_m ?k1 ?k2 ?k3 ?k4 ?k5 ?k6 ?hv ?d1 ?d2 ?_; (case k1 => k_asm); (case k2 => k_asm); (case k3 => k_asm); (case k4 => k_asm); (case k5 => first | exact rfl | assumption); (case k6 => k_asm); (case hv => first | exact .inl ⟨_, _, rfl⟩ | exact .inr ⟨_, rfl⟩); (case d1 => ktr_room); (case d2 => ktr_units); k_whole; intro x' d' tk' h' F' N' l1 l2; (try k_lt l1); (try k_lt2 l2))))
local macro_rules | `(tactic| walk_at "call ref") => `(tactic| (k_here; k_dflt (show wpAny _ _ (call (Value.ref 888) [Value.ref _, Value.str _ _, Value.int _ _] []) _ _ _); k_dflt (refine' gsw_m ?k1 ?k2 ?k3 ?k4 ?k5 ?k6 ?u1 ?u2 ?i0 ?i1 ?i2 ?i3 ?i4 ?i5 ?i6 ?i7 ?r1 ?r2 ?r3 ?s1 ?s2 ?s3 ?s4 ?e0 ?e1 ?e2 ?d1 ?d2 ?_; (case k1 => k_asm); (case k2 => k_asm); (case k3 => k_asm); (case k4 => k_asm); (case k5 => first | exact rfl | assumption); (case k6 => k_asm); (case i0 => k_mem); (case i1 => k_mem); (case i3 => k_mem); (case i4 => k_mem); (case i5 => k_mem); (case s2 => k_asm); (case s3 => k_asm); (case s4 => k_asm); (case i7 => k_mem); (case u1 => k_updF); (case i2 => k_mem); (case i6 => k_mem); (case u2 => (intro o; (try dsimp only); k_updF)); (case r1 => k_asm); (case r2 => omega); (case r3 => omega); (case s1 => k_asm); (case e0 => first | with_reducible assumption | exact keyF_len (by assumption) (by assumption) (by assumption)); (case e1 => first | with_reducible assumption | exact keyF_len (by assumption) (by assumption) (by assumption)); (case e2 => first | with_reducible assumption | exact keyF_len (by assumption) (by assumption) (by assumption)); (case d1 => ktr_room); (case d2 => ktr_units); k_whole; intro D' pt' ct' t1' t2' t3' t4' t' tk' h' esS' nS' esX' nX' F' N' ept l1' R'; (try dsimp only at N'))))
theorem ok_small {a b : Int} (h : (-1000000000 ≤ a ∧ a ≤ 1000000000) ∨ (-1000000000 ≤ b ∧ b ≤ 1000000000)) : IntMulOk a b := by
  rcases h with h | h
  · exact IntMulOk.of_left (PySem.intBits_le_64 (by omega) (by omega))
  · exact IntMulOk.of_right (PySem.intBits_le_64 (by omega) (by omega))
theorem cb_small {sg : Str → Option (Int × Int)} {t : Int} {k : Str} (h : ∀ k, 0 ≤ cnt sg t k ∧ cnt sg t k ≤ 100000) : -1000000000 ≤ cnt sg t k ∧ cnt sg t k ≤ 1000000000 := by have := h k; omega
local macro_rules | `(tactic| walk_at "binaryOp Mult int int") => `(tactic| (k_here; k_dflt (refine' PySem.P.mul_int ?_ ?z; (case z => first | exact ok_small (.inl (cb_small (by assumption))) | exact ok_small (.inr (cb_small (by assumption))) | exact ok_small (.inl (by omega)) | exact ok_small (.inr (by omega))))))
section
variable {w : World} {p : Program} {loose : List Str} {mean : ExcName → Option Value} {mg mb : Str → Option Value}
set_option maxHeartbeats 8000000 in
theorem sst_c {dp un : Nat} {gd : Option (List Code)} {cn : Str} {cs : Scope} {a : Addr} {ccd : Value} {cl : List (Str × Addr)} {outer : List Env} {A₀ : Around} {base h₀ : Heap} {L : Addr} {m : Str → Option Value} {s : Shared} {Q E : Value → Shared → Prop} {st sd S dS X EV lam cell c' now : Addr} {k1 k2 k3 k4 tq tt : Tok} {qual : Str} {pm ctv : Value} {oc oCell : Obj} {vs : Array Value} {esS esX : List DictEntry} {nS nX nn nE n : Nat} {sg : Str → Option (Int × Int)} {t : Int} {rest : List (Addr × Obj)} {fx fxd it itd idt : Addr} {nm : Str} {kso tm ta tl tn : Tok} {A Ln : Int} {nk : Nat}
    (B : Below A₀ base outer h₀) (F : Fr h₀ L s.heap m) (KX : (Mine.hd.heap_39 w.params).In h₀) (T : Top p loose mean mg mb h₀) (hk : cs.kind = .function)
    (N : News h₀ L s.heap ((S, cntO dS esS nS) :: (X, dictOf esX nX) :: (st, instObj 912 sd) :: (sd, stD w k1 k2 k3 k4 lam S X EV) :: (dS, dictOf [] 0) :: (lam, lamO qual cell c' pm ctv) :: (c', oc) :: (cell, oCell) :: (EV, dictOf [] nE) :: (now, listOf #[.int t tt] nn) :: (fx, instObj 296 fxd) :: (fxd, dictOf [⟨PyData.keyHash w.params (Str.ofString "storage"), .str (Str.ofString "storage") kso, .ref st⟩] nk) :: (it, itO itd A Ln ta tl tn) :: (itd, dictOf [] 0) :: rest))
    (R : StRep w esS esX sg t n) (hn : n ≤ 900) (ht : 0 ≤ t) (ord : @LT.lt Nat _ 1 cell ∧ @LT.lt Nat _ cell now ∧ @LT.lt Nat _ now c' ∧ @LT.lt Nat _ c' lam ∧ @LT.lt Nat _ lam sd ∧ @LT.lt Nat _ sd st ∧ @LT.lt Nat _ st dS ∧ @LT.lt Nat _ dS S ∧ @LT.lt Nat _ S X ∧ @LT.lt Nat _ X EV) (hc : oCell.data = .cell (some (.ref now))) (hc1 : oc.data = .fields vs) (hc2 : vs[1]? = some (.str qual tq)) (rS : ∀ p ∈ rest, p.1 ≠ S) (rX : ∀ p ∈ rest, p.1 ≠ X) (hid : List.lookup idt (Mine.hd.heap_39 w.params) = some (tup1 nm tm)) (hnm : nm.length ≤ 5) (hA : 1 ≤ A ∧ A ≤ 5) (hL : 2 ≤ Ln ∧ Ln ≤ 6) (ord2 : @LT.lt Nat _ X fx ∧ @LT.lt Nat _ X fxd ∧ @LT.lt Nat _ X it ∧ @LT.lt Nat _ X itd) (htt : 10 ≤ t ∧ t ≤ 5000) (hcb : ∀ k, 0 ≤ cnt sg t k ∧ cnt sg t k ≤ 100000)
    (hd : dp + 30 < recursionLimit) (hu : un + 150 < cLine)
    (h : ∀ (D : Addr) (dw : Addr) (v : Value) (tr : Tok) (t' : Tok) tk' h' esS' nS' esX' nX', Fr h₀ L h' m → News h₀ L h' ((D, wsO dw v (if A - wgt sg t (keyF nm A Ln) Ln > 0 then A - wgt sg t (keyF nm A Ln) Ln else 0) tr) :: (dw, dictOf [] 0) :: ((S, cntO dS esS' nS') :: (X, dictOf esX' nX') :: (st, instObj 912 sd) :: (sd, stD w k1 k2 k3 k4 lam S X EV) :: (dS, dictOf [] 0) :: (lam, lamO qual cell c' pm ctv) :: (c', oc) :: (cell, oCell) :: (EV, dictOf [] nE) :: (now, listOf #[.int t tt] nn) :: (fx, instObj 296 fxd) :: (fxd, dictOf [⟨PyData.keyHash w.params (Str.ofString "storage"), .str (Str.ofString "storage") kso, .ref st⟩] nk) :: (it, itO itd A Ln ta tl tn) :: (itd, dictOf [] 0) :: rest)) → @LT.lt Nat _ X dw → @LT.lt Nat _ dw D → StRep w esS' esX' sg t n → Q (.ref D) { s with heap := h', toks := tk' }) :
    wpAny (model pg w) (ktrTop dp un gd cn cs L a ccd cl outer) (call (.ref 284) [.ref fx, .ref it, .ref idt]) Q E s := by
  have lS : @LT.lt Nat _ 1 S := by omega
  have lX : @LT.lt Nat _ 1 X := by omega
  refine wpAny_call ?_
  (refine' code_def ?k1 ?k2 ?k3 ?k4 ?k5 ?kA ?kF ?kK ?k6 ?k7 ?k8 ?k9 ?kB ?_ ?c2 ?c3 ?c4 ?c5; (case kA => exact rfl); (case kF => exact rfl); (case kK => assumption); (case k1 => k_asm); (case k2 => k_asm); (case k3 => k_asm); (case k4 => k_asm); (case k5 => k_asm); (case k6 => k_is); (case k7 => k_is); (case k8 => ktr_room); (case k9 => first | exact BindsTo.of_eq rfl | exact binds_K (by k_in) rfl (by k_is) rfl rfl rfl); (case c5 => decide); (case kB => exact locs rfl); (case c2 => exact rfl); (case c3 => exact rfl); (case c4 => exact rfl); k_whole; intro g' L' h' FG' F' N' B' X' T'; (try dsimp only); (try k_fold))
  have hkl : (keyF nm A Ln).length ≤ 60 := keyF_len hnm hA hL
  repeat' (first | (k_unfold; (try dsimp only)) | (k_end; wrow_close) | walk1 | (dsimp only; walk1) | (leave1; try dsimp only))
  all_goals
    have ept := ‹_ = (if cnt sg t (prvK (keyF nm A Ln) t Ln) = 0 then 0 else Ln - (t - Ln).fmod Ln)›
    subst ept
    exact h _ _ _ _ 0 _ _ _ _ _ _ (by k_asm) (news_of (by k_asm) (fun q hq => by
      rcases List.mem_cons.mp hq with rfl | hq
      · exact .head _
      rcases List.mem_cons.mp hq with rfl | hq
      · exact .tail _ (.head _)
      first | exact .tail _ (.tail _ (.tail _ (.tail _ (.tail _ hq)))) | exact .tail _ (.tail _ (.tail _ (.tail _ (.tail _ (.tail _ hq))))) | exact .tail _ (.tail _ (.tail _ (.tail _ (.tail _ (.tail _ (.tail _ hq)))))))) (by omega) (by omega) (by assumption)

theorem sst_m {dp un : Nat} {gd : Option (List Code)} {cn : Str} {cs : Scope} {a : Addr} {ccd : Value} {cl : List (Str × Addr)} {outer : List Env} {A₀ : Around} {base h₀ : Heap} {L : Addr} {m : Str → Option Value} {s : Shared} {Q E : Value → Shared → Prop} {st sd S dS X EV lam cell c' now : Addr} {k1 k2 k3 k4 tq tt : Tok} {qual : Str} {pm ctv : Value} {oc oCell : Obj} {vs : Array Value} {esS esX : List DictEntry} {nS nX nn nE n : Nat} {sg : Str → Option (Int × Int)} {t : Int} {news : List (Addr × Obj)} {g1 : Obj → List (Addr × Obj)} {g2 : Obj → Obj → List (Addr × Obj)} {fx fxd it itd idt : Addr} {nm : Str} {kso tm ta tl tn : Tok} {A Ln : Int} {nk : Nat}
    (B : Below A₀ base outer h₀) (F : Fr h₀ L s.heap m) (KX : (Mine.hd.heap_39 w.params).In h₀) (T : Top p loose mean mg mb h₀) (hk : cs.kind = .function)
    (N : News h₀ L s.heap news) (U1 : UpdF S (cntO dS esS nS) news g1) (U2 : ∀ o, UpdF X (dictOf esX nX) (g1 o) (g2 o)) (i0 : (st, instObj 912 sd) ∈ news) (i1 : (sd, stD w k1 k2 k3 k4 lam S X EV) ∈ news) (i2 : (dS, dictOf [] 0) ∈ news) (i3 : (lam, lamO qual cell c' pm ctv) ∈ news) (i4 : (c', oc) ∈ news) (i5 : (cell, oCell) ∈ news) (i6 : (EV, dictOf [] nE) ∈ news) (i7 : (now, listOf #[.int t tt] nn) ∈ news) (i8 : (fx, instObj 296 fxd) ∈ news) (i9 : (fxd, dictOf [⟨PyData.keyHash w.params (Str.ofString "storage"), .str (Str.ofString "storage") kso, .ref st⟩] nk) ∈ news) (i10 : (it, itO itd A Ln ta tl tn) ∈ news) (i11 : (itd, dictOf [] 0) ∈ news)
    (R : StRep w esS esX sg t n) (hn : n ≤ 900) (ht : 0 ≤ t) (ord : @LT.lt Nat _ 1 cell ∧ @LT.lt Nat _ cell now ∧ @LT.lt Nat _ now c' ∧ @LT.lt Nat _ c' lam ∧ @LT.lt Nat _ lam sd ∧ @LT.lt Nat _ sd st ∧ @LT.lt Nat _ st dS ∧ @LT.lt Nat _ dS S ∧ @LT.lt Nat _ S X ∧ @LT.lt Nat _ X EV) (hc : oCell.data = .cell (some (.ref now))) (hc1 : oc.data = .fields vs) (hc2 : vs[1]? = some (.str qual tq)) (hid : List.lookup idt (Mine.hd.heap_39 w.params) = some (tup1 nm tm)) (hnm : nm.length ≤ 5) (hA : 1 ≤ A ∧ A ≤ 5) (hL : 2 ≤ Ln ∧ Ln ≤ 6) (ord2 : @LT.lt Nat _ X fx ∧ @LT.lt Nat _ X fxd ∧ @LT.lt Nat _ X it ∧ @LT.lt Nat _ X itd) (htt : 10 ≤ t ∧ t ≤ 5000) (hcb : ∀ k, 0 ≤ cnt sg t k ∧ cnt sg t k ≤ 100000)
    (hd : dp + 30 < recursionLimit) (hu : un + 150 < cLine)
    (h : ∀ (D : Addr) (dw : Addr) (v : Value) (tr : Tok) (t' : Tok) tk' h' esS' nS' esX' nX', Fr h₀ L h' m → News h₀ L h' ((D, wsO dw v (if A - wgt sg t (keyF nm A Ln) Ln > 0 then A - wgt sg t (keyF nm A Ln) Ln else 0) tr) :: (dw, dictOf [] 0) :: (g2 (cntO dS esS' nS') (dictOf esX' nX'))) → @LT.lt Nat _ X dw → @LT.lt Nat _ dw D → StRep w esS' esX' sg t n → Q (.ref D) { s with heap := h', toks := tk' }) :
    wpAny (model pg w) (ktrTop dp un gd cn cs L a ccd cl outer) (call (.ref 284) [.ref fx, .ref it, .ref idt]) Q E s := by
  obtain ⟨rest, rS, rX, jS, jX, jr, jb⟩ := adapt U1 U2
  have N1 : News h₀ L s.heap ((S, cntO dS esS nS) :: (X, dictOf esX nX) :: (st, instObj 912 sd) :: (sd, stD w k1 k2 k3 k4 lam S X EV) :: (dS, dictOf [] 0) :: (lam, lamO qual cell c' pm ctv) :: (c', oc) :: (cell, oCell) :: (EV, dictOf [] nE) :: (now, listOf #[.int t tt] nn) :: (fx, instObj 296 fxd) :: (fxd, dictOf [⟨PyData.keyHash w.params (Str.ofString "storage"), .str (Str.ofString "storage") kso, .ref st⟩] nk) :: (it, itO itd A Ln ta tl tn) :: (itd, dictOf [] 0) :: rest) := news_of N (by
    intro q hq
    simp only [List.mem_cons] at hq
    rcases hq with rfl | rfl | rfl | rfl | rfl | rfl | rfl | rfl | rfl | rfl | rfl | rfl | rfl | rfl | hq <;> first | with_reducible assumption | exact jr _ hq)
  refine sst_c B F KX T hk N1 R hn ht ord hc hc1 hc2 rS rX hid hnm hA hL ord2 htt hcb hd hu ?_
  intro D dw v tr t' tk' h' esS' nS' esX' nX' F' N'
  exact h D dw v tr t' tk' h' esS' nS' esX' nX' F' (news_of N' (fun q hq => by
    rcases List.mem_cons.mp hq with rfl | hq
    · exact .head _
    refine List.mem_cons_of_mem _ ?_
    rcases List.mem_cons.mp hq with rfl | hq
    · exact .head _
    refine List.mem_cons_of_mem _ ?_
    rcases jb _ _ q hq with rfl | rfl | hq
    · exact .head _
    · exact .tail _ (.head _)
    · simp only [List.mem_cons]; repeat' (first | exact .inr hq | refine .inr ?_)))
end
end Mine
end CSst

section Plain
theorem Mine.top_Plain : True := by
  w_top off
  trivial
open PySem
namespace Mine
abbrev Sto := Str → Option (Int × Int)
/-! ### fixed windows -/
def FixI (sg : Sto) (k : Str) (t ends spent : Int) : Prop := (sg k = none ∧ ends ≤ t) ∨ sg k = some (spent, ends)
theorem FixI.cnt {sg : Sto} {k : Str} {t t' ends spent : Int} (h : FixI sg k t ends spent) (ht : t ≤ t') : Mine.cnt sg t' k = if ends ≤ t' then 0 else spent := by
  unfold Mine.cnt
  rcases h with ⟨h, e⟩ | h
  · rw [h, if_pos (by omega)]
  · rw [h]; dsimp; split <;> split <;> omega
theorem FixI.later {sg : Sto} {k : Str} {t t' ends spent : Int} (h : FixI sg k t ends spent) (ht : t ≤ t') : FixI sg k t' ends spent := by
  rcases h with ⟨h, e⟩ | h
  · exact .inl ⟨h, by omega⟩
  · exact .inr h
theorem FixI.hit {sg : Sto} {k : Str} {t t' ends spent L c : Int} (h : FixI sg k t ends spent) (ht : t ≤ t') :
    FixI (ups sg t' k L c) k t' (if ends ≤ t' then t' + L else ends) ((if ends ≤ t' then 0 else spent) + c) := by
  refine .inr ?_
  unfold ups
  rw [if_pos rfl, h.cnt ht]
  congr 2
  unfold endAt
  rcases h with ⟨h, e⟩ | h
  · rw [h, if_pos (by omega)]
  · rw [h]; dsimp; split <;> split <;> omega
theorem ups_other {sg : Sto} {k x : Str} {t L c : Int} (h : x ≠ k) : ups sg t k L c x = sg x := if_neg h
theorem FixI.other {sg : Sto} {k k' : Str} {t t' ends spent L c : Int} (h : FixI sg k t ends spent) (hk : k ≠ k') : FixI (ups sg t' k' L c) k t ends spent := by
  unfold FixI; rw [ups_other hk]; exact h
theorem cnt_other {sg : Sto} {k x : Str} {t t' L c : Int} (h : x ≠ k) : cnt (ups sg t k L c) t' x = cnt sg t' x := by unfold cnt; rw [ups_other h]

/-! ### the sliding windows -/
structure SldI (sg : Sto) (K : Int → Str) (L W b h : Int) : Prop where
  later : ∀ w, W < w → sg (K w) = none
  cur : (sg (K W) = none ∧ h = 0) ∨ ∃ e, sg (K W) = some (h, e) ∧ (W + 2) * L ≤ e
  prv : (sg (K (W - 1)) = none ∧ b = 0) ∨ ∃ e, sg (K (W - 1)) = some (b, e) ∧ (W + 1) * L ≤ e
def rollB (W W' b h : Int) : Int := if W' > W then (if W' = W + 1 then h else 0) else b
def rollH (W W' h : Int) : Int := if W' > W then 0 else h
theorem SldI.roll {sg : Sto} {K : Int → Str} {L W W' b h : Int} (i : SldI sg K L W b h) (hW : W ≤ W') : SldI sg K L W' (rollB W W' b h) (rollH W W' h) := by
  unfold rollB rollH
  by_cases e : W' > W
  · rw [if_pos e, if_pos e]
    refine ⟨fun w hw => i.later w (by omega), .inl ⟨i.later _ (by omega), rfl⟩, ?_⟩
    by_cases e1 : W' = W + 1
    · rw [if_pos e1]
      subst e1
      have q : W + 1 - 1 = W := by omega
      rw [q]
      have q2 : W + 1 + 1 = W + 2 := by omega
      rw [q2]
      exact i.cur
    · rw [if_neg e1]
      exact .inl ⟨i.later _ (by omega), rfl⟩
  · rw [if_neg e, if_neg e]
    have : W' = W := by omega
    subst this; exact i
theorem div_lt {t L W : Int} (hL : 2 ≤ L ∧ L ≤ 6) (h : W = t / L) : t < (W + 1) * L ∧ W * L ≤ t ∧ t < (W + 2) * L := by
  subst h
  have h1 := Int.emod_add_mul_ediv t L
  have h2 := Int.emod_lt_of_pos t (show 0 < L by omega)
  have h3 := Int.emod_nonneg t (show L ≠ 0 by omega)
  have e1 : (t / L + 1) * L = L * (t / L) + L := by rw [Int.add_mul, Int.one_mul, Int.mul_comm]
  have e2 : (t / L + 2) * L = L * (t / L) + 2 * L := by rw [Int.add_mul, Int.mul_comm]
  have e3 : t / L * L = L * (t / L) := Int.mul_comm _ _
  omega
theorem SldI.cntC {sg : Sto} {K : Int → Str} {L W b h t : Int} (i : SldI sg K L W b h) (hL : 2 ≤ L ∧ L ≤ 6) (hW : W = t / L) : cnt sg t (K W) = h := by
  have d := div_lt hL hW
  unfold cnt
  rcases i.cur with ⟨q, e⟩ | ⟨e, q, h1⟩
  · rw [q, e]
  · rw [q]; dsimp; rw [if_pos (by omega)]
theorem SldI.cntP {sg : Sto} {K : Int → Str} {L W b h t : Int} (i : SldI sg K L W b h) (hL : 2 ≤ L ∧ L ≤ 6) (hW : W = t / L) : cnt sg t (K (W - 1)) = b := by
  have d := div_lt hL hW
  unfold cnt
  rcases i.prv with ⟨q, e⟩ | ⟨e, q, h1⟩
  · rw [q, e]
  · rw [q]; dsimp; rw [if_pos (by omega)]
def KW (key : Str) (n : Int) : Str := Str.empty ++ key ++ Str.ofString "/" ++ Str.ofString (toString n)
theorem curK_eq {key : Str} {t L : Int} (hL : 2 ≤ L ∧ L ≤ 6) : curK key t L = KW key (t / L) := by
  unfold curK KW; rw [Int.fdiv_eq_ediv_of_nonneg _ (by omega)]
theorem prvK_eq {key : Str} {t L : Int} (hL : 2 ≤ L ∧ L ≤ 6) : prvK key t L = KW key (t / L - 1) := by
  unfold prvK KW; rw [Int.fdiv_eq_ediv_of_nonneg _ (by omega)]
  have : (t - L) / L = t / L - 1 := by
    have e := Int.add_mul_ediv_right t (-1) (show L ≠ 0 by omega)
    have q : t + -1 * L = t - L := by omega
    rw [q] at e; omega
  rw [this]
/-- what is left of the length, by which the window before is weighed -/
def lft (t L : Int) : Int := L - t % L
theorem lft_bnd {t L : Int} (hL : 2 ≤ L ∧ L ≤ 6) : 1 ≤ lft t L ∧ lft t L ≤ L := by
  unfold lft
  have h2 := Int.emod_lt_of_pos t (show 0 < L by omega)
  have h3 := Int.emod_nonneg t (show L ≠ 0 by omega)
  omega
theorem SldI.wgt {sg : Sto} {key : Str} {L W b h t : Int} (i : SldI sg (KW key) L W b h) (hL : 2 ≤ L ∧ L ≤ 6) (hW : W = t / L) : Mine.wgt sg t key L = b * lft t L / L + h := by
  unfold Mine.wgt
  rw [curK_eq hL, prvK_eq hL, ← hW, i.cntC hL hW, i.cntP hL hW, Int.fdiv_eq_ediv_of_nonneg _ (by omega)]
  congr 2
  split
  · rename_i e; rw [e]; simp
  · unfold lft
    rw [Int.fmod_eq_emod_of_nonneg _ (by omega)]
    have : (t - L) % L = t % L := by
      have e := Int.sub_emod_right t L
      exact e
    rw [this]
theorem SldI.hit {sg : Sto} {K : Int → Str} {L W b h t c : Int} (i : SldI sg K L W b h) (hL : 2 ≤ L ∧ L ≤ 6) (hW : W = t / L) (inj : ∀ a b, K a = K b → a = b) : SldI (ups sg t (K W) (2 * L) c) K L W b (h + c) := by
  have d := div_lt hL hW
  refine ⟨fun w hw => ?_, .inr ⟨endAt sg t (K W) (2 * L), ?_, ?_⟩, ?_⟩
  · rw [ups_other (fun e => by have := inj _ _ e; omega)]; exact i.later w hw
  · unfold ups; rw [if_pos rfl, i.cntC hL hW]
  · have e2 : (W + 2) * L = W * L + 2 * L := by rw [Int.add_mul]
    unfold endAt
    rcases i.cur with ⟨q, e⟩ | ⟨e, q, h1⟩
    · rw [q]; dsimp; omega
    · rw [q]; dsimp; rw [if_pos (by omega)]; exact h1
  · rw [ups_other (fun e => by have := inj _ _ e; omega)]; exact i.prv
theorem SldI.other {sg : Sto} {K : Int → Str} {k : Str} {L W b h t c x : Int} (i : SldI sg K L W b h) (hk : ∀ w, K w ≠ k) : SldI (ups sg t k x c) K L W b h :=
  ⟨fun w hw => by rw [ups_other (hk w)]; exact i.later w hw, by rw [ups_other (hk W)]; exact i.cur, by rw [ups_other (hk _)]; exact i.prv⟩

/-! ### the tables -/
def ful (A L : Int) : Nat → Int
  | 0 => A
  | k + 1 => A - ful A L k / L
def sms (A L : Int) : Nat → Int
  | 0 => A
  | k + 1 => sms A L k + ful A L (k + 1)
theorem ful_bnd {A L : Int} (hA : 1 ≤ A ∧ A ≤ 5) (hL : 2 ≤ L ∧ L ≤ 6) : ∀ k, 0 ≤ ful A L k ∧ ful A L k ≤ A
  | 0 => ⟨by show 0 ≤ A; omega, Int.le_refl _⟩
  | k + 1 => by
    have ⟨h1, h2⟩ := ful_bnd hA hL k
    show 0 ≤ A - ful A L k / L ∧ A - ful A L k / L ≤ A
    have := Int.ediv_le_self L h1
    have := Int.ediv_nonneg h1 (show 0 ≤ L by omega)
    omega
theorem sms_mono {A L : Int} (hA : 1 ≤ A ∧ A ≤ 5) (hL : 2 ≤ L ∧ L ≤ 6) : ∀ k d, sms A L k ≤ sms A L (k + d)
  | k, 0 => Int.le_refl _
  | k, d + 1 => by
    have h := sms_mono hA hL k d
    have := (ful_bnd hA hL (k + d + 1)).1
    show sms A L k ≤ sms A L (k + d) + ful A L (k + d + 1)
    omega
theorem sms_bnd {A L : Int} (hA : 1 ≤ A ∧ A ≤ 5) (hL : 2 ≤ L ∧ L ≤ 6) : ∀ k, 0 ≤ sms A L k ∧ sms A L k ≤ 5 * (k + 1)
  | 0 => ⟨by show 0 ≤ A; omega, by show A ≤ _; omega⟩
  | k + 1 => by
    have ⟨h1, h2⟩ := sms_bnd hA hL k
    have := ful_bnd hA hL (k + 1)
    show 0 ≤ sms A L k + ful A L (k + 1) ∧ sms A L k + ful A L (k + 1) ≤ _
    omega
/-- weighed and rounded down: one more weighs at most one more -/
theorem lip {f b p L : Int} (hL : 2 ≤ L) (hp : 0 ≤ p ∧ p ≤ L) (h : b ≤ f) : b * p / L ≤ f * p / L ∧ f * p / L ≤ b * p / L + (f - b) := by
  constructor
  · exact Int.ediv_le_ediv (by omega) (Int.mul_le_mul_of_nonneg_right h hp.1)
  · have e : (b * p + (f - b) * L) / L = b * p / L + (f - b) := Int.add_mul_ediv_right _ _ (by omega)
    rw [← e]
    refine Int.ediv_le_ediv (by omega) ?_
    have h1 : (f - b) * p ≤ (f - b) * L := Int.mul_le_mul_of_nonneg_left hp.2 (by omega)
    have h2 : f * p = b * p + (f - b) * p := by rw [Int.sub_mul]; omega
    omega
theorem wmono {b p q L : Int} (hL : 2 ≤ L) (hb : 0 ≤ b) (h : p ≤ q) : b * p / L ≤ b * q / L := Int.ediv_le_ediv (by omega) (Int.mul_le_mul_of_nonneg_left h hb)
/-- the most that windows can let in, the last of them looked at where p is left -/
def most (A L : Int) (steps : Int) (t : Int) : Int := if steps > 0 then sms A L (steps - 1).toNat + A - ful A L (steps - 1).toNat * lft t L / L else A
end Mine
end Plain

section Plain2
theorem Mine.top_Plain2 : True := by
  w_top off
  trivial
open PySem
namespace Mine
/-! ### what each hit's span bears: the sliding limiter -/
structure SB (A L t W b h : Int) : Prop where
  b0 : 0 ≤ b
  h0 : 0 ≤ h
  le : h + b * lft t L / L ≤ A
  bA : b ≤ A
  wt : W ≤ t / L
def SP (A L W b h m S : Int) : Prop := (m / L = W ∧ S ≤ h) ∨ ∃ k : Nat, W = m / L + 1 + k ∧ S - h ≤ sms A L k ∧ S - h ≤ sms A L k - ful A L k + b
theorem SB.hA {A L t W b h : Int} (i : SB A L t W b h) (hL : 2 ≤ L ∧ L ≤ 6) : h ≤ A ∧ h + b / L ≤ A := by
  have hp := lft_bnd (t := t) hL
  have h1 : 0 ≤ b * lft t L / L := Int.ediv_nonneg (Int.mul_nonneg i.b0 (by omega)) (by omega)
  have h2 : b * 1 / L ≤ b * lft t L / L := wmono hL.1 i.b0 hp.1
  rw [Int.mul_one] at h2
  have := i.le
  omega
theorem two_ways {A L p b h S f s : Int} (hL : 2 ≤ L) (hp : 0 ≤ p ∧ p ≤ L) (le : h + b * p / L ≤ A) (h1 : S - h ≤ s) (h2 : S - h ≤ s - f + b) : S ≤ s + A - f * p / L := by
  by_cases q : b ≤ f
  · have := (lip (b := b) (f := f) hL hp q).2
    omega
  · have := (lip (b := f) (f := b) hL hp (by omega)).1
    omega
theorem SP.most {A L t W b h m S : Int} (i : SB A L t W b h) (hL : 2 ≤ L ∧ L ≤ 6) (hW : W = t / L) (p : SP A L W b h m S) : S ≤ Mine.most A L (t / L - m / L) t := by
  have hp := lft_bnd (t := t) hL
  unfold Mine.most
  rcases p with ⟨e, q⟩ | ⟨k, e, h1, h2⟩
  · rw [if_neg (by omega)]
    have := (i.hA hL).1
    omega
  · rw [if_pos (by omega)]
    have e1 : (t / L - m / L - 1).toNat = k := by omega
    rw [e1]
    exact two_ways hL.1 (by omega) i.le h1 h2
theorem lft_later {t t' L : Int} (hL : 2 ≤ L ∧ L ≤ 6) (ht : t ≤ t') (h : t / L = t' / L) : lft t' L ≤ lft t L := by
  unfold lft
  have h1 := Int.emod_add_mul_ediv t L
  have h2 := Int.emod_add_mul_ediv t' L
  rw [h] at h1
  omega
theorem SB.roll {A L t t' W b h : Int} (i : SB A L t W b h) (hA : 1 ≤ A ∧ A ≤ 5) (hL : 2 ≤ L ∧ L ≤ 6) (ht : t ≤ t') : SB A L t' (t' / L) (rollB W (t' / L) b h) (rollH W (t' / L) h) := by
  have hq : t / L ≤ t' / L := Int.ediv_le_ediv (by omega) ht
  have hp := lft_bnd (t := t') hL
  have hh := i.hA hL
  have hw := i.wt
  have h0 := i.h0
  unfold rollB rollH
  by_cases e : t' / L > W
  · rw [if_pos e, if_pos e]
    by_cases e1 : t' / L = W + 1
    · rw [if_pos e1]
      refine ⟨i.h0, Int.le_refl _, ?_, hh.1, Int.le_refl _⟩
      have h1 := wmono (b := h) hL.1 i.h0 hp.2
      rw [Int.mul_ediv_cancel _ (show L ≠ 0 by omega)] at h1
      omega
    · rw [if_neg e1]
      refine ⟨Int.le_refl _, Int.le_refl _, ?_, by omega, Int.le_refl _⟩
      rw [Int.zero_mul, Int.zero_ediv]; omega
  · rw [if_neg e, if_neg e]
    refine ⟨i.b0, i.h0, ?_, i.bA, Int.le_refl _⟩
    have h1 := wmono (b := b) hL.1 i.b0 (lft_later hL ht (by omega))
    have := i.le
    omega
theorem SP.roll {A L t t' W b h m S : Int} (i : SB A L t W b h) (hA : 1 ≤ A ∧ A ≤ 5) (hL : 2 ≤ L ∧ L ≤ 6) (ht : t ≤ t') (p : SP A L W b h m S) : SP A L (t' / L) (rollB W (t' / L) b h) (rollH W (t' / L) h) m S := by
  have hq : t / L ≤ t' / L := Int.ediv_le_ediv (by omega) ht
  have hh := i.hA hL
  have hw := i.wt
  have h0 := i.h0
  unfold rollB rollH
  by_cases e : t' / L > W
  · rw [if_pos e, if_pos e]
    have next : ∃ k : Nat, W + 1 = m / L + 1 + k ∧ S ≤ sms A L k ∧ S ≤ sms A L k - ful A L k + h := by
      rcases p with ⟨e, q⟩ | ⟨k, e, h1, h2⟩
      · exact ⟨0, by omega, by show S ≤ A; omega, by show S ≤ A - A + h; omega⟩
      · refine ⟨k + 1, by omega, ?_, ?_⟩
        · have z := two_ways (A := A) (p := 1) hL.1 ⟨by omega, by omega⟩ (by rw [Int.mul_one]; exact hh.2) h1 h2
          rw [Int.mul_one] at z
          show S ≤ sms A L k + (A - ful A L k / L)
          omega
        · show S ≤ sms A L k + ful A L (k + 1) - ful A L (k + 1) + h
          omega
    obtain ⟨k, ek, h1, h2⟩ := next
    by_cases e1 : t' / L = W + 1
    · rw [if_pos e1]
      exact .inr ⟨k, by omega, by omega, by omega⟩
    · rw [if_neg e1]
      obtain ⟨d, hd⟩ : ∃ d : Nat, t' / L = W + 1 + (d + 1) := ⟨(t' / L - W - 2).toNat, by omega⟩
      have z := sms_mono hA hL k d
      have z1 := (ful_bnd hA hL (k + d + 1)).1
      refine .inr ⟨k + d + 1, by omega, ?_, ?_⟩
      · show S - 0 ≤ sms A L (k + d) + ful A L (k + d + 1); omega
      · show S - 0 ≤ sms A L (k + d) + ful A L (k + d + 1) - ful A L (k + d + 1) + 0; omega
  · rw [if_neg e, if_neg e]
    have : t' / L = W := by omega
    rw [this]; exact p
theorem SP.add {A L W b h m S c : Int} (p : SP A L W b h m S) : SP A L W b (h + c) m (S + c) := by
  rcases p with ⟨e, q⟩ | ⟨k, e, h1, h2⟩
  · exact .inl ⟨e, by omega⟩
  · exact .inr ⟨k, e, by omega, by omega⟩
theorem fits_iff {A L x h c : Int} (hL : 2 ≤ L) : x < (A + 1 - h - c) * L ↔ x / L + h + c ≤ A := by
  rw [← Int.ediv_lt_iff_lt_mul (by omega)]
  omega
theorem SB.add {A L t W b h c : Int} (i : SB A L t W b h) (hL : 2 ≤ L ∧ L ≤ 6) (hc : 0 ≤ c) (hf : b * lft t L < (A + 1 - h - c) * L) : SB A L t W b (h + c) := by
  have := (fits_iff hL.1).mp hf
  have := i.h0
  exact ⟨i.b0, by omega, by omega, i.bA, i.wt⟩

/-! ### the fixed limiter -/
structure FB (A L t ends spent c : Int) : Prop where
  c0 : 0 ≤ c
  cA : c ≤ A
  eq : spent ≤ A → c = spent
  on : t < ends → ends - L ≤ t ∧ (1 ≤ c ∨ A < spent)
def FP (A L ends spent c m H : Int) : Prop := (∃ q : Int, 0 ≤ q ∧ H ≤ A * q + c ∧ m + q * L ≤ ends - L) ∨ (m < ends ∧ (H ≤ c - 1 ∨ (A < spent ∧ H = 0))) ∨ ∃ q : Int, 0 ≤ q ∧ H ≤ A - 1 + A * q + c ∧ m + 1 + q * L ≤ ends - L
def opn (ends t x y : Int) : Int := if ends ≤ t then x else y
theorem FB.turn {A L t t' ends spent c cost : Int} (i : FB A L t ends spent c) (hA : 1 ≤ A) (hL : 2 ≤ L ∧ L ≤ 6) (ht : t ≤ t') (hc : 1 ≤ cost) :
    FB A L t' (opn ends t' (t' + L) ends) (opn ends t' 0 spent + cost) (opn ends t' 0 c + if opn ends t' 0 spent + cost ≤ A then cost else 0) := by
  have := i.c0; have := i.cA; have := i.eq
  unfold opn
  by_cases e : ends ≤ t'
  · simp only [if_pos e]
    split
    · exact ⟨by omega, by omega, fun _ => by omega, fun _ => by omega⟩
    · exact ⟨by omega, by omega, fun _ => by omega, fun _ => by omega⟩
  · simp only [if_neg e]
    have := i.on (by omega)
    split
    · exact ⟨by omega, by omega, fun _ => by omega, fun _ => by omega⟩
    · exact ⟨by omega, by omega, fun _ => by omega, fun _ => by omega⟩
theorem FP.turn {A L t t' ends spent c cost m H : Int} (i : FB A L t ends spent c) (hA : 1 ≤ A) (hL : 2 ≤ L ∧ L ≤ 6) (ht : t ≤ t') (hc : 1 ≤ cost) (hm : m ≤ t) (p : FP A L ends spent c m H) :
    FP A L (opn ends t' (t' + L) ends) (opn ends t' 0 spent + cost) (opn ends t' 0 c + if opn ends t' 0 spent + cost ≤ A then cost else 0) m (H + if opn ends t' 0 spent + cost ≤ A then cost else 0) := by
  have := i.c0; have := i.cA; have := i.eq
  unfold opn
  by_cases e : ends ≤ t'
  · simp only [if_pos e]
    have z : 0 ≤ (if 0 + cost ≤ A then cost else 0) := by split <;> omega
    rcases p with ⟨q, q0, h1, h2⟩ | ⟨h1, h2⟩ | ⟨q, q0, h1, h2⟩
    · refine .inl ⟨q + 1, by omega, ?_, ?_⟩
      · rw [Int.mul_add, Int.mul_one]; omega
      · rw [Int.add_mul, Int.one_mul]; omega
    · refine .inr (.inr ⟨0, by omega, ?_, ?_⟩)
      · rw [Int.mul_zero]; omega
      · rw [Int.zero_mul]; omega
    · refine .inr (.inr ⟨q + 1, by omega, ?_, ?_⟩)
      · rw [Int.mul_add, Int.mul_one]; omega
      · rw [Int.add_mul, Int.one_mul]; omega
  · simp only [if_neg e]
    have := i.on (by omega)
    rcases p with ⟨q, q0, h1, h2⟩ | ⟨h1, h2⟩ | ⟨q, q0, h1, h2⟩
    · exact .inl ⟨q, q0, by omega, h2⟩
    · refine .inr (.inl ⟨h1, ?_⟩)
      split <;> omega
    · exact .inr (.inr ⟨q, q0, by omega, h2⟩)
theorem FP.new {A L t t' ends spent c cost : Int} (i : FB A L t ends spent c) (hA : 1 ≤ A) (hL : 2 ≤ L ∧ L ≤ 6) (ht : t ≤ t') (hc : 1 ≤ cost) :
    FP A L (opn ends t' (t' + L) ends) (opn ends t' 0 spent + cost) (opn ends t' 0 c + if opn ends t' 0 spent + cost ≤ A then cost else 0) t' (if opn ends t' 0 spent + cost ≤ A then cost else 0) := by
  have := i.c0; have := i.cA; have := i.eq
  unfold opn
  by_cases e : ends ≤ t'
  · simp only [if_pos e]
    refine .inl ⟨0, by omega, ?_, ?_⟩
    · rw [Int.mul_zero]; omega
    · rw [Int.zero_mul]; omega
  · simp only [if_neg e]
    have := i.on (by omega)
    refine .inr (.inl ⟨by omega, ?_⟩)
    split <;> omega
theorem ceil_ge {n q L : Int} (hL : 2 ≤ L) (h : q * L + 1 ≤ n) : q + 1 ≤ (n + L - 1) / L := by
  rw [Int.le_ediv_iff_mul_le (by omega), Int.add_mul, Int.one_mul]; omega
theorem FP.bound {A L t ends spent c m H : Int} (i : FB A L t ends spent c) (hA : 1 ≤ A) (hL : 2 ≤ L ∧ L ≤ 6) (hm : m ≤ t) (ho : t < ends) (p : FP A L ends spent c m H) :
    H ≤ A * ((t - m + 1 + L - 1) / L) ∨ H ≤ A - 1 + A * ((t - m + 1 + L - 2) / L) := by
  have := i.c0; have := i.cA; have := i.on ho
  rcases p with ⟨q, q0, h1, h2⟩ | ⟨h1, h2⟩ | ⟨q, q0, h1, h2⟩
  · refine .inl ?_
    have := ceil_ge (n := t - m + 1) (q := q) hL.1 (by omega)
    have := Int.mul_le_mul_of_nonneg_left this (show 0 ≤ A by omega)
    rw [Int.mul_add, Int.mul_one] at this
    omega
  · refine .inr ?_
    have h3 : 0 ≤ A * ((t - m + 1 + L - 2) / L) := Int.mul_nonneg (by omega) (Int.ediv_nonneg (by omega) (by omega))
    omega
  · refine .inr ?_
    have := ceil_ge (n := t - m) (q := q) hL.1 (by omega)
    have := Int.mul_le_mul_of_nonneg_left this (show 0 ≤ A by omega)
    rw [Int.mul_add, Int.mul_one] at this
    have e : t - m + L - 1 = t - m + 1 + L - 2 := by omega
    rw [e] at this
    omega
end Mine
end Plain2

section Plain3
theorem Mine.top_Plain3 : True := by
  w_top off
  trivial
open PySem
namespace Mine
/-! ### the counts stay small; the keys -/
def CB (sg : Sto) (N : Nat) : Prop := ∀ k p, sg k = some p → 0 ≤ p.1 ∧ p.1 ≤ 6 * N
theorem CB.mono {sg : Sto} {N N' : Nat} (h : CB sg N) (hn : N ≤ N') : CB sg N' := fun k p e => by have := h k p e; omega
theorem CB.cnt {sg : Sto} {N : Nat} (h : CB sg N) (t : Int) (k : Str) : 0 ≤ Mine.cnt sg t k ∧ Mine.cnt sg t k ≤ 6 * N := by
  unfold Mine.cnt
  cases q : sg k with
  | none => dsimp; omega
  | some p =>
    obtain ⟨c, e⟩ := p
    have h1 := h k _ q
    dsimp at h1 ⊢
    split <;> omega
theorem CB.ups {sg : Sto} {N : Nat} {t x c : Int} {k : Str} (h : CB sg N) (h0 : 0 ≤ c) (h1 : c ≤ 6) : CB (Mine.ups sg t k x c) (N + 1) := fun y p e => by
  unfold Mine.ups at e
  by_cases q : y = k
  · rw [if_pos q] at e
    have := h.cnt t k
    cases e
    dsimp
    omega
  · rw [if_neg q] at e
    have := h y p e
    omega
def at8 (k : Str) : Option Nat := k.cps[8]?
structure Keys (kF : Str) (ch : Nat) : Prop where
  inj : ∀ a b, KW kF a = KW kF b → a = b
  ne : ∀ w, KW kF w ≠ kF
  f8 : at8 kF = some ch
  w8 : ∀ w, at8 (KW kF w) = some ch
def TK (sg : Sto) (cs : List Nat) : Prop := ∀ k, sg k ≠ none → ∃ c ∈ cs, at8 k = some c
theorem TK.ups {sg : Sto} {cs : List Nat} {t x c : Int} {k : Str} {ch : Nat} (h : TK sg cs) (hk : at8 k = some ch) (hc : ch ∈ cs) : TK (Mine.ups sg t k x c) cs := fun y e => by
  by_cases q : y = k
  · exact ⟨ch, hc, q ▸ hk⟩
  · rw [ups_other q] at e; exact h y e
theorem TK.fresh {sg : Sto} {cs : List Nat} {k : Str} {ch : Nat} (h : TK sg cs) (hk : at8 k = some ch) (hc : ch ∉ cs) : sg k = none := by
  cases q : sg k with
  | none => rfl
  | some p =>
    obtain ⟨c, hc', e⟩ := h k (by rw [q]; intro z; cases z)
    rw [hk] at e; cases e
    exact absurd hc' hc

/-! ### the story -/
def sufs (P : Int → Int → Int → Prop) : Int → Int → List (Int × Int × Int) → Prop
  | _, _, [] => True
  | H, S, (m, a, b) :: r => P m (H + a) (S + b) ∧ sufs P (H + a) (S + b) r
theorem sufs.step {P P' : Int → Int → Int → Prop} {a b : Int} (f : ∀ m H S, P m H S → P' m (H + a) (S + b)) : ∀ {r : List (Int × Int × Int)} {H S : Int}, sufs P H S r → sufs P' (H + a) (S + b) r
  | [], _, _, _ => trivial
  | (m, x, y) :: r, H, S, ⟨h1, h2⟩ => by
    have e1 : H + a + x = H + x + a := by omega
    have e2 : S + b + y = S + y + b := by omega
    refine ⟨?_, ?_⟩
    · rw [e1, e2]; exact f _ _ _ h1
    · rw [e1, e2]; exact sufs.step f h2
theorem sufs.imp {P P' : Int → Int → Int → Prop} (f : ∀ m H S, P m H S → P' m H S) {r : List (Int × Int × Int)} {H S : Int} (h : sufs P H S r) : sufs P' H S r := by
  have := sufs.step (a := 0) (b := 0) (P' := P') (fun m H S q => by rw [Int.add_zero, Int.add_zero]; exact f m H S q) h
  rwa [Int.add_zero, Int.add_zero] at this

/-- what the inner loop asks of a hit: its moment, what both limiters have let in since -/
def Chk (A L t T0 : Int) (m H S : Int) : Prop := T0 ≤ m ∧ m ≤ t ∧ t / L - m / L ≤ 14 ∧ S ≤ most A L (t / L - m / L) t ∧ (H ≤ A * ((t - m + 1 + L - 1) / L) ∨ H ≤ A - 1 + A * ((t - m + 1 + L - 2) / L))

structure LI (A L T0 : Int) (kF : Str) (i : Nat) (t : Int) (sg : Sto) (spent ends W b h : Int) (story : List (Int × Int × Int)) : Prop where
  t0 : T0 ≤ t
  t1 : t ≤ T0 + i * (2 * L - 1)
  fx : FixI sg kF t ends spent
  sl : SldI sg (KW kF) L W b h
  sb : SB A L t W b h
  cb : CB sg (2 * i)
  tk : TK sg [97]
  st : ∃ c, FB A L t ends spent c ∧ sufs (fun m H S => T0 ≤ m ∧ m ≤ t ∧ FP A L ends spent c m H ∧ SP A L W b h m S) 0 0 story.reverse

theorem LI.start {A L T0 : Int} {kF : Str} (hA : 1 ≤ A ∧ A ≤ 5) (hL : 2 ≤ L ∧ L ≤ 6) (hT : 10 ≤ T0) : LI A L T0 kF 0 T0 (fun _ => none) 0 T0 0 0 0 [] := by
  refine ⟨Int.le_refl _, by omega, .inl ⟨rfl, Int.le_refl _⟩, ⟨fun _ _ => rfl, .inl ⟨rfl, rfl⟩, .inl ⟨rfl, rfl⟩⟩, ⟨Int.le_refl _, Int.le_refl _, ?_, by omega, Int.ediv_nonneg (by omega) (by omega)⟩, fun _ _ e => (by cases e), fun _ e => absurd rfl e, 0, ⟨Int.le_refl _, by omega, fun _ => rfl, fun e => by omega⟩, trivial⟩
  rw [Int.zero_mul, Int.zero_ediv]; omega

structure Hit (A L t : Int) (sg : Sto) (kF : Str) (spent ends W b h cost : Int) (let0 let1 : Bool) : Prop where
  l0 : decide (cnt sg t kF + cost ≤ A) = let0
  e0 : decide (opn ends t 0 spent + cost ≤ A) = let0
  l1 : acqOk (ups sg t kF L cost) t kF A L cost = let1
  e1 : decide (rollB W (t / L) b h * (L - t % L) < (A + 1 - rollH W (t / L) h - cost) * L) = let1

theorem LI.hits {A L T0 : Int} {kF : Str} {i : Nat} {t t' cost : Int} {sg : Sto} {spent ends W b h : Int} {story : List (Int × Int × Int)} (I : LI A L T0 kF i t sg spent ends W b h story) (K : Keys kF 97)
    (hA : 1 ≤ A ∧ A ≤ 5) (hL : 2 ≤ L ∧ L ≤ 6) (ht : t ≤ t') (hc : 1 ≤ cost ∧ cost ≤ A + 1) :
    Hit A L t' sg kF spent ends W b h cost (decide (opn ends t' 0 spent + cost ≤ A)) (decide (rollB W (t' / L) b h * (L - t' % L) < (A + 1 - rollH W (t' / L) h - cost) * L)) := by
  have hq : t / L ≤ t' / L := Int.ediv_le_ediv (by omega) ht
  have sb := I.sb.roll hA hL ht
  have hw := I.sb.wt
  have s1 : SldI (ups sg t' kF L cost) (KW kF) L (t' / L) (rollB W (t' / L) b h) (rollH W (t' / L) h) := (I.sl.roll (by omega)).other K.ne
  have w1 := s1.wgt hL rfl
  refine ⟨?_, rfl, ?_, rfl⟩
  · rw [I.fx.cnt ht]; rfl
  · unfold acqOk
    rw [w1]
    have z := fits_iff (A := A) (x := rollB W (t' / L) b h * lft t' L) (h := rollH W (t' / L) h) (c := cost) hL.1
    show decide _ = decide (rollB W (t' / L) b h * lft t' L < (A + 1 - rollH W (t' / L) h - cost) * L)
    rw [decide_eq_decide, z]
    have h1 : 0 ≤ rollB W (t' / L) b h * lft t' L / L := Int.ediv_nonneg (Int.mul_nonneg sb.b0 (by have := lft_bnd (t := t') hL; omega)) (by omega)
    have h2 := sb.h0
    omega

theorem LI.turn {A L T0 : Int} {kF : Str} {i : Nat} {t t' cost : Int} {sg : Sto} {spent ends W b h : Int} {story : List (Int × Int × Int)} (I : LI A L T0 kF i t sg spent ends W b h story) (K : Keys kF 97)
    (hA : 1 ≤ A ∧ A ≤ 5) (hL : 2 ≤ L ∧ L ≤ 6) (ht : t ≤ t') (ht2 : t' ≤ t + (2 * L - 1)) (hi : i < 7) (hc : 1 ≤ cost ∧ cost ≤ A + 1) {let0 let1 : Bool} (hh : Hit A L t' sg kF spent ends W b h cost let0 let1) :
    LI A L T0 kF (i + 1) t' (if let1 then ups (ups sg t' kF L cost) t' (KW kF (t' / L)) (2 * L) cost else ups sg t' kF L cost) (opn ends t' 0 spent + cost) (opn ends t' (t' + L) ends) (t' / L) (rollB W (t' / L) b h)
      (if let1 then rollH W (t' / L) h + cost else rollH W (t' / L) h) (story ++ [(t', if let0 then cost else 0, if let1 then cost else 0)]) ∧
    sufs (Chk A L t' T0) 0 0 (story ++ [(t', if let0 then cost else 0, if let1 then cost else 0)]).reverse := by
  obtain ⟨-, e0, -, e1⟩ := hh
  have hw := I.sb.wt
  have hq : t / L ≤ t' / L := Int.ediv_le_ediv (by omega) ht
  have sb := I.sb.roll hA hL ht
  have s1 : SldI (ups sg t' kF L cost) (KW kF) L (t' / L) (rollB W (t' / L) b h) (rollH W (t' / L) h) := (I.sl.roll (by omega)).other K.ne
  obtain ⟨c, fb, sf⟩ := I.st
  have fb' := fb.turn hA.1 hL ht hc.1
  have ea : (if let0 = true then cost else 0) = if opn ends t' 0 spent + cost ≤ A then cost else 0 := by rw [← e0]; simp
  have ho : t' < opn ends t' (t' + L) ends := by unfold opn; split <;> omega
  have T1 : t' ≤ T0 + ((i + 1 : Nat) : Int) * (2 * L - 1) := by
    have h1 := I.t1
    have e : ((i + 1 : Nat) : Int) * (2 * L - 1) = (i : Int) * (2 * L - 1) + (2 * L - 1) := by rw [Int.natCast_add, Int.add_mul]; omega
    omega
  have T2 : t' ≤ T0 + 7 * (2 * L - 1) := by
    have : ((i + 1 : Nat) : Int) * (2 * L - 1) ≤ 7 * (2 * L - 1) := Int.mul_le_mul_of_nonneg_right (by omega) (by omega)
    omega
  -- the sliding book behind the hit
  have key : ∃ b1 h1, b1 = rollB W (t' / L) b h ∧ h1 = (if let1 then rollH W (t' / L) h + cost else rollH W (t' / L) h) ∧ SB A L t' (t' / L) b1 h1 ∧
      SldI (if let1 then ups (ups sg t' kF L cost) t' (KW kF (t' / L)) (2 * L) cost else ups sg t' kF L cost) (KW kF) L (t' / L) b1 h1 ∧ h1 = rollH W (t' / L) h + (if let1 then cost else 0) ∧ 0 ≤ (if let1 then cost else 0) := by
    cases let1 with
    | true =>
      simp only [if_true]
      exact ⟨_, _, rfl, rfl, sb.add hL (by omega) (of_decide_eq_true e1), s1.hit hL rfl K.inj, rfl, by omega⟩
    | false =>
      simp only [if_neg Bool.false_ne_true]
      exact ⟨_, _, rfl, rfl, sb, s1, by omega, Int.le_refl _⟩
  obtain ⟨b1, h1, eb, eh, sb1, sl1, eh2, z1⟩ := key
  rw [← eb, ← eh]
  have FX : FixI (ups sg t' kF L cost) kF t' (opn ends t' (t' + L) ends) (opn ends t' 0 spent + cost) := I.fx.hit ht
  have SUF : sufs (fun m H S => T0 ≤ m ∧ m ≤ t' ∧ FP A L (opn ends t' (t' + L) ends) (opn ends t' 0 spent + cost) (opn ends t' 0 c + if opn ends t' 0 spent + cost ≤ A then cost else 0) m H ∧ SP A L (t' / L) b1 h1 m S) 0 0
      (story ++ [(t', if let0 then cost else 0, if let1 then cost else 0)]).reverse := by
    rw [List.reverse_append, List.reverse_cons, List.reverse_nil, List.nil_append, List.singleton_append]
    refine ⟨⟨by have := I.t0; omega, Int.le_refl _, ?_, ?_⟩, ?_⟩
    · rw [ea, Int.zero_add]; exact FP.new fb hA.1 hL ht hc.1
    · exact .inl ⟨rfl, by have := sb.h0; omega⟩
    · refine sufs.step ?_ sf
      rintro m H S ⟨m1, m2, p1, p2⟩
      refine ⟨m1, by omega, ?_, ?_⟩
      · rw [ea]; exact p1.turn fb hA.1 hL ht hc.1 m2
      · rw [eh2, eb]; exact (p2.roll I.sb hA hL ht).add
  refine ⟨⟨by have := I.t0; omega, T1, ?_, sl1, sb1, ?_, ?_, _, fb', SUF⟩, sufs.imp ?_ SUF⟩
  · cases let1 with
    | true => simp only [if_true]; exact FX.other (fun e => K.ne _ e.symm)
    | false => simp only [if_neg Bool.false_ne_true]; exact FX
  · have c1 : CB (ups sg t' kF L cost) (2 * i + 1) := I.cb.ups (by omega) (by omega)
    cases let1 with
    | true => simp only [if_true]; exact (c1.ups (by omega) (by omega)).mono (by omega)
    | false => simp only [if_neg Bool.false_ne_true]; exact c1.mono (by omega)
  · have c1 : TK (ups sg t' kF L cost) [97] := I.tk.ups K.f8 (.head _)
    cases let1 with
    | true => simp only [if_true]; exact c1.ups (K.w8 _) (.head _)
    | false => simp only [if_neg Bool.false_ne_true]; exact c1
  · rintro m H S ⟨m1, m2, p1, p2⟩
    refine ⟨m1, m2, ?_, p2.most sb1 hL rfl, p1.bound fb' hA.1 hL m2 ho⟩
    have d1 := div_lt (t := t') hL rfl
    have d2 := div_lt (t := m) hL rfl
    have hlt : (t' / L - m / L - 15) * L < 0 := by
      have e : (t' / L - m / L - 15) * L = t' / L * L - m / L * L - 15 * L := by rw [Int.sub_mul, Int.sub_mul]
      have e2 : (m / L + 1) * L = m / L * L + L := by rw [Int.add_mul, Int.one_mul]
      omega
    have : t' / L - m / L - 15 < 0 := by
      by_cases q : 0 ≤ t' / L - m / L - 15
      · have := Int.mul_nonneg q (show 0 ≤ L by omega); omega
      · omega
    omega
end Mine
end Plain3

section Plain4
theorem Mine.top_Plain4 : True := by
  w_top off
  trivial
open PySem
namespace Mine
/-! ### the takers -/
def fRest (A : Int) (sg : Sto) (t : Int) (k : Str) : Int := if A - cnt sg t k > 0 then A - cnt sg t k else 0
def fMid (A L : Int) (sg : Sto) (t : Int) (k : Str) : Sto := if fRest A sg t k > 0 then ups sg t k L (fRest A sg t k) else sg
def fTake (A L : Int) (sg : Sto) (t : Int) (k : Str) : Sto := ups (fMid A L sg t k) t k L 1
def sRest (A L : Int) (sg : Sto) (t : Int) (key : Str) : Int := if A - wgt sg t key L > 0 then A - wgt sg t key L else 0
def sTake (A L : Int) (sg : Sto) (t : Int) (key : Str) : Sto := if sRest A L sg t key > 0 then ups sg t (curK key t L) (2 * L) (sRest A L sg t key) else sg
theorem cnt_ups {sg : Sto} {t L c : Int} {k : Str} (hL : 0 < L) : cnt (ups sg t k L c) t k = cnt sg t k + c := by
  conv => lhs; unfold cnt
  unfold ups
  rw [if_pos rfl]
  dsimp
  rw [if_pos]
  unfold endAt
  cases sg k with
  | none => dsimp; omega
  | some p => obtain ⟨a, e⟩ := p; dsimp; split <;> omega
theorem fRest_nn {A : Int} {sg : Sto} {t : Int} {k : Str} : 0 ≤ fRest A sg t k := by unfold fRest; split <;> omega
theorem sRest_nn {A L : Int} {sg : Sto} {t : Int} {k : Str} : 0 ≤ sRest A L sg t k := by unfold sRest; split <;> omega
theorem f_yes {A : Int} {sg : Sto} {t : Int} {k : Str} (h : fRest A sg t k > 0) : decide (cnt sg t k + fRest A sg t k ≤ A) = true := by
  unfold fRest at h ⊢
  refine decide_eq_true ?_
  split at h
  · rename_i q; rw [if_pos q]; omega
  · omega
theorem f_no {A L : Int} {sg : Sto} {t : Int} {k : Str} (hL : 2 ≤ L) : decide (cnt (fMid A L sg t k) t k + 1 ≤ A) = false := by
  refine decide_eq_false ?_
  unfold fMid fRest
  by_cases q : A - cnt sg t k > 0
  · rw [if_pos q, if_pos q, cnt_ups (by omega)]; omega
  · rw [if_neg q, if_neg (by omega)]; omega
theorem wgt_cur {sg : Sto} {t L c : Int} {key : Str} (hL : 2 ≤ L ∧ L ≤ 6) (inj : ∀ a b, KW key a = KW key b → a = b) : wgt (ups sg t (curK key t L) (2 * L) c) t key L = wgt sg t key L + c := by
  have h1 : prvK key t L ≠ curK key t L := by
    rw [prvK_eq hL, curK_eq hL]; intro e; have := inj _ _ e; omega
  unfold wgt
  rw [cnt_other h1, cnt_ups (by omega)]
  omega
theorem s_yes {A L : Int} {sg : Sto} {t : Int} {key : Str} (hw : 0 ≤ wgt sg t key L) (h : sRest A L sg t key > 0) : acqOk sg t key A L (sRest A L sg t key) = true := by
  unfold acqOk
  unfold sRest at h ⊢
  refine decide_eq_true ?_
  split at h
  · rename_i q; rw [if_pos q]; omega
  · omega
theorem s_no {A L : Int} {sg : Sto} {t : Int} {key : Str} (hL : 2 ≤ L ∧ L ≤ 6) (inj : ∀ a b, KW key a = KW key b → a = b) : acqOk (sTake A L sg t key) t key A L 1 = false := by
  unfold acqOk
  refine decide_eq_false ?_
  unfold sTake sRest
  by_cases q : A - wgt sg t key L > 0
  · rw [if_pos q, if_pos q, wgt_cur hL inj]; omega
  · rw [if_neg q, if_neg (by omega)]; omega
theorem wgt_nn {sg : Sto} {t L : Int} {key : Str} (hL : 2 ≤ L ∧ L ≤ 6) (hc : ∀ k, 0 ≤ cnt sg t k) : 0 ≤ wgt sg t key L := by
  unfold wgt
  have h2 := hc (curK key t L)
  have h3 : 0 ≤ (cnt sg t (prvK key t L) * (if cnt sg t (prvK key t L) = 0 then 0 else L - (t - L).fmod L)).fdiv L := by
    rw [Int.fdiv_eq_ediv_of_nonneg _ (by omega)]
    refine Int.ediv_nonneg (Int.mul_nonneg (hc _) ?_) (by omega)
    split
    · omega
    · rw [Int.fmod_eq_emod_of_nonneg _ (by omega)]
      have := Int.emod_lt_of_pos (t - L) (show 0 < L by omega)
      omega
  omega
theorem CB.fTake {sg : Sto} {N : Nat} {A L t : Int} {k : Str} (h : CB sg N) (hA : 1 ≤ A ∧ A ≤ 5) : CB (Mine.fTake A L sg t k) (N + 2) := by
  have hc := h.cnt t k
  unfold Mine.fTake
  refine CB.ups ?_ (by omega) (by omega)
  unfold fMid
  split
  · refine h.ups (by omega) ?_
    unfold fRest; split <;> omega
  · exact h.mono (by omega)
theorem CB.sTake {sg : Sto} {N : Nat} {A L t : Int} {k : Str} (h : CB sg N) (hA : 1 ≤ A ∧ A ≤ 5) (hL : 2 ≤ L ∧ L ≤ 6) : CB (Mine.sTake A L sg t k) (N + 2) := by
  have hw := wgt_nn (key := k) (t := t) hL (fun x => (h.cnt t x).1)
  unfold Mine.sTake
  split
  · refine CB.mono (h.ups (by omega) ?_) (show N + 1 ≤ N + 2 by omega)
    unfold sRest; split <;> omega
  · exact h.mono (by omega)
theorem FixI.take {sg : Sto} {k : Str} {t u ends spent A L : Int} (h : FixI sg k t ends spent) (ht : t ≤ u) (hA : 1 ≤ A) (hL : 2 ≤ L ∧ L ≤ 6) :
    ∃ r sp, fRest A sg u k = r ∧ r = (if ends ≤ u then A else if A - spent > 0 then A - spent else 0) ∧ FixI (fTake A L sg u k) k u (if ends ≤ u then u + L else ends) sp ∧ A + 1 ≤ sp := by
  have hr : fRest A sg u k = (if ends ≤ u then A else if A - spent > 0 then A - spent else 0) := by
    unfold fRest; rw [h.cnt ht]
    by_cases q : ends ≤ u
    · rw [if_pos q, if_pos q, if_pos (by omega)]; omega
    · rw [if_neg q, if_neg q]
  by_cases q : ends ≤ u
  · rw [if_pos q] at hr ⊢
    have h1 : FixI (ups sg u k L A) k u (u + L) A := by
      have z := h.hit (L := L) (c := A) ht
      rw [if_pos q, if_pos q, Int.zero_add] at z; exact z
    have h2 := h1.hit (L := L) (c := 1) (Int.le_refl u)
    rw [if_neg (by omega), if_neg (by omega)] at h2
    refine ⟨A, A + 1, hr, rfl, ?_, Int.le_refl _⟩
    rw [if_pos q]
    unfold fTake fMid; rw [hr, if_pos (by omega)]; exact h2
  · rw [if_neg q] at hr ⊢
    by_cases q2 : A - spent > 0
    · rw [if_pos q2] at hr ⊢
      have h1 := h.hit (L := L) (c := A - spent) ht
      rw [if_neg q, if_neg q] at h1
      have h2 := h1.hit (L := L) (c := 1) (Int.le_refl u)
      rw [if_neg q, if_neg q] at h2
      refine ⟨A - spent, spent + (A - spent) + 1, hr, rfl, ?_, by omega⟩
      rw [if_neg q]
      unfold fTake fMid; rw [hr, if_pos (by omega)]; exact h2
    · rw [if_neg q2] at hr ⊢
      have h2 := h.hit (L := L) (c := 1) ht
      rw [if_neg q, if_neg q] at h2
      refine ⟨0, spent + 1, hr, rfl, ?_, by omega⟩
      rw [if_neg q]
      unfold fTake fMid; rw [hr, if_neg (by omega)]; exact h2
theorem fTake_other {sg : Sto} {k x : Str} {A L u : Int} (h : x ≠ k) : fTake A L sg u k x = sg x := by
  unfold fTake fMid
  rw [ups_other h]
  split
  · rw [ups_other h]
  · rfl
theorem sTake_other {sg : Sto} {k x : Str} {A L u : Int} (h : x ≠ curK k u L) : sTake A L sg u k x = sg x := by
  unfold sTake
  split
  · rw [ups_other h]
  · rfl
theorem FixI.congr {sg sg' : Sto} {k : Str} {t ends spent : Int} (h : FixI sg k t ends spent) (e : sg' k = sg k) : FixI sg' k t ends spent := by
  unfold FixI; rw [e]; exact h
theorem SldI.congr {sg sg' : Sto} {K : Int → Str} {L W b h : Int} (i : SldI sg K L W b h) (e : ∀ w, sg' (K w) = sg (K w)) : SldI sg' K L W b h :=
  ⟨fun w hw => by rw [e]; exact i.later w hw, by rw [e]; exact i.cur, by rw [e]; exact i.prv⟩
theorem SldI.take {sg : Sto} {key : Str} {L W b h u A : Int} (i : SldI sg (KW key) L W b h) (hL : 2 ≤ L ∧ L ≤ 6) (hW : W = u / L) (inj : ∀ a b, KW key a = KW key b → a = b) (hr : b * lft u L / L + h ≤ A) :
    sRest A L sg u key = A - (b * lft u L / L + h) ∧ SldI (sTake A L sg u key) (KW key) L W b (A - b * lft u L / L) := by
  have w := i.wgt hL hW
  have hr' : sRest A L sg u key = A - (b * lft u L / L + h) := by unfold sRest; rw [w]; split <;> omega
  refine ⟨hr', ?_⟩
  unfold sTake
  rw [hr', curK_eq hL, ← hW]
  split
  · have z := i.hit (c := A - (b * lft u L / L + h)) hL hW inj
    have e : h + (A - (b * lft u L / L + h)) = A - b * lft u L / L := by omega
    rw [e] at z; exact z
  · have e : h = A - b * lft u L / L := by omega
    rw [← e]; exact i

/-! ### the seven seconds -/
def frst (A L first u : Int) : Int := if u / L = first / L then 0 else ful A L (u / L - first / L - 1).toNat
structure FI (A L first : Int) (kE kR : Str) (j : Nat) (sg : Sto) (early fresh slid : Int) : Prop where
  E : ∃ e sp, FixI sg kE (first + j) e sp ∧ ((j = 0 ∧ e = first + 1 ∧ sp = 1 ∧ early = 0) ∨ (1 ≤ j ∧ A + 1 ≤ sp ∧ e = first + 1 + L * ((j + L - 2) / L) ∧ early = A - 1 + A * ((j + L - 2) / L)))
  R : ∃ e sp, FixI sg kR (first + j) e sp ∧ e = first + L * ((j + L - 1) / L) ∧ fresh = A * ((j + L - 1) / L) ∧ (j = 0 ∨ A + 1 ≤ sp)
  S : (j = 0 ∧ slid = 0 ∧ SldI sg (KW kR) L (first / L) 0 0) ∨ (1 ≤ j ∧ ∃ b h, SldI sg (KW kR) L ((first + j - 1) / L) b h ∧ h = A - b * lft (first + j - 1) L / L ∧ b = frst A L first (first + j - 1) ∧ slid = most A L ((first + j - 1) / L - first / L) (first + j - 1))
theorem early_step {A L first j e sp early : Int} (hA : 1 ≤ A ∧ A ≤ 5) (hL : 2 ≤ L ∧ L ≤ 6) (hj : 0 ≤ j)
    (h : (j = 0 ∧ e = first + 1 ∧ sp = 1 ∧ early = 0) ∨ (1 ≤ j ∧ A + 1 ≤ sp ∧ e = first + 1 + L * ((j + L - 2) / L) ∧ early = A - 1 + A * ((j + L - 2) / L))) :
    (if e ≤ first + j then first + j + L else e) = first + 1 + L * ((j + 1 + L - 2) / L) ∧
    early + (if e ≤ first + j then A else if A - sp > 0 then A - sp else 0) = A - 1 + A * ((j + 1 + L - 2) / L) := by
  have key : ∀ q : Int, ∀ q' : Int, q = (j + L - 2) / L → q' = (j + 1 + L - 2) / L → (1 ≤ j → (1 + L * q ≤ j → j = 1 + L * q ∧ q' = q + 1) ∧ (¬ 1 + L * q ≤ j → q' = q)) ∧ (j = 0 → q' = 0) := by
    intro q q' h1 h2
    have : L = 2 ∨ L = 3 ∨ L = 4 ∨ L = 5 ∨ L = 6 := by omega
    rcases this with rfl | rfl | rfl | rfl | rfl <;> omega
  obtain ⟨k1, k2⟩ := key _ _ rfl rfl
  rcases h with ⟨rfl, rfl, rfl, rfl⟩ | ⟨h1, h2, rfl, rfl⟩
  · rw [k2 rfl, if_neg (by omega), if_neg (by omega), Int.mul_zero, Int.mul_zero]
    split <;> omega
  · have k3 := k1 h1
    by_cases q : 1 + L * ((j + L - 2) / L) ≤ j
    · obtain ⟨k4, k5⟩ := k3.1 q
      rw [if_pos (by omega), if_pos (by omega), k5, Int.mul_add, Int.mul_add]
      omega
    · rw [if_neg (by omega), if_neg (by omega), k3.2 q, if_neg (by omega)]
      omega
theorem fresh_step {A L first j e sp fresh : Int} (hA : 1 ≤ A ∧ A ≤ 5) (hL : 2 ≤ L ∧ L ≤ 6) (hj : 0 ≤ j)
    (h1 : e = first + L * ((j + L - 1) / L)) (h2 : fresh = A * ((j + L - 1) / L)) (h3 : j = 0 ∨ A + 1 ≤ sp) :
    (if e ≤ first + j then first + j + L else e) = first + L * ((j + 1 + L - 1) / L) ∧
    fresh + (if e ≤ first + j then A else if A - sp > 0 then A - sp else 0) = A * ((j + 1 + L - 1) / L) := by
  have key : ∀ q : Int, ∀ q' : Int, q = (j + L - 1) / L → q' = (j + 1 + L - 1) / L → (L * q ≤ j → j = L * q ∧ q' = q + 1) ∧ (¬ L * q ≤ j → q' = q ∧ j ≠ 0) := by
    intro q q' h1 h2
    have : L = 2 ∨ L = 3 ∨ L = 4 ∨ L = 5 ∨ L = 6 := by omega
    rcases this with rfl | rfl | rfl | rfl | rfl <;> omega
  obtain ⟨k1, k2⟩ := key _ _ rfl rfl
  subst h1 h2
  by_cases q : L * ((j + L - 1) / L) ≤ j
  · obtain ⟨k4, k5⟩ := k1 q
    rw [if_pos (by omega), if_pos (by omega), k5, Int.mul_add, Int.mul_add]
    omega
  · obtain ⟨k4, k5⟩ := k2 q
    rw [if_neg (by omega), if_neg (by omega), k4, if_neg (by omega)]
    omega
theorem slid_step {A L first v b h slid : Int} (hA : 1 ≤ A ∧ A ≤ 5) (hL : 2 ≤ L ∧ L ≤ 6) (hv : first ≤ v) (h1 : h = A - b * lft v L / L) (h2 : b = frst A L first v) (h3 : slid = most A L (v / L - first / L) v) :
    rollB (v / L) ((v + 1) / L) b h = frst A L first (v + 1) ∧ rollB (v / L) ((v + 1) / L) b h * lft (v + 1) L / L + rollH (v / L) ((v + 1) / L) h ≤ A ∧
    slid + (A - (rollB (v / L) ((v + 1) / L) b h * lft (v + 1) L / L + rollH (v / L) ((v + 1) / L) h)) = most A L ((v + 1) / L - first / L) (v + 1) := by
  have hq : first / L ≤ v / L := Int.ediv_le_ediv (by omega) hv
  have b0 : 0 ≤ b ∧ b ≤ A := by
    rw [h2]; unfold frst; split
    · omega
    · exact ful_bnd hA hL _
  have cases : (v + 1) / L = v / L ∨ ((v + 1) / L = v / L + 1 ∧ lft v L = 1) := by
    unfold lft
    have h1 := Int.emod_add_mul_ediv v L
    have h2 := Int.emod_add_mul_ediv (v + 1) L
    have h3 := Int.emod_lt_of_pos v (show 0 < L by omega)
    have h4 := Int.emod_nonneg v (show L ≠ 0 by omega)
    have h5 := Int.emod_lt_of_pos (v + 1) (show 0 < L by omega)
    have h6 := Int.emod_nonneg (v + 1) (show L ≠ 0 by omega)
    have : L = 2 ∨ L = 3 ∨ L = 4 ∨ L = 5 ∨ L = 6 := by omega
    rcases this with rfl | rfl | rfl | rfl | rfl <;> omega
  rcases cases with e | ⟨e, el⟩
  · have e1 : rollB (v / L) ((v + 1) / L) b h = b := by unfold rollB; rw [if_neg (by omega)]
    have e2 : rollH (v / L) ((v + 1) / L) h = h := by unfold rollH; rw [if_neg (by omega)]
    have l1 := wmono (b := b) hL.1 b0.1 (lft_later (t := v) (t' := v + 1) hL (by omega) e.symm)
    rw [e1, e2]
    refine ⟨by rw [h2]; unfold frst; rw [e], by omega, ?_⟩
    rw [h3, e]
    unfold most
    by_cases z : v / L - first / L > 0
    · rw [if_pos z, if_pos z]
      have eb : b = ful A L (v / L - first / L - 1).toNat := by rw [h2]; unfold frst; rw [if_neg (by omega)]
      rw [← eb]; omega
    · rw [if_neg z, if_neg z]
      have eb : b = 0 := by rw [h2]; unfold frst; rw [if_pos (by omega)]
      rw [eb, Int.zero_mul, Int.zero_ediv] at h1 ⊢
      omega
  · have e1 : rollB (v / L) ((v + 1) / L) b h = h := by unfold rollB; rw [if_pos (by omega), if_pos (by omega)]
    have e2 : rollH (v / L) ((v + 1) / L) h = 0 := by unfold rollH; rw [if_pos (by omega)]
    rw [e1, e2]
    rw [el, Int.mul_one] at h1
    have l1 := lft_bnd (t := v + 1) hL
    have d0 := Int.ediv_nonneg b0.1 (show 0 ≤ L by omega)
    have d1 := Int.ediv_le_self L b0.1
    have l2 := wmono (b := h) hL.1 (by omega) l1.2
    rw [Int.mul_ediv_cancel _ (show L ≠ 0 by omega)] at l2
    have hne : ¬ (v + 1) / L = first / L := by omega
    have hp : (v + 1) / L - first / L > 0 := by omega
    have hk : ((v + 1) / L - first / L - 1).toNat = (v / L - first / L).toNat := by omega
    have hf : h = ful A L (v / L - first / L).toNat ∧ slid = sms A L (v / L - first / L).toNat := by
      by_cases z : v / L - first / L > 0
      · have eb : b = ful A L (v / L - first / L - 1).toNat := by rw [h2]; unfold frst; rw [if_neg (by omega)]
        obtain ⟨k, ek⟩ : ∃ k, (v / L - first / L).toNat = k + 1 := ⟨(v / L - first / L).toNat - 1, by omega⟩
        have ek2 : (v / L - first / L - 1).toNat = k := by omega
        rw [ek, h3]
        unfold most
        rw [if_pos z, el, Int.mul_one]
        rw [ek2] at eb ⊢
        have f1 : ful A L (k + 1) = A - ful A L k / L := rfl
        have f2 : sms A L (k + 1) = sms A L k + ful A L (k + 1) := rfl
        rw [f2, f1, h1, eb]
        omega
      · have eb : b = 0 := by rw [h2]; unfold frst; rw [if_pos (by omega)]
        have z0 : (v / L - first / L).toNat = 0 := by omega
        rw [z0, h3]
        unfold most
        rw [if_neg z]
        rw [eb, Int.zero_ediv] at h1
        exact ⟨by show h = A; omega, rfl⟩
    refine ⟨?_, by omega, ?_⟩
    · unfold frst; rw [if_neg hne, hk]; exact hf.1
    · unfold most; rw [if_pos hp, hk, ← hf.1, ← hf.2]; omega
structure Trio (kE kR : Str) : Prop where
  ne : kE ≠ kR
  neE : ∀ w, KW kR w ≠ kE
  neR : ∀ w, KW kR w ≠ kR
  inj : ∀ a b, KW kR a = KW kR b → a = b
theorem FI.turn {A L first : Int} {kE kR : Str} {j : Nat} {sg : Sto} {early fresh slid : Int} (I : FI A L first kE kR j sg early fresh slid) (K : Trio kE kR) (hA : 1 ≤ A ∧ A ≤ 5) (hL : 2 ≤ L ∧ L ≤ 6) :
    FI A L first kE kR (j + 1) (sTake A L (fTake A L (fTake A L sg (first + j) kE) (first + j) kR) (first + j) kR) (early + fRest A sg (first + j) kE) (fresh + fRest A (fTake A L sg (first + j) kE) (first + j) kR) (slid + sRest A L (fTake A L (fTake A L sg (first + j) kE) (first + j) kR) (first + j) kR) ∧
    early + fRest A sg (first + j) kE = A - 1 + A * ((((j + 1 : Nat) : Int) + L - 2) / L) ∧ fresh + fRest A (fTake A L sg (first + j) kE) (first + j) kR = A * ((((j + 1 : Nat) : Int) + L - 1) / L) ∧
    slid + sRest A L (fTake A L (fTake A L sg (first + j) kE) (first + j) kR) (first + j) kR = most A L ((first + j) / L - first / L) (first + j) := by
  have hj1 : ((j + 1 : Nat) : Int) = (j : Int) + 1 := by omega
  obtain ⟨e, sp, F1, c1⟩ := I.E
  obtain ⟨e', sp', F2, c2, c3, c4⟩ := I.R
  obtain ⟨r, spn, q1, q2, q3, q4⟩ := F1.take (Int.le_refl _) hA.1 hL
  have F2' : FixI (fTake A L sg (first + j) kE) kR (first + j) e' sp' := F2.congr (fTake_other K.ne.symm)
  obtain ⟨r', spn', q1', q2', q3', q4'⟩ := F2'.take (Int.le_refl _) hA.1 hL
  have es := early_step (j := (j : Int)) hA hL (by omega) (by
    rcases c1 with ⟨a, b, c, d⟩ | ⟨a, b, c, d⟩
    · exact .inl ⟨by omega, b, c, d⟩
    · exact .inr ⟨by omega, b, c, d⟩)
  have fs := fresh_step (j := (j : Int)) (sp := sp') hA hL (by omega) c2 c3 (by omega)
  have S0 : ∃ b h, SldI (fTake A L (fTake A L sg (first + j) kE) (first + j) kR) (KW kR) L ((first + j) / L) b h ∧ b = frst A L first (first + j) ∧ b * lft (first + j) L / L + h ≤ A ∧
      slid + (A - (b * lft (first + j) L / L + h)) = most A L ((first + j) / L - first / L) (first + j) := by
    rcases I.S with ⟨rfl, rfl, S⟩ | ⟨h1, b, h, S, e1, e2, e3⟩
    · have z : first + ((0 : Nat) : Int) = first := by omega
      rw [z]
      refine ⟨0, 0, S.congr fun w => ?_, ?_, ?_, ?_⟩
      · rw [fTake_other (K.neR w), fTake_other (K.neE w)]
      · unfold frst; rw [if_pos rfl]
      · rw [Int.zero_mul, Int.zero_ediv]; omega
      · unfold most; rw [if_neg (by omega), Int.zero_mul, Int.zero_ediv]; omega
    · have z : first + (j : Int) - 1 + 1 = first + j := by omega
      have st := slid_step hA hL (by omega) e1 e2 e3
      rw [z] at st
      refine ⟨_, _, (S.roll ?_).congr fun w => ?_, st.1, st.2.1, st.2.2⟩
      · exact Int.ediv_le_ediv (by omega) (by omega)
      · rw [fTake_other (K.neR w), fTake_other (K.neE w)]
  obtain ⟨b, h, S, sb, sr, st⟩ := S0
  obtain ⟨t1, t2⟩ := S.take hL rfl K.inj sr
  have cK : ∀ x, (∀ w, KW kR w ≠ x) → x ≠ curK kR (first + j) L := fun x hx e => hx ((first + j) / L) ((curK_eq hL).symm.trans e.symm)
  have ez : first + ((j + 1 : Nat) : Int) - 1 = first + j := by omega
  refine ⟨⟨⟨_, spn, FixI.congr (q3.later (by omega)) ?_, .inr ⟨by omega, q4, ?_, ?_⟩⟩, ⟨_, spn', FixI.congr (q3'.later (by omega)) ?_, ?_, ?_, .inr q4'⟩, .inr ⟨by omega, b, A - b * lft (first + j) L / L, ?_, ?_, ?_, ?_⟩⟩, ?_, ?_, ?_⟩
  · rw [sTake_other (cK _ K.neE), fTake_other K.ne]
  · rw [hj1]; exact es.1
  · rw [hj1, q1, q2]; exact es.2
  · rw [sTake_other (cK _ K.neR)]
  · rw [hj1]; exact fs.1
  · rw [hj1, q1', q2']; exact fs.2
  · rw [ez]; exact t2
  · rw [ez]
  · rw [ez]; exact sb
  · rw [ez, t1]; exact st
  · rw [hj1, q1, q2]; exact es.2
  · rw [hj1, q1', q2']; exact fs.2
  · rw [t1]; exact st
theorem FI.start {A L t : Int} {kE kR : Str} {sg : Sto} (hA : 1 ≤ A ∧ A ≤ 5) (hL : 2 ≤ L ∧ L ≤ 6) (h1 : sg kE = none) (h2 : sg kR = none) (h3 : ∀ w, sg (KW kR w) = none) (K : Trio kE kR) :
    decide (cnt sg t kE + 1 ≤ A) = true ∧ FI A L (t + (L - 1)) kE kR 0 (ups sg t kE L 1) 0 0 0 := by
  have F : FixI sg kE t t 0 := .inl ⟨h1, Int.le_refl _⟩
  refine ⟨?_, ⟨⟨t + L, 1, ?_, .inl ⟨rfl, by omega, rfl, rfl⟩⟩, ⟨t + (L - 1), 0, .inl ⟨?_, by omega⟩, ?_, ?_, .inl rfl⟩, .inl ⟨rfl, rfl, ⟨fun w _ => ?_, .inl ⟨?_, rfl⟩, .inl ⟨?_, rfl⟩⟩⟩⟩⟩
  · rw [F.cnt (Int.le_refl _), if_pos (Int.le_refl _)]; exact decide_eq_true (by omega)
  · have z := F.hit (L := L) (c := 1) (Int.le_refl t)
    rw [if_pos (Int.le_refl _), if_pos (Int.le_refl _), Int.zero_add] at z
    exact z.later (by omega)
  · rw [ups_other K.ne.symm]; exact h2
  · have e : (((0 : Nat) : Int) + L - 1) / L = 0 := Int.ediv_eq_zero_of_lt (by omega) (by omega)
    rw [e, Int.mul_zero]; omega
  · have e : (((0 : Nat) : Int) + L - 1) / L = 0 := Int.ediv_eq_zero_of_lt (by omega) (by omega)
    rw [e, Int.mul_zero]
  · rw [ups_other (K.neE _)]; exact h3 _
  · rw [ups_other (K.neE _)]; exact h3 _
  · rw [ups_other (K.neE _)]; exact h3 _
end Mine
end Plain4

section Plain5
theorem Mine.top_Plain5 : True := by
  w_top off
  trivial
open PySem
namespace Mine
theorem str_app (a b : Str) : (a ++ b).cps = a.cps ++ b.cps := rfl
theorem app_left {a x y : Str} (h : a ++ x = a ++ y) : x = y := by
  have e : a.cps ++ x.cps = a.cps ++ y.cps := congrArg Str.cps h
  cases x; cases y
  congr 1
  exact Array.append_right_inj _ |>.mp e
theorem ofString_inj {a b : String} (h : Str.ofString a = Str.ofString b) : a = b := by
  rw [Str.ofString_eq_toList, Str.ofString_eq_toList] at h
  have e : List.map Char.toNat a.toList = List.map Char.toNat b.toList := by
    have := congrArg (fun s : Str => s.cps.toList) h
    simpa using this
  have e2 := List.map_inj_right (f := Char.toNat) (fun {x y} q => Char.ext (UInt32.toNat_inj.mp q)) |>.mp e
  exact String.toList_inj.mp e2
theorem KW_inj {k : Str} (a b : Int) (h : KW k a = KW k b) : a = b := by
  unfold KW at h
  exact Int.repr_injective (ofString_inj (app_left h))
theorem KW_len {k : Str} (a : Int) : k.length + 1 ≤ (KW k a).length := by
  unfold KW
  have e4 : (Str.ofString "/").length = 1 := by decide +kernel
  rw [Str.length_append, Str.length_append, Str.length_append, e4]
  omega
theorem KW_ne {k : Str} (w : Int) : KW k w ≠ k := fun e => by
  have := KW_len (k := k) w
  rw [e] at this; omega
theorem KW_8 {k : Str} (h : 9 ≤ k.length) (w : Int) : at8 (KW k w) = at8 k := by
  unfold at8 KW
  rw [str_app, str_app, str_app]
  have e : (Str.empty).cps = #[] := rfl
  rw [e, Array.empty_append]
  have h' : 8 < k.cps.size := h
  rw [Array.getElem?_append_left (by rw [Array.size_append]; omega), Array.getElem?_append_left (by omega)]
theorem all25 {P : Int → Int → Prop} (h : ∀ a ∈ [1, 2, 3, 4, 5], ∀ l ∈ [2, 3, 4, 5, 6], P a l) {A L : Int} (hA : 1 ≤ A ∧ A ≤ 5) (hL : 2 ≤ L ∧ L ≤ 6) : P A L :=
  h A (by have : A = 1 ∨ A = 2 ∨ A = 3 ∨ A = 4 ∨ A = 5 := by omega
          simpa using this) L (by have : L = 2 ∨ L = 3 ∨ L = 4 ∨ L = 5 ∨ L = 6 := by omega
                                  simpa using this)
theorem key_ann {A L : Int} (hA : 1 ≤ A ∧ A ≤ 5) (hL : 2 ≤ L ∧ L ≤ 6) : at8 (keyF (Str.ofString "ann") A L) = some 97 ∧ 9 ≤ (keyF (Str.ofString "ann") A L).length :=
  all25 (P := fun A L => at8 (keyF (Str.ofString "ann") A L) = some 97 ∧ 9 ≤ (keyF (Str.ofString "ann") A L).length) (by decide +kernel) hA hL
theorem key_fresh {A L : Int} (hA : 1 ≤ A ∧ A ≤ 5) (hL : 2 ≤ L ∧ L ≤ 6) : at8 (keyF (Str.ofString "fresh") A L) = some 102 ∧ 9 ≤ (keyF (Str.ofString "fresh") A L).length :=
  all25 (P := fun A L => at8 (keyF (Str.ofString "fresh") A L) = some 102 ∧ 9 ≤ (keyF (Str.ofString "fresh") A L).length) (by decide +kernel) hA hL
theorem key_early {A L : Int} (hA : 1 ≤ A ∧ A ≤ 5) (hL : 2 ≤ L ∧ L ≤ 6) : at8 (keyF (Str.ofString "early") A L) = some 101 ∧ 9 ≤ (keyF (Str.ofString "early") A L).length :=
  all25 (P := fun A L => at8 (keyF (Str.ofString "early") A L) = some 101 ∧ 9 ≤ (keyF (Str.ofString "early") A L).length) (by decide +kernel) hA hL
theorem keys_ann {A L : Int} (hA : 1 ≤ A ∧ A ≤ 5) (hL : 2 ≤ L ∧ L ≤ 6) : Keys (keyF (Str.ofString "ann") A L) 97 :=
  ⟨KW_inj, KW_ne, (key_ann hA hL).1, fun w => (KW_8 (key_ann hA hL).2 w).trans (key_ann hA hL).1⟩
theorem trio {A L : Int} (hA : 1 ≤ A ∧ A ≤ 5) (hL : 2 ≤ L ∧ L ≤ 6) : Trio (keyF (Str.ofString "early") A L) (keyF (Str.ofString "fresh") A L) := by
  have e1 := (key_early hA hL).1
  have e2 := (key_fresh hA hL).1
  have e3 := fun w => (KW_8 (key_fresh hA hL).2 w).trans e2
  refine ⟨fun e => ?_, fun w e => ?_, KW_ne, KW_inj⟩
  · rw [e, e2] at e1; cases e1
  · have := e3 w; rw [e, e1] at this; cases this
theorem fresh_keys {A L : Int} {sg : Sto} (hA : 1 ≤ A ∧ A ≤ 5) (hL : 2 ≤ L ∧ L ≤ 6) (h : TK sg [97]) :
    sg (keyF (Str.ofString "early") A L) = none ∧ sg (keyF (Str.ofString "fresh") A L) = none ∧ ∀ w, sg (KW (keyF (Str.ofString "fresh") A L) w) = none :=
  ⟨h.fresh (key_early hA hL).1 (by decide), h.fresh (key_fresh hA hL).1 (by decide), fun w => h.fresh ((KW_8 (key_fresh hA hL).2 w).trans (key_fresh hA hL).1) (by decide)⟩
end Mine
end Plain5

section Plain6
theorem Mine.top_Plain6 : True := by
  w_top off
  trivial
open PySem
namespace Mine
/-- the tables fulls and sums, behind k turns of their loop -/
def tabF (A L : Int) (k : Nat) : List Int := (List.range (k + 1)).map (ful A L)
def tabS (A L : Int) (k : Nat) : List Int := (List.range (k + 1)).map (sms A L)
theorem tabF_last {A L : Int} {k : Nat} : tabF A L k = (List.range k).map (ful A L) ++ [ful A L k] := by unfold tabF; rw [List.range_succ, List.map_append]; rfl
theorem tabS_last {A L : Int} {k : Nat} : tabS A L k = (List.range k).map (sms A L) ++ [sms A L k] := by unfold tabS; rw [List.range_succ, List.map_append]; rfl
theorem tabF_succ {A L : Int} {k : Nat} : tabF A L (k + 1) = tabF A L k ++ [ful A L (k + 1)] := tabF_last
theorem tabS_succ {A L : Int} {k : Nat} : tabS A L (k + 1) = tabS A L k ++ [sms A L (k + 1)] := tabS_last
theorem tabF_at {A L : Int} {k i : Nat} (h : i ≤ k) : (tabF A L k)[i]? = some (ful A L i) := by unfold tabF; rw [List.getElem?_map, List.getElem?_range (by omega)]; rfl
theorem tabS_at {A L : Int} {k i : Nat} (h : i ≤ k) : (tabS A L k)[i]? = some (sms A L i) := by unfold tabS; rw [List.getElem?_map, List.getElem?_range (by omega)]; rfl
theorem ful_step {A L : Int} {k : Nat} (hL : 2 ≤ L ∧ L ≤ 6) : A - (ful A L k).fdiv L = ful A L (k + 1) := by
  rw [Int.fdiv_eq_ediv_of_nonneg _ (by omega)]; rfl
theorem sms_step {A L : Int} {k : Nat} : sms A L k + ful A L (k + 1) = sms A L (k + 1) := rfl
end Mine
end Plain6

section CTkF
theorem Mine.top_CTkF : True := by
  w_top off
  trivial
open PySem PySem.W PyProof.Rows
namespace Mine
open PySem PySem.Calls
local macro_rules | `(tactic| k_room) => `(tactic| ktr_room)
local macro_rules | `(tactic| k_units) => `(tactic| ktr_units)
local macro_rules | `(tactic| walk_at "getMethod ref") => `(tactic| (k_here; (with_reducible show wpAny _ _ (getMethod (Value.ref _) (PySem.Str.ofString "clock") _) _ _ _); k_dflt (refine' kmu_own ?k1 ?k2 ?k3 ?k4 ?k5 ?_; (case k1 => k_asm); (case k2 => k_asm); (case k3 => k_inst); (case k4 => k_is); (case k5 => k_is); k_whole)))
local macro_rules | `(tactic| walk_at "callWith ref nil nil") => `(tactic| (k_here; (fail_if_success (with_reducible show wpAny _ _ (callWith _ (Value.ref 483) _ _ _) _ _ _)); (fail_if_success (with_reducible show wpAny _ _ (callWith _ (Value.ref 171) _ _ _) _ _ _)); k_dflt (refine' callWith_lam ?k1 ?k2 ?_; (case k1 => k_asm); (case k2 => k_mem); k_whole)))
local macro_rules | `(tactic| walk_at "call ref nil") => `(tactic| (k_here; k_dflt (refine' clock_m ?k1 ?k2 ?k3 ?k4 ?k5 ?k6 ?m1 ?m2 ?m3 ?m4 ?c1 ?c2 ?c3 ?d1 ?d2 ?_; (case k1 => k_asm); (case k2 => k_asm); (case k3 => k_asm); (case k4 => k_asm); (case k5 => first | exact rfl | assumption); (case k6 => k_asm); (case m1 => k_mem); (case m2 => k_mem); (case m3 => k_mem); (case m4 => k_mem); (case c1 => k_asm); (case c2 => k_asm); (case c3 => k_asm); (case d1 => ktr_room); (case d2 => ktr_units); k_whole; intro t' h' tk' F' N')))
section
variable {w : World} {p : Program} {loose : List Str} {mean : ExcName → Option Value} {mg mb : Str → Option Value}
theorem fst_r {dp un : Nat} {gd : Option (List Code)} {cn : Str} {cs : Scope} {a : Addr} {ccd : Value} {cl : List (Str × Addr)} {outer : List Env} {A₀ : Around} {base h₀ : Heap} {L : Addr} {m : Str → Option Value} {s : Shared} {Q E : Value → Shared → Prop} {st sd S dS X EV lam cell c' now : Addr} {k1 k2 k3 k4 tq tt : Tok} {qual : Str} {pm ctv : Value} {oc oCell : Obj} {vs : Array Value} {esS esX : List DictEntry} {nS nX nn nE n : Nat} {sg : Str → Option (Int × Int)} {t : Int} {news : List (Addr × Obj)} {g1 : Obj → List (Addr × Obj)} {g2 : Obj → Obj → List (Addr × Obj)} {fx fxd it itd idt : Addr} {nm : Str} {kso tm ta tl tn : Tok} {A Ln : Int} {nk : Nat}
    (B : Below A₀ base outer h₀) (F : Fr h₀ L s.heap m) (KX : (Mine.hd.heap_39 w.params).In h₀) (T : Top p loose mean mg mb h₀) (hk : cs.kind = .function)
    (N : News h₀ L s.heap news) (U1 : UpdF S (cntO dS esS nS) news g1) (U2 : ∀ o, UpdF X (dictOf esX nX) (g1 o) (g2 o)) (i0 : (st, instObj 912 sd) ∈ news) (i1 : (sd, stD w k1 k2 k3 k4 lam S X EV) ∈ news) (i2 : (dS, dictOf [] 0) ∈ news) (i3 : (lam, lamO qual cell c' pm ctv) ∈ news) (i4 : (c', oc) ∈ news) (i5 : (cell, oCell) ∈ news) (i6 : (EV, dictOf [] nE) ∈ news) (i7 : (now, listOf #[.int t tt] nn) ∈ news) (i8 : (fx, instObj 241 fxd) ∈ news) (i9 : (fxd, dictOf [⟨PyData.keyHash w.params (Str.ofString "storage"), .str (Str.ofString "storage") kso, .ref st⟩] nk) ∈ news) (i10 : (it, itO itd A Ln ta tl tn) ∈ news) (i11 : (itd, dictOf [] 0) ∈ news)
    (R : StRep w esS esX sg t n) (hn : n ≤ 900) (ht : 0 ≤ t) (ord : @LT.lt Nat _ 1 cell ∧ @LT.lt Nat _ cell now ∧ @LT.lt Nat _ now c' ∧ @LT.lt Nat _ c' lam ∧ @LT.lt Nat _ lam sd ∧ @LT.lt Nat _ sd st ∧ @LT.lt Nat _ st dS ∧ @LT.lt Nat _ dS S ∧ @LT.lt Nat _ S X ∧ @LT.lt Nat _ X EV) (hc : oCell.data = .cell (some (.ref now))) (hc1 : oc.data = .fields vs) (hc2 : vs[1]? = some (.str qual tq)) (hid : List.lookup idt (Mine.hd.heap_39 w.params) = some (tup1 nm tm)) (hnm : nm.length ≤ 5) (hA : 1 ≤ A ∧ A ≤ 5) (hL : 2 ≤ Ln ∧ Ln ≤ 6) (ord2 : @LT.lt Nat _ X fx ∧ @LT.lt Nat _ X fxd ∧ @LT.lt Nat _ X it ∧ @LT.lt Nat _ X itd)
    (hd : dp + 14 < recursionLimit) (hu : un + 110 < cLine)
    (h : ∀ (D : Addr) (dw : Addr) (v : Value) (tr : Tok) (t' : Tok) tk' h' esS' nS' esX' nX', Fr h₀ L h' m → News h₀ L h' ((D, wsO dw v (fRest A sg t (keyF nm A Ln)) tr) :: (dw, dictOf [] 0) :: (g2 (cntO dS esS' nS') (dictOf esX' nX'))) → @LT.lt Nat _ X dw → @LT.lt Nat _ dw D → StRep w esS' esX' sg t n → Q (.ref D) { s with heap := h', toks := tk' }) :
    wpAny (model pg w) (ktrTop dp un gd cn cs L a ccd cl outer) (call (.ref 238) [.ref fx, .ref it, .ref idt]) Q E s := fst_m B F KX T hk N U1 U2 i0 i1 i2 i3 i4 i5 i6 i7 i8 i9 i10 i11 R hn ht ord hc hc1 hc2 hid hnm hA hL ord2 hd hu h
theorem f_no2 {A L : Int} {sg : Sto} {t : Int} {k : Str} (hL : 2 ≤ L ∧ L ≤ 6) (h : fRest A sg t k > 0) : ¬ (cnt (ups sg t k L (fRest A sg t k)) t k + 1 ≤ A) := by
  have z := f_no (A := A) (sg := sg) (t := t) (k := k) hL.1
  unfold fMid at z
  rw [if_pos h] at z
  exact of_decide_eq_false z
theorem f_no0 {A L : Int} {sg : Sto} {t : Int} {k : Str} (hL : 2 ≤ L ∧ L ≤ 6) (h : ¬ fRest A sg t k > 0) : ¬ (cnt sg t k + 1 ≤ A) := by
  have z := f_no (A := A) (sg := sg) (t := t) (k := k) hL.1
  unfold fMid at z
  rw [if_neg h] at z
  exact of_decide_eq_false z
theorem f_yes2 {A : Int} {sg : Sto} {t : Int} {k : Str} (h : fRest A sg t k > 0) : cnt sg t k + fRest A sg t k ≤ A := of_decide_eq_true (f_yes h)
theorem fTake_pos {A L : Int} {sg : Sto} {t : Int} {k : Str} (h : fRest A sg t k > 0) : fTake A L sg t k = ups (ups sg t k L (fRest A sg t k)) t k L 1 := by unfold fTake fMid; rw [if_pos h]
theorem fTake_neg {A L : Int} {sg : Sto} {t : Int} {k : Str} (h : ¬ fRest A sg t k > 0) : fTake A L sg t k = ups sg t k L 1 := by unfold fTake fMid; rw [if_neg h]
theorem fRest_le {A : Int} {sg : Sto} {t : Int} {k : Str} {N : Nat} (h : CB sg N) (hA : 1 ≤ A ∧ A ≤ 5) : fRest A sg t k ≤ 5 := by
  have := h.cnt t k
  unfold fRest; split <;> omega
theorem fco_lo {A : Int} {sg : Sto} {t : Int} {k : Str} {N : Nat} (h0 : 0 < fRest A sg t k) (h : CB sg N) (hA : 1 ≤ A ∧ A ≤ 5) (_ : 1 ≤ A ∧ A ≤ 5) : 1 ≤ fRest A sg t k ∧ fRest A sg t k ≤ 6 := by
  have := fRest_le (t := t) (k := k) h hA
  omega
local macro_rules | `(tactic| walk_at "getAttr ref") => `(tactic| (k_here; (with_reducible show wpAny _ _ (getAttr (Value.ref _) (PySem.Str.ofString "remaining") _) _ _ _); k_dflt (refine' rem_m ?k1 ?k2 ?k3 ?k4 ?k5 ?k6 ?i1 ?i2 ?d1 ?d2 ?_; (case k1 => k_asm); (case k2 => k_asm); (case k3 => k_asm); (case k4 => k_asm); (case k5 => first | exact rfl | assumption); (case k6 => k_asm); (case i1 => k_mem); (case i2 => k_mem); (case d1 => ktr_room); (case d2 => ktr_units); k_whole; intro tk' h' F' N')))
local macro_rules | `(tactic| walk_at "call ref") => `(tactic| (k_here; k_dflt (show wpAny _ _ (call (Value.ref 238) [Value.ref _, Value.ref _, Value.ref _] []) _ _ _); k_dflt (refine' fst_r ?k1 ?k2 ?k3 ?k4 ?k5 ?k6 ?u1 ?u2 ?i0 ?i1 ?i2 ?i3 ?i4 ?i5 ?i6 ?i7 ?i8 ?i9 ?i10 ?i11 ?r1 ?r2 ?r3 ?s1 ?s2 ?s3 ?s4 ?e0 ?e1 ?e2 ?e3 ?e4 ?d1 ?d2 ?_; (case k1 => k_asm); (case k2 => k_asm); (case k3 => k_asm); (case k4 => k_asm); (case k5 => first | exact rfl | assumption); (case k6 => k_asm); (case i0 => k_mem); (case i1 => k_mem); (case i8 => k_mem); (case i9 => k_mem); (case i10 => k_mem); (case i11 => k_mem); (case i3 => k_mem); (case i4 => k_mem); (case i5 => k_mem); (case s2 => k_asm); (case s3 => k_asm); (case s4 => k_asm); (case i7 => k_mem); (case u1 => k_updF); (case i2 => k_mem); (case i6 => k_mem); (case u2 => (intro o; (try dsimp only); k_updF)); (case r1 => k_asm); (case r2 => omega); (case r3 => omega); (case s1 => k_asm); (case e0 => first | with_reducible assumption | omega); (case e1 => first | with_reducible assumption | omega); (case e2 => first | with_reducible assumption | omega); (case e3 => first | with_reducible assumption | omega); (case e4 => first | with_reducible assumption | omega); (case d1 => ktr_room); (case d2 => ktr_units); k_whole; intro D' dw' v' tr' t' tk' h' esS' nS' esX' nX' F' N' l1' l2' R'; (try dsimp only at N'))))
local macro_rules | `(tactic| walk_at "call ref") => `(tactic| (k_here; k_dflt (show wpAny _ _ (call (Value.ref 220) [Value.ref _, Value.ref _, Value.ref _, Value.int _ _] []) _ _ _); k_dflt (refine' fix_m ?k1 ?k2 ?k3 ?k4 ?k5 ?k6 ?u1 ?u2 ?i0 ?i1 ?i2 ?i3 ?i4 ?i5 ?i6 ?i7 ?i8 ?i9 ?i10 ?i11 ?r1 ?r2 ?r3 ?s1 ?s2 ?s3 ?s4 ?e0 ?e1 ?e2 ?e3 ?e4 ?e5 ?d1 ?d2 ?_; (case k1 => k_asm); (case k2 => k_asm); (case k3 => k_asm); (case k4 => k_asm); (case k5 => first | exact rfl | assumption); (case k6 => k_asm); (case i0 => k_mem); (case i1 => k_mem); (case i8 => k_mem); (case i9 => k_mem); (case i10 => k_mem); (case i11 => k_mem); (case i3 => k_mem); (case i4 => k_mem); (case i5 => k_mem); (case s2 => k_asm); (case s3 => k_asm); (case s4 => k_asm); (case i7 => k_mem); (case u1 => k_updF); (case i2 => k_mem); (case i6 => k_mem); (case u2 => (intro o; (try dsimp only); k_updF)); (case r1 => k_asm); (case r2 => omega); (case r3 => omega); (case s1 => k_asm); (case e0 => first | with_reducible assumption | omega | exact fco_lo (by assumption) (by assumption) (by assumption) (by assumption)); (case e1 => first | with_reducible assumption | omega | exact fco_lo (by assumption) (by assumption) (by assumption) (by assumption)); (case e2 => first | with_reducible assumption | omega | exact fco_lo (by assumption) (by assumption) (by assumption) (by assumption)); (case e3 => first | with_reducible assumption | omega | exact fco_lo (by assumption) (by assumption) (by assumption) (by assumption)); (case e4 => first | with_reducible assumption | omega | exact fco_lo (by assumption) (by assumption) (by assumption) (by assumption)); (case e5 => first | with_reducible assumption | omega | exact fco_lo (by assumption) (by assumption) (by assumption) (by assumption)); (case d1 => ktr_room); (case d2 => ktr_units); k_whole; intro t' tk' h' esS' nS' esX' nX' F' N' R'; (try dsimp only at N'))))
set_option maxHeartbeats 8000000 in
theorem tkf_c {dp un : Nat} {gd : Option (List Code)} {cn : Str} {cs : Scope} {a : Addr} {ccd : Value} {cl : List (Str × Addr)} {outer : List Env} {A₀ : Around} {base h₀ : Heap} {L : Addr} {m : Str → Option Value} {s : Shared} {Q E : Value → Shared → Prop} {st sd S dS X EV lam cell c' now : Addr} {k1 k2 k3 k4 tq tt : Tok} {qual : Str} {pm ctv : Value} {oc oCell : Obj} {vs : Array Value} {esS esX : List DictEntry} {nS nX nn nE n : Nat} {sg : Str → Option (Int × Int)} {t : Int} {rest : List (Addr × Obj)} {fx fxd it itd idt : Addr} {nm : Str} {kso tm ta tl tn : Tok} {A Ln : Int} {nk : Nat}
    (B : Below A₀ base outer h₀) (F : Fr h₀ L s.heap m) (KX : (Mine.hd.heap_39 w.params).In h₀) (T : Top p loose mean mg mb h₀) (hk : cs.kind = .function)
    (N : News h₀ L s.heap ((S, cntO dS esS nS) :: (X, dictOf esX nX) :: (st, instObj 912 sd) :: (sd, stD w k1 k2 k3 k4 lam S X EV) :: (dS, dictOf [] 0) :: (lam, lamO qual cell c' pm ctv) :: (c', oc) :: (cell, oCell) :: (EV, dictOf [] nE) :: (now, listOf #[.int t tt] nn) :: (fx, instObj 241 fxd) :: (fxd, dictOf [⟨PyData.keyHash w.params (Str.ofString "storage"), .str (Str.ofString "storage") kso, .ref st⟩] nk) :: (it, itO itd A Ln ta tl tn) :: (itd, dictOf [] 0) :: rest))
    (R : StRep w esS esX sg t n) (hn : n ≤ 900) (ht : 0 ≤ t) (ord : @LT.lt Nat _ 1 cell ∧ @LT.lt Nat _ cell now ∧ @LT.lt Nat _ now c' ∧ @LT.lt Nat _ c' lam ∧ @LT.lt Nat _ lam sd ∧ @LT.lt Nat _ sd st ∧ @LT.lt Nat _ st dS ∧ @LT.lt Nat _ dS S ∧ @LT.lt Nat _ S X ∧ @LT.lt Nat _ X EV) (hc : oCell.data = .cell (some (.ref now))) (hc1 : oc.data = .fields vs) (hc2 : vs[1]? = some (.str qual tq)) (rS : ∀ p ∈ rest, p.1 ≠ S) (rX : ∀ p ∈ rest, p.1 ≠ X) (hid : List.lookup idt (Mine.hd.heap_39 w.params) = some (tup1 nm tm)) (hnm : nm.length ≤ 5) (hA : 1 ≤ A ∧ A ≤ 5) (hL : 2 ≤ Ln ∧ Ln ≤ 6) (ord2 : @LT.lt Nat _ X fx ∧ @LT.lt Nat _ X fxd ∧ @LT.lt Nat _ X it ∧ @LT.lt Nat _ X itd) (hcb : CB sg 1000) (hn2 : n ≤ 800)
    (hd : dp + 20 < recursionLimit) (hu : un + 150 < cLine)
    (h : ∀ (t' : Tok) tk' h' esS' nS' esX' nX', Fr h₀ L h' m → News h₀ L h' (((S, cntO dS esS' nS') :: (X, dictOf esX' nX') :: (st, instObj 912 sd) :: (sd, stD w k1 k2 k3 k4 lam S X EV) :: (dS, dictOf [] 0) :: (lam, lamO qual cell c' pm ctv) :: (c', oc) :: (cell, oCell) :: (EV, dictOf [] nE) :: (now, listOf #[.int t tt] nn) :: (fx, instObj 241 fxd) :: (fxd, dictOf [⟨PyData.keyHash w.params (Str.ofString "storage"), .str (Str.ofString "storage") kso, .ref st⟩] nk) :: (it, itO itd A Ln ta tl tn) :: (itd, dictOf [] 0) :: rest)) → StRep w esS' esX' (fTake A Ln sg t (keyF nm A Ln)) t (n + 2) → Q (.int (fRest A sg t (keyF nm A Ln)) t') { s with heap := h', toks := tk' }) :
    wpAny (model pg w) (ktrTop dp un gd cn cs L a ccd cl outer) (call (.ref 925) [.ref fx, .ref it, .ref idt]) Q E s := by
  have lS : @LT.lt Nat _ 1 S := by omega
  have lX : @LT.lt Nat _ 1 X := by omega
  refine wpAny_call ?_
  (refine' code_def ?k1 ?k2 ?k3 ?k4 ?k5 ?kA ?kF ?kK ?k6 ?k7 ?k8 ?k9 ?kB ?_ ?c2 ?c3 ?c4 ?c5; (case kA => exact rfl); (case kF => exact rfl); (case kK => assumption); (case k1 => k_asm); (case k2 => k_asm); (case k3 => k_asm); (case k4 => k_asm); (case k5 => k_asm); (case k6 => k_is); (case k7 => k_is); (case k8 => ktr_room); (case k9 => first | exact BindsTo.of_eq rfl | exact binds_K (by k_in) rfl (by k_is) rfl rfl rfl); (case c5 => decide); (case kB => exact locs rfl); (case c2 => exact rfl); (case c3 => exact rfl); (case c4 => exact rfl); k_whole; intro g' L' h' FG' F' N' B' X' T'; (try dsimp only); (try k_fold))
  repeat' (first | (k_unfold; (try dsimp only)) | (k_end; wrow_close) | walk1 | (dsimp only; walk1) | (leave1; try dsimp only))
  all_goals first
    | exact absurd (by with_reducible assumption : fRest A sg t (keyF nm A Ln) < 0) (Int.not_lt.mpr fRest_nn)
    | exact absurd (by with_reducible assumption : cnt (ups sg t (keyF nm A Ln) Ln (fRest A sg t (keyF nm A Ln))) t (keyF nm A Ln) + 1 ≤ A) (f_no2 hL (by with_reducible assumption : 0 < fRest A sg t (keyF nm A Ln)))
    | exact absurd (f_yes2 (by with_reducible assumption : 0 < fRest A sg t (keyF nm A Ln))) (by with_reducible assumption : ¬ cnt sg t (keyF nm A Ln) + fRest A sg t (keyF nm A Ln) ≤ A)
    | exact absurd (by with_reducible assumption : cnt sg t (keyF nm A Ln) + 1 ≤ A) (f_no0 hL (by with_reducible assumption : ¬ 0 < fRest A sg t (keyF nm A Ln)))
    | (have e9 := fTake_pos (L := Ln) (by with_reducible assumption : 0 < fRest A sg t (keyF nm A Ln))
       exact h _ _ _ _ _ _ _ (by k_asm) (news_of (by k_asm) (fun q hq => .tail _ (.tail _ hq))) (by rw [e9]; exact StRep.mono (by assumption) (by omega)))
    | (have e9 := fTake_neg (L := Ln) (by with_reducible assumption : ¬ 0 < fRest A sg t (keyF nm A Ln))
       exact h _ _ _ _ _ _ _ (by k_asm) (news_of (by k_asm) (fun q hq => .tail _ (.tail _ hq))) (by rw [e9]; exact StRep.mono (by assumption) (by omega)))

theorem tkf_m {dp un : Nat} {gd : Option (List Code)} {cn : Str} {cs : Scope} {a : Addr} {ccd : Value} {cl : List (Str × Addr)} {outer : List Env} {A₀ : Around} {base h₀ : Heap} {L : Addr} {m : Str → Option Value} {s : Shared} {Q E : Value → Shared → Prop} {st sd S dS X EV lam cell c' now : Addr} {k1 k2 k3 k4 tq tt : Tok} {qual : Str} {pm ctv : Value} {oc oCell : Obj} {vs : Array Value} {esS esX : List DictEntry} {nS nX nn nE n : Nat} {sg : Str → Option (Int × Int)} {t : Int} {news : List (Addr × Obj)} {g1 : Obj → List (Addr × Obj)} {g2 : Obj → Obj → List (Addr × Obj)} {fx fxd it itd idt : Addr} {nm : Str} {kso tm ta tl tn : Tok} {A Ln : Int} {nk : Nat}
    (B : Below A₀ base outer h₀) (F : Fr h₀ L s.heap m) (KX : (Mine.hd.heap_39 w.params).In h₀) (T : Top p loose mean mg mb h₀) (hk : cs.kind = .function)
    (N : News h₀ L s.heap news) (U1 : UpdF S (cntO dS esS nS) news g1) (U2 : ∀ o, UpdF X (dictOf esX nX) (g1 o) (g2 o)) (i0 : (st, instObj 912 sd) ∈ news) (i1 : (sd, stD w k1 k2 k3 k4 lam S X EV) ∈ news) (i2 : (dS, dictOf [] 0) ∈ news) (i3 : (lam, lamO qual cell c' pm ctv) ∈ news) (i4 : (c', oc) ∈ news) (i5 : (cell, oCell) ∈ news) (i6 : (EV, dictOf [] nE) ∈ news) (i7 : (now, listOf #[.int t tt] nn) ∈ news) (i8 : (fx, instObj 241 fxd) ∈ news) (i9 : (fxd, dictOf [⟨PyData.keyHash w.params (Str.ofString "storage"), .str (Str.ofString "storage") kso, .ref st⟩] nk) ∈ news) (i10 : (it, itO itd A Ln ta tl tn) ∈ news) (i11 : (itd, dictOf [] 0) ∈ news)
    (R : StRep w esS esX sg t n) (hn : n ≤ 900) (ht : 0 ≤ t) (ord : @LT.lt Nat _ 1 cell ∧ @LT.lt Nat _ cell now ∧ @LT.lt Nat _ now c' ∧ @LT.lt Nat _ c' lam ∧ @LT.lt Nat _ lam sd ∧ @LT.lt Nat _ sd st ∧ @LT.lt Nat _ st dS ∧ @LT.lt Nat _ dS S ∧ @LT.lt Nat _ S X ∧ @LT.lt Nat _ X EV) (hc : oCell.data = .cell (some (.ref now))) (hc1 : oc.data = .fields vs) (hc2 : vs[1]? = some (.str qual tq)) (hid : List.lookup idt (Mine.hd.heap_39 w.params) = some (tup1 nm tm)) (hnm : nm.length ≤ 5) (hA : 1 ≤ A ∧ A ≤ 5) (hL : 2 ≤ Ln ∧ Ln ≤ 6) (ord2 : @LT.lt Nat _ X fx ∧ @LT.lt Nat _ X fxd ∧ @LT.lt Nat _ X it ∧ @LT.lt Nat _ X itd) (hcb : CB sg 1000) (hn2 : n ≤ 800)
    (hd : dp + 20 < recursionLimit) (hu : un + 150 < cLine)
    (h : ∀ (t' : Tok) tk' h' esS' nS' esX' nX', Fr h₀ L h' m → News h₀ L h' ((g2 (cntO dS esS' nS') (dictOf esX' nX'))) → StRep w esS' esX' (fTake A Ln sg t (keyF nm A Ln)) t (n + 2) → Q (.int (fRest A sg t (keyF nm A Ln)) t') { s with heap := h', toks := tk' }) :
    wpAny (model pg w) (ktrTop dp un gd cn cs L a ccd cl outer) (call (.ref 925) [.ref fx, .ref it, .ref idt]) Q E s := by
  obtain ⟨rest, rS, rX, jS, jX, jr, jb⟩ := adapt U1 U2
  have N1 : News h₀ L s.heap ((S, cntO dS esS nS) :: (X, dictOf esX nX) :: (st, instObj 912 sd) :: (sd, stD w k1 k2 k3 k4 lam S X EV) :: (dS, dictOf [] 0) :: (lam, lamO qual cell c' pm ctv) :: (c', oc) :: (cell, oCell) :: (EV, dictOf [] nE) :: (now, listOf #[.int t tt] nn) :: (fx, instObj 241 fxd) :: (fxd, dictOf [⟨PyData.keyHash w.params (Str.ofString "storage"), .str (Str.ofString "storage") kso, .ref st⟩] nk) :: (it, itO itd A Ln ta tl tn) :: (itd, dictOf [] 0) :: rest) := news_of N (by
    intro q hq
    simp only [List.mem_cons] at hq
    rcases hq with rfl | rfl | rfl | rfl | rfl | rfl | rfl | rfl | rfl | rfl | rfl | rfl | rfl | rfl | hq <;> first | with_reducible assumption | exact jr _ hq)
  refine tkf_c B F KX T hk N1 R hn ht ord hc hc1 hc2 rS rX hid hnm hA hL ord2 hcb hn2 hd hu ?_
  intro  t' tk' h' esS' nS' esX' nX' F' N'
  exact h  t' tk' h' esS' nS' esX' nX' F' (news_of N' (fun q hq => by
    rcases jb _ _ q hq with rfl | rfl | hq
    · exact .head _
    · exact .tail _ (.head _)
    · simp only [List.mem_cons]; repeat' (first | exact .inr hq | refine .inr ?_)))
end
end Mine
end CTkF

section CTkS
theorem Mine.top_CTkS : True := by
  w_top off
  trivial
open PySem PySem.W PyProof.Rows
namespace Mine
open PySem PySem.Calls
local macro_rules | `(tactic| k_room) => `(tactic| ktr_room)
local macro_rules | `(tactic| k_units) => `(tactic| ktr_units)
local macro_rules | `(tactic| walk_at "unused0") => `(tactic| fail)
local macro_rules | `(tactic| walk_at "getMethod ref") => `(tactic| (k_here; (with_reducible show wpAny _ _ (getMethod (Value.ref _) (PySem.Str.ofString "clock") _) _ _ _); k_dflt (refine' kmu_own ?k1 ?k2 ?k3 ?k4 ?k5 ?_; (case k1 => k_asm); (case k2 => k_asm); (case k3 => k_inst); (case k4 => k_is); (case k5 => k_is); k_whole)))
local macro_rules | `(tactic| walk_at "callWith ref nil nil") => `(tactic| (k_here; (fail_if_success (with_reducible show wpAny _ _ (callWith _ (Value.ref 483) _ _ _) _ _ _)); (fail_if_success (with_reducible show wpAny _ _ (callWith _ (Value.ref 171) _ _ _) _ _ _)); k_dflt (refine' callWith_lam ?k1 ?k2 ?_; (case k1 => k_asm); (case k2 => k_mem); k_whole)))
local macro_rules | `(tactic| walk_at "call ref nil") => `(tactic| (k_here; k_dflt (refine' clock_m ?k1 ?k2 ?k3 ?k4 ?k5 ?k6 ?m1 ?m2 ?m3 ?m4 ?c1 ?c2 ?c3 ?d1 ?d2 ?_; (case k1 => k_asm); (case k2 => k_asm); (case k3 => k_asm); (case k4 => k_asm); (case k5 => first | exact rfl | assumption); (case k6 => k_asm); (case m1 => k_mem); (case m2 => k_mem); (case m3 => k_mem); (case m4 => k_mem); (case c1 => k_asm); (case c2 => k_asm); (case c3 => k_asm); (case d1 => ktr_room); (case d2 => ktr_units); k_whole; intro t' h' tk' F' N')))
section
variable {w : World} {p : Program} {loose : List Str} {mean : ExcName → Option Value} {mg mb : Str → Option Value}
theorem sst_r {dp un : Nat} {gd : Option (List Code)} {cn : Str} {cs : Scope} {a : Addr} {ccd : Value} {cl : List (Str × Addr)} {outer : List Env} {A₀ : Around} {base h₀ : Heap} {L : Addr} {m : Str → Option Value} {s : Shared} {Q E : Value → Shared → Prop} {st sd S dS X EV lam cell c' now : Addr} {k1 k2 k3 k4 tq tt : Tok} {qual : Str} {pm ctv : Value} {oc oCell : Obj} {vs : Array Value} {esS esX : List DictEntry} {nS nX nn nE n : Nat} {sg : Str → Option (Int × Int)} {t : Int} {news : List (Addr × Obj)} {g1 : Obj → List (Addr × Obj)} {g2 : Obj → Obj → List (Addr × Obj)} {fx fxd it itd idt : Addr} {nm : Str} {kso tm ta tl tn : Tok} {A Ln : Int} {nk : Nat}
    (B : Below A₀ base outer h₀) (F : Fr h₀ L s.heap m) (KX : (Mine.hd.heap_39 w.params).In h₀) (T : Top p loose mean mg mb h₀) (hk : cs.kind = .function)
    (N : News h₀ L s.heap news) (U1 : UpdF S (cntO dS esS nS) news g1) (U2 : ∀ o, UpdF X (dictOf esX nX) (g1 o) (g2 o)) (i0 : (st, instObj 912 sd) ∈ news) (i1 : (sd, stD w k1 k2 k3 k4 lam S X EV) ∈ news) (i2 : (dS, dictOf [] 0) ∈ news) (i3 : (lam, lamO qual cell c' pm ctv) ∈ news) (i4 : (c', oc) ∈ news) (i5 : (cell, oCell) ∈ news) (i6 : (EV, dictOf [] nE) ∈ news) (i7 : (now, listOf #[.int t tt] nn) ∈ news) (i8 : (fx, instObj 296 fxd) ∈ news) (i9 : (fxd, dictOf [⟨PyData.keyHash w.params (Str.ofString "storage"), .str (Str.ofString "storage") kso, .ref st⟩] nk) ∈ news) (i10 : (it, itO itd A Ln ta tl tn) ∈ news) (i11 : (itd, dictOf [] 0) ∈ news)
    (R : StRep w esS esX sg t n) (hn : n ≤ 900) (ht : 0 ≤ t) (ord : @LT.lt Nat _ 1 cell ∧ @LT.lt Nat _ cell now ∧ @LT.lt Nat _ now c' ∧ @LT.lt Nat _ c' lam ∧ @LT.lt Nat _ lam sd ∧ @LT.lt Nat _ sd st ∧ @LT.lt Nat _ st dS ∧ @LT.lt Nat _ dS S ∧ @LT.lt Nat _ S X ∧ @LT.lt Nat _ X EV) (hc : oCell.data = .cell (some (.ref now))) (hc1 : oc.data = .fields vs) (hc2 : vs[1]? = some (.str qual tq)) (hid : List.lookup idt (Mine.hd.heap_39 w.params) = some (tup1 nm tm)) (hnm : nm.length ≤ 5) (hA : 1 ≤ A ∧ A ≤ 5) (hL : 2 ≤ Ln ∧ Ln ≤ 6) (ord2 : @LT.lt Nat _ X fx ∧ @LT.lt Nat _ X fxd ∧ @LT.lt Nat _ X it ∧ @LT.lt Nat _ X itd) (htt : 10 ≤ t ∧ t ≤ 5000) (hcb : ∀ k, 0 ≤ cnt sg t k ∧ cnt sg t k ≤ 100000)
    (hd : dp + 30 < recursionLimit) (hu : un + 150 < cLine)
    (h : ∀ (D : Addr) (dw : Addr) (v : Value) (tr : Tok) (t' : Tok) tk' h' esS' nS' esX' nX', Fr h₀ L h' m → News h₀ L h' ((D, wsO dw v (sRest A Ln sg t (keyF nm A Ln)) tr) :: (dw, dictOf [] 0) :: (g2 (cntO dS esS' nS') (dictOf esX' nX'))) → @LT.lt Nat _ X dw → @LT.lt Nat _ dw D → StRep w esS' esX' sg t n → Q (.ref D) { s with heap := h', toks := tk' }) :
    wpAny (model pg w) (ktrTop dp un gd cn cs L a ccd cl outer) (call (.ref 284) [.ref fx, .ref it, .ref idt]) Q E s := sst_m B F KX T hk N U1 U2 i0 i1 i2 i3 i4 i5 i6 i7 i8 i9 i10 i11 R hn ht ord hc hc1 hc2 hid hnm hA hL ord2 htt hcb hd hu h
theorem cb_ok {sg : Sto} {t : Int} (h : CB sg 1000) : ∀ k, 0 ≤ cnt sg t k ∧ cnt sg t k ≤ 100000 := fun k => by have := h.cnt t k; omega
theorem cb_ok2 {sg : Sto} {t x c : Int} {k' : Str} {b : Bool} (h : CB sg 1000) (h0 : 0 ≤ c) (h1 : c ≤ 6) : ∀ k, 0 ≤ cnt (if b then ups sg t k' x c else sg) t k ∧ cnt (if b then ups sg t k' x c else sg) t k ≤ 100000 := by
  cases b with
  | true => simp only [if_true]; exact fun k => by have := (h.ups (t := t) (x := x) (k := k') h0 h1).cnt t k; omega
  | false => simp only [if_neg Bool.false_ne_true]; exact cb_ok h
theorem sRest_co {A L : Int} {sg : Sto} {t : Int} {k : Str} (h0 : 0 < sRest A L sg t k) (h : CB sg 1000) (hA : 1 ≤ A ∧ A ≤ 5) (hL : 2 ≤ L ∧ L ≤ 6) : 1 ≤ sRest A L sg t k ∧ sRest A L sg t k ≤ 6 := by
  have := wgt_nn (key := k) (t := t) hL (fun x => (h.cnt t x).1)
  refine ⟨h0, ?_⟩
  unfold sRest; split <;> omega
theorem s_yes2 {A L : Int} {sg : Sto} {t : Int} {k : Str} (h : CB sg 1000) (hL : 2 ≤ L ∧ L ≤ 6) (h0 : 0 < sRest A L sg t k) : acqOk sg t k A L (sRest A L sg t k) = true :=
  s_yes (wgt_nn hL (fun x => (h.cnt t x).1)) h0
theorem s_no2 {A L : Int} {sg : Sto} {t : Int} {k : Str} (h : CB sg 1000) (hL : 2 ≤ L ∧ L ≤ 6) (h0 : 0 < sRest A L sg t k) :
    acqOk (if acqOk sg t k A L (sRest A L sg t k) then ups sg t (curK k t L) (2 * L) (sRest A L sg t k) else sg) t k A L 1 = false ∧ (if acqOk sg t k A L (sRest A L sg t k) then ups sg t (curK k t L) (2 * L) (sRest A L sg t k) else sg) = sTake A L sg t k := by
  have e : (if acqOk sg t k A L (sRest A L sg t k) then ups sg t (curK k t L) (2 * L) (sRest A L sg t k) else sg) = sTake A L sg t k := by
    rw [s_yes2 h hL h0]; unfold sTake; rw [if_pos h0]; rfl
  exact ⟨by rw [e]; exact s_no hL KW_inj, e⟩
theorem s_no0 {A L : Int} {sg : Sto} {t : Int} {k : Str} (hL : 2 ≤ L ∧ L ≤ 6) (h0 : ¬ 0 < sRest A L sg t k) : acqOk sg t k A L 1 = false ∧ sg = sTake A L sg t k := by
  have e : sTake A L sg t k = sg := by unfold sTake; exact if_neg h0
  have z := s_no (A := A) (sg := sg) (t := t) (key := k) hL KW_inj
  rw [e] at z
  exact ⟨z, e.symm⟩
theorem s_end {A L : Int} {sg s1 : Sto} {t : Int} {k : Str} {f : Sto} (e : acqOk s1 t k A L 1 = false) (e2 : s1 = sTake A L sg t k) : (if acqOk s1 t k A L 1 then f else s1) = sTake A L sg t k := by
  rw [e]; exact e2
local macro_rules | `(tactic| walk_at "getAttr ref") => `(tactic| (k_here; (with_reducible show wpAny _ _ (getAttr (Value.ref _) (PySem.Str.ofString "remaining") _) _ _ _); k_dflt (refine' rem_m ?k1 ?k2 ?k3 ?k4 ?k5 ?k6 ?i1 ?i2 ?d1 ?d2 ?_; (case k1 => k_asm); (case k2 => k_asm); (case k3 => k_asm); (case k4 => k_asm); (case k5 => first | exact rfl | assumption); (case k6 => k_asm); (case i1 => k_mem); (case i2 => k_mem); (case d1 => ktr_room); (case d2 => ktr_units); k_whole; intro tk' h' F' N')))
local macro_rules | `(tactic| walk_at "call ref") => `(tactic| (k_here; k_dflt (show wpAny _ _ (call (Value.ref 284) [Value.ref _, Value.ref _, Value.ref _] []) _ _ _); k_dflt (refine' sst_r ?k1 ?k2 ?k3 ?k4 ?k5 ?k6 ?u1 ?u2 ?i0 ?i1 ?i2 ?i3 ?i4 ?i5 ?i6 ?i7 ?i8 ?i9 ?i10 ?i11 ?r1 ?r2 ?r3 ?s1 ?s2 ?s3 ?s4 ?e0 ?e1 ?e2 ?e3 ?e4 ?e5 ?e6 ?d1 ?d2 ?_; (case k1 => k_asm); (case k2 => k_asm); (case k3 => k_asm); (case k4 => k_asm); (case k5 => first | exact rfl | assumption); (case k6 => k_asm); (case i0 => k_mem); (case i1 => k_mem); (case i8 => k_mem); (case i9 => k_mem); (case i10 => k_mem); (case i11 => k_mem); (case i3 => k_mem); (case i4 => k_mem); (case i5 => k_mem); (case s2 => k_asm); (case s3 => k_asm); (case s4 => k_asm); (case i7 => k_mem); (case u1 => k_updF); (case i2 => k_mem); (case i6 => k_mem); (case u2 => (intro o; (try dsimp only); k_updF)); (case r1 => k_asm); (case r2 => omega); (case r3 => omega); (case s1 => k_asm); (case e0 => first | with_reducible assumption | omega | exact cb_ok (by assumption) | exact sRest_co (by assumption) (by assumption) (by assumption) (by assumption) | exact cb_ok2 (by assumption) (by omega) (sRest_co (by assumption) (by assumption) (by assumption) (by assumption)).2); (case e1 => first | with_reducible assumption | omega | exact cb_ok (by assumption) | exact sRest_co (by assumption) (by assumption) (by assumption) (by assumption) | exact cb_ok2 (by assumption) (by omega) (sRest_co (by assumption) (by assumption) (by assumption) (by assumption)).2); (case e2 => first | with_reducible assumption | omega | exact cb_ok (by assumption) | exact sRest_co (by assumption) (by assumption) (by assumption) (by assumption) | exact cb_ok2 (by assumption) (by omega) (sRest_co (by assumption) (by assumption) (by assumption) (by assumption)).2); (case e3 => first | with_reducible assumption | omega | exact cb_ok (by assumption) | exact sRest_co (by assumption) (by assumption) (by assumption) (by assumption) | exact cb_ok2 (by assumption) (by omega) (sRest_co (by assumption) (by assumption) (by assumption) (by assumption)).2); (case e4 => first | with_reducible assumption | omega | exact cb_ok (by assumption) | exact sRest_co (by assumption) (by assumption) (by assumption) (by assumption) | exact cb_ok2 (by assumption) (by omega) (sRest_co (by assumption) (by assumption) (by assumption) (by assumption)).2); (case e5 => first | with_reducible assumption | omega | exact cb_ok (by assumption) | exact sRest_co (by assumption) (by assumption) (by assumption) (by assumption) | exact cb_ok2 (by assumption) (by omega) (sRest_co (by assumption) (by assumption) (by assumption) (by assumption)).2); (case e6 => first | with_reducible assumption | omega | exact cb_ok (by assumption) | exact sRest_co (by assumption) (by assumption) (by assumption) (by assumption) | exact cb_ok2 (by assumption) (by omega) (sRest_co (by assumption) (by assumption) (by assumption) (by assumption)).2); (case d1 => ktr_room); (case d2 => ktr_units); k_whole; intro D' dw' v' tr' t' tk' h' esS' nS' esX' nX' F' N' l1' l2' R'; (try dsimp only at N'))))
local macro_rules | `(tactic| walk_at "call ref") => `(tactic| (k_here; k_dflt (show wpAny _ _ (call (Value.ref 266) [Value.ref _, Value.ref _, Value.ref _, Value.int _ _] []) _ _ _); k_dflt (refine' sld_m ?k1 ?k2 ?k3 ?k4 ?k5 ?k6 ?u1 ?u2 ?i0 ?i1 ?i2 ?i3 ?i4 ?i5 ?i6 ?i7 ?i8 ?i9 ?i10 ?i11 ?r1 ?r2 ?r3 ?s1 ?s2 ?s3 ?s4 ?e0 ?e1 ?e2 ?e3 ?e4 ?e5 ?e6 ?e7 ?d1 ?d2 ?_; (case k1 => k_asm); (case k2 => k_asm); (case k3 => k_asm); (case k4 => k_asm); (case k5 => first | exact rfl | assumption); (case k6 => k_asm); (case i0 => k_mem); (case i1 => k_mem); (case i8 => k_mem); (case i9 => k_mem); (case i10 => k_mem); (case i11 => k_mem); (case i3 => k_mem); (case i4 => k_mem); (case i5 => k_mem); (case s2 => k_asm); (case s3 => k_asm); (case s4 => k_asm); (case i7 => k_mem); (case u1 => k_updF); (case i2 => k_mem); (case i6 => k_mem); (case u2 => (intro o; (try dsimp only); k_updF)); (case r1 => k_asm); (case r2 => omega); (case r3 => omega); (case s1 => k_asm); (case e0 => first | with_reducible assumption | omega | exact cb_ok (by assumption) | exact sRest_co (by assumption) (by assumption) (by assumption) (by assumption) | exact cb_ok2 (by assumption) (by omega) (sRest_co (by assumption) (by assumption) (by assumption) (by assumption)).2); (case e1 => first | with_reducible assumption | omega | exact cb_ok (by assumption) | exact sRest_co (by assumption) (by assumption) (by assumption) (by assumption) | exact cb_ok2 (by assumption) (by omega) (sRest_co (by assumption) (by assumption) (by assumption) (by assumption)).2); (case e2 => first | with_reducible assumption | omega | exact cb_ok (by assumption) | exact sRest_co (by assumption) (by assumption) (by assumption) (by assumption) | exact cb_ok2 (by assumption) (by omega) (sRest_co (by assumption) (by assumption) (by assumption) (by assumption)).2); (case e3 => first | with_reducible assumption | omega | exact cb_ok (by assumption) | exact sRest_co (by assumption) (by assumption) (by assumption) (by assumption) | exact cb_ok2 (by assumption) (by omega) (sRest_co (by assumption) (by assumption) (by assumption) (by assumption)).2); (case e4 => first | with_reducible assumption | omega | exact cb_ok (by assumption) | exact sRest_co (by assumption) (by assumption) (by assumption) (by assumption) | exact cb_ok2 (by assumption) (by omega) (sRest_co (by assumption) (by assumption) (by assumption) (by assumption)).2); (case e5 => first | with_reducible assumption | omega | exact cb_ok (by assumption) | exact sRest_co (by assumption) (by assumption) (by assumption) (by assumption) | exact cb_ok2 (by assumption) (by omega) (sRest_co (by assumption) (by assumption) (by assumption) (by assumption)).2); (case e6 => first | with_reducible assumption | omega | exact cb_ok (by assumption) | exact sRest_co (by assumption) (by assumption) (by assumption) (by assumption) | exact cb_ok2 (by assumption) (by omega) (sRest_co (by assumption) (by assumption) (by assumption) (by assumption)).2); (case e7 => first | with_reducible assumption | omega | exact cb_ok (by assumption) | exact sRest_co (by assumption) (by assumption) (by assumption) (by assumption) | exact cb_ok2 (by assumption) (by omega) (sRest_co (by assumption) (by assumption) (by assumption) (by assumption)).2); (case d1 => ktr_room); (case d2 => ktr_units); k_whole; intro t' tk' h' esS' nS' esX' nX' F' N' R'; (try dsimp only at N'))))
set_option maxHeartbeats 8000000 in
theorem tks_c {dp un : Nat} {gd : Option (List Code)} {cn : Str} {cs : Scope} {a : Addr} {ccd : Value} {cl : List (Str × Addr)} {outer : List Env} {A₀ : Around} {base h₀ : Heap} {L : Addr} {m : Str → Option Value} {s : Shared} {Q E : Value → Shared → Prop} {st sd S dS X EV lam cell c' now : Addr} {k1 k2 k3 k4 tq tt : Tok} {qual : Str} {pm ctv : Value} {oc oCell : Obj} {vs : Array Value} {esS esX : List DictEntry} {nS nX nn nE n : Nat} {sg : Str → Option (Int × Int)} {t : Int} {rest : List (Addr × Obj)} {fx fxd it itd idt : Addr} {nm : Str} {kso tm ta tl tn : Tok} {A Ln : Int} {nk : Nat}
    (B : Below A₀ base outer h₀) (F : Fr h₀ L s.heap m) (KX : (Mine.hd.heap_39 w.params).In h₀) (T : Top p loose mean mg mb h₀) (hk : cs.kind = .function)
    (N : News h₀ L s.heap ((S, cntO dS esS nS) :: (X, dictOf esX nX) :: (st, instObj 912 sd) :: (sd, stD w k1 k2 k3 k4 lam S X EV) :: (dS, dictOf [] 0) :: (lam, lamO qual cell c' pm ctv) :: (c', oc) :: (cell, oCell) :: (EV, dictOf [] nE) :: (now, listOf #[.int t tt] nn) :: (fx, instObj 296 fxd) :: (fxd, dictOf [⟨PyData.keyHash w.params (Str.ofString "storage"), .str (Str.ofString "storage") kso, .ref st⟩] nk) :: (it, itO itd A Ln ta tl tn) :: (itd, dictOf [] 0) :: rest))
    (R : StRep w esS esX sg t n) (hn : n ≤ 900) (ht : 0 ≤ t) (ord : @LT.lt Nat _ 1 cell ∧ @LT.lt Nat _ cell now ∧ @LT.lt Nat _ now c' ∧ @LT.lt Nat _ c' lam ∧ @LT.lt Nat _ lam sd ∧ @LT.lt Nat _ sd st ∧ @LT.lt Nat _ st dS ∧ @LT.lt Nat _ dS S ∧ @LT.lt Nat _ S X ∧ @LT.lt Nat _ X EV) (hc : oCell.data = .cell (some (.ref now))) (hc1 : oc.data = .fields vs) (hc2 : vs[1]? = some (.str qual tq)) (rS : ∀ p ∈ rest, p.1 ≠ S) (rX : ∀ p ∈ rest, p.1 ≠ X) (hid : List.lookup idt (Mine.hd.heap_39 w.params) = some (tup1 nm tm)) (hnm : nm.length ≤ 5) (hA : 1 ≤ A ∧ A ≤ 5) (hL : 2 ≤ Ln ∧ Ln ≤ 6) (ord2 : @LT.lt Nat _ X fx ∧ @LT.lt Nat _ X fxd ∧ @LT.lt Nat _ X it ∧ @LT.lt Nat _ X itd) (htt : 10 ≤ t ∧ t ≤ 5000) (hcb : CB sg 1000) (hn2 : n ≤ 800)
    (hd : dp + 40 < recursionLimit) (hu : un + 200 < cLine)
    (h : ∀ (t' : Tok) tk' h' esS' nS' esX' nX', Fr h₀ L h' m → News h₀ L h' (((S, cntO dS esS' nS') :: (X, dictOf esX' nX') :: (st, instObj 912 sd) :: (sd, stD w k1 k2 k3 k4 lam S X EV) :: (dS, dictOf [] 0) :: (lam, lamO qual cell c' pm ctv) :: (c', oc) :: (cell, oCell) :: (EV, dictOf [] nE) :: (now, listOf #[.int t tt] nn) :: (fx, instObj 296 fxd) :: (fxd, dictOf [⟨PyData.keyHash w.params (Str.ofString "storage"), .str (Str.ofString "storage") kso, .ref st⟩] nk) :: (it, itO itd A Ln ta tl tn) :: (itd, dictOf [] 0) :: rest)) → StRep w esS' esX' (sTake A Ln sg t (keyF nm A Ln)) t (n + 2) → Q (.int (sRest A Ln sg t (keyF nm A Ln)) t') { s with heap := h', toks := tk' }) :
    wpAny (model pg w) (ktrTop dp un gd cn cs L a ccd cl outer) (call (.ref 925) [.ref fx, .ref it, .ref idt]) Q E s := by
  have lS : @LT.lt Nat _ 1 S := by omega
  have lX : @LT.lt Nat _ 1 X := by omega
  refine wpAny_call ?_
  (refine' code_def ?k1 ?k2 ?k3 ?k4 ?k5 ?kA ?kF ?kK ?k6 ?k7 ?k8 ?k9 ?kB ?_ ?c2 ?c3 ?c4 ?c5; (case kA => exact rfl); (case kF => exact rfl); (case kK => assumption); (case k1 => k_asm); (case k2 => k_asm); (case k3 => k_asm); (case k4 => k_asm); (case k5 => k_asm); (case k6 => k_is); (case k7 => k_is); (case k8 => ktr_room); (case k9 => first | exact BindsTo.of_eq rfl | exact binds_K (by k_in) rfl (by k_is) rfl rfl rfl); (case c5 => decide); (case kB => exact locs rfl); (case c2 => exact rfl); (case c3 => exact rfl); (case c4 => exact rfl); k_whole; intro g' L' h' FG' F' N' B' X' T'; (try dsimp only); (try k_fold))
  repeat' (first | (k_unfold; (try dsimp only)) | (k_end; wrow_close) | walk1 | (dsimp only; walk1) | (leave1; try dsimp only))
  all_goals first
    | exact absurd (by with_reducible assumption : sRest A Ln sg t (keyF nm A Ln) < 0) (Int.not_lt.mpr sRest_nn)
    | exact Bool.noConfusion ((s_yes2 hcb hL (by with_reducible assumption : 0 < sRest A Ln sg t (keyF nm A Ln))).symm.trans (by with_reducible assumption : acqOk sg t (keyF nm A Ln) A Ln (sRest A Ln sg t (keyF nm A Ln)) = false))
    | exact Bool.noConfusion ((s_no2 hcb hL (by with_reducible assumption : 0 < sRest A Ln sg t (keyF nm A Ln))).1.symm.trans (by with_reducible assumption))
    | exact Bool.noConfusion ((s_no0 hL (by with_reducible assumption : ¬ 0 < sRest A Ln sg t (keyF nm A Ln))).1.symm.trans (by with_reducible assumption))
    | (have z := s_no2 hcb hL (by with_reducible assumption : 0 < sRest A Ln sg t (keyF nm A Ln))
       exact h _ _ _ _ _ _ _ (by k_asm) (news_of (by k_asm) (fun q hq => .tail _ (.tail _ hq))) (by
        rw [← s_end (f := _) z.1 z.2]; exact StRep.mono (by assumption) (by omega)))
    | (have z := s_no0 hL (by with_reducible assumption : ¬ 0 < sRest A Ln sg t (keyF nm A Ln))
       exact h _ _ _ _ _ _ _ (by k_asm) (news_of (by k_asm) (fun q hq => .tail _ (.tail _ hq))) (by
        rw [← s_end (f := _) z.1 z.2]; exact StRep.mono (by assumption) (by omega)))
    | (fail)

theorem tks_m {dp un : Nat} {gd : Option (List Code)} {cn : Str} {cs : Scope} {a : Addr} {ccd : Value} {cl : List (Str × Addr)} {outer : List Env} {A₀ : Around} {base h₀ : Heap} {L : Addr} {m : Str → Option Value} {s : Shared} {Q E : Value → Shared → Prop} {st sd S dS X EV lam cell c' now : Addr} {k1 k2 k3 k4 tq tt : Tok} {qual : Str} {pm ctv : Value} {oc oCell : Obj} {vs : Array Value} {esS esX : List DictEntry} {nS nX nn nE n : Nat} {sg : Str → Option (Int × Int)} {t : Int} {news : List (Addr × Obj)} {g1 : Obj → List (Addr × Obj)} {g2 : Obj → Obj → List (Addr × Obj)} {fx fxd it itd idt : Addr} {nm : Str} {kso tm ta tl tn : Tok} {A Ln : Int} {nk : Nat}
    (B : Below A₀ base outer h₀) (F : Fr h₀ L s.heap m) (KX : (Mine.hd.heap_39 w.params).In h₀) (T : Top p loose mean mg mb h₀) (hk : cs.kind = .function)
    (N : News h₀ L s.heap news) (U1 : UpdF S (cntO dS esS nS) news g1) (U2 : ∀ o, UpdF X (dictOf esX nX) (g1 o) (g2 o)) (i0 : (st, instObj 912 sd) ∈ news) (i1 : (sd, stD w k1 k2 k3 k4 lam S X EV) ∈ news) (i2 : (dS, dictOf [] 0) ∈ news) (i3 : (lam, lamO qual cell c' pm ctv) ∈ news) (i4 : (c', oc) ∈ news) (i5 : (cell, oCell) ∈ news) (i6 : (EV, dictOf [] nE) ∈ news) (i7 : (now, listOf #[.int t tt] nn) ∈ news) (i8 : (fx, instObj 296 fxd) ∈ news) (i9 : (fxd, dictOf [⟨PyData.keyHash w.params (Str.ofString "storage"), .str (Str.ofString "storage") kso, .ref st⟩] nk) ∈ news) (i10 : (it, itO itd A Ln ta tl tn) ∈ news) (i11 : (itd, dictOf [] 0) ∈ news)
    (R : StRep w esS esX sg t n) (hn : n ≤ 900) (ht : 0 ≤ t) (ord : @LT.lt Nat _ 1 cell ∧ @LT.lt Nat _ cell now ∧ @LT.lt Nat _ now c' ∧ @LT.lt Nat _ c' lam ∧ @LT.lt Nat _ lam sd ∧ @LT.lt Nat _ sd st ∧ @LT.lt Nat _ st dS ∧ @LT.lt Nat _ dS S ∧ @LT.lt Nat _ S X ∧ @LT.lt Nat _ X EV) (hc : oCell.data = .cell (some (.ref now))) (hc1 : oc.data = .fields vs) (hc2 : vs[1]? = some (.str qual tq)) (hid : List.lookup idt (Mine.hd.heap_39 w.params) = some (tup1 nm tm)) (hnm : nm.length ≤ 5) (hA : 1 ≤ A ∧ A ≤ 5) (hL : 2 ≤ Ln ∧ Ln ≤ 6) (ord2 : @LT.lt Nat _ X fx ∧ @LT.lt Nat _ X fxd ∧ @LT.lt Nat _ X it ∧ @LT.lt Nat _ X itd) (htt : 10 ≤ t ∧ t ≤ 5000) (hcb : CB sg 1000) (hn2 : n ≤ 800)
    (hd : dp + 40 < recursionLimit) (hu : un + 200 < cLine)
    (h : ∀ (t' : Tok) tk' h' esS' nS' esX' nX', Fr h₀ L h' m → News h₀ L h' ((g2 (cntO dS esS' nS') (dictOf esX' nX'))) → StRep w esS' esX' (sTake A Ln sg t (keyF nm A Ln)) t (n + 2) → Q (.int (sRest A Ln sg t (keyF nm A Ln)) t') { s with heap := h', toks := tk' }) :
    wpAny (model pg w) (ktrTop dp un gd cn cs L a ccd cl outer) (call (.ref 925) [.ref fx, .ref it, .ref idt]) Q E s := by
  obtain ⟨rest, rS, rX, jS, jX, jr, jb⟩ := adapt U1 U2
  have N1 : News h₀ L s.heap ((S, cntO dS esS nS) :: (X, dictOf esX nX) :: (st, instObj 912 sd) :: (sd, stD w k1 k2 k3 k4 lam S X EV) :: (dS, dictOf [] 0) :: (lam, lamO qual cell c' pm ctv) :: (c', oc) :: (cell, oCell) :: (EV, dictOf [] nE) :: (now, listOf #[.int t tt] nn) :: (fx, instObj 296 fxd) :: (fxd, dictOf [⟨PyData.keyHash w.params (Str.ofString "storage"), .str (Str.ofString "storage") kso, .ref st⟩] nk) :: (it, itO itd A Ln ta tl tn) :: (itd, dictOf [] 0) :: rest) := news_of N (by
    intro q hq
    simp only [List.mem_cons] at hq
    rcases hq with rfl | rfl | rfl | rfl | rfl | rfl | rfl | rfl | rfl | rfl | rfl | rfl | rfl | rfl | hq <;> first | with_reducible assumption | exact jr _ hq)
  refine tks_c B F KX T hk N1 R hn ht ord hc hc1 hc2 rS rX hid hnm hA hL ord2 htt hcb hn2 hd hu ?_
  intro  t' tk' h' esS' nS' esX' nX' F' N'
  exact h  t' tk' h' esS' nS' esX' nX' F' (news_of N' (fun q hq => by
    rcases jb _ _ q hq with rfl | rfl | hq
    · exact .head _
    · exact .tail _ (.head _)
    · simp only [List.mem_cons]; repeat' (first | exact .inr hq | refine .inr ?_)))
end
end Mine
end CTkS

section KeysX
theorem Mine.top_KeysX : True := by
  w_top off
  trivial
open PySem PySem.W PyProof.Rows
namespace Mine
open PySem PySem.Calls
def KV : List Value → List Str → Prop
  | [], [] => True
  | v :: vs, k :: ks => (∃ t, v = .str k t) ∧ KV vs ks
  | _, _ => False
theorem KV.of : ∀ {vs : List Value} {kvs : List (Str × Value)}, vs.length = kvs.length → (∀ (j : Nat) v, vs[j]? = some v → ∃ k x, kvs[j]? = some (k, x) ∧ ∃ t, v = .str k t) → KV vs (kvs.map (·.1))
  | [], [], _, _ => trivial
  | v :: vs, q :: r, hl, hv => by
    obtain ⟨k, x, e, t, ev⟩ := hv 0 v rfl
    simp only [List.getElem?_cons_zero, Option.some.injEq] at e
    subst e
    exact ⟨⟨t, ev⟩, KV.of (by simpa using hl) fun j u hu => by simpa using hv (j + 1) u (by simpa using hu)⟩
  | [], _ :: _, hl, _ => by simp at hl
  | _ :: _, [], hl, _ => by simp at hl
section
variable {w : World} {A : Around} {E : Value → Shared → Prop} {s : Shared} {h₀ : Heap} {L d v : Addr} {m : Str → Option Value} {news : List (Addr × Obj)} {Q : Value → Shared → Prop} {es : List DictEntry} {ep n : Nat} {f : Str → Option Int}
theorem keys_view (F : Fr h₀ L s.heap m) (N : News h₀ L s.heap news) (hp : (d, dictOf es ep) ∈ news) (D : DI w es f n) (lo : @LT.lt Nat _ 1 d)
    (h : ∀ (B : Addr) h', Fr h₀ L h' m → News h₀ L h' ((B, { cls := .type "dict_keys", data := .fields #[.ref d] }) :: news) → (∀ q ∈ news, q.1 < B) → Q (.ref B) { s with heap := h' }) :
    wpAny (model pg w) A (call (.builtin "dict.keys") [.ref d]) Q E s := by
  obtain ⟨kvs, h1, h2, h3, h4, h5⟩ := D
  exact kdl_view_keys (knd := strKind pg w) (kvs := kvs) F N hp ⟨_, _, ⟨rfl, rfl, rfl⟩, rfl, h1, h2, h3⟩ (low_of lo) h
theorem keys_list (hh : A.handled = none) (F : Fr h₀ L s.heap m) (N : News h₀ L s.heap news) (hv : (v, { cls := .type "dict_keys", data := .fields #[.ref d] }) ∈ news) (hp : (d, dictOf es ep) ∈ news) (D : DI w es f n) (hn : n ≤ 1000)
    (h : ∀ (B : Addr) c h' tk vs ks, Fr h₀ L h' m → News h₀ L h' ((B, listOf vs.toArray c) :: news) → (∀ q ∈ news, q.1 < B) → KV vs ks → ks.Nodup → (∀ k ∈ ks, f k ≠ none) → Q (.ref B) { s with heap := h', toks := tk }) :
    wpAny (model pg w) A (call (.type "list") [.ref v]) Q E s := by
  obtain ⟨kvs, h1, h2, h3, h4, h5⟩ := D
  have hat : s.heap.DictAt (strKind pg w) d kvs ep := ⟨_, _, (N _ hp).1, ⟨rfl, rfl, rfl⟩, rfl, h1, h2, h3⟩
  refine kdl_N (kdl_keys (knd := strKind pg w) (kvs := kvs) (ep := ep)) hh F N ⟨⟨_, (N _ hv).1, rfl, rfl⟩, hat⟩ (by rw [sizeLine_eq]; omega) fun B c h' tk vs F' N' l1 hl hv' => ?_
  refine h B c h' tk vs (kvs.map (·.1)) F' N' l1 (KV.of hl fun j u hu => ?_) h3 fun k hk => ?_
  · obtain ⟨k, x, hx, hk⟩ := hv' j u hu
    exact ⟨k, x, hx, Value.isStrOf_shape hk⟩
  · rcases h5 k with ⟨e, _⟩ | ⟨i, t, _, e⟩
    · obtain ⟨q, hq, rfl⟩ := List.mem_map.mp hk
      unfold valueAt at e
      rw [Option.map_eq_none_iff, List.find?_eq_none] at e
      exact absurd (e q hq) (by simp)
    · rw [e]; intro z; cases z
end
end Mine
end KeysX

section CEvt
theorem Mine.top_CEvt : True := by
  w_top off
  trivial
open PySem PySem.W PyProof.Rows
namespace Mine
open PySem PySem.Calls
local macro_rules | `(tactic| k_room) => `(tactic| ktr_room)
local macro_rules | `(tactic| k_units) => `(tactic| ktr_units)
local macro_rules | `(tactic| walk_at "getMethod ref") => `(tactic| (k_here; (with_reducible show wpAny _ _ (getMethod (Value.ref _) (PySem.Str.ofString "clock") _) _ _ _); k_dflt (refine' kmu_own ?k1 ?k2 ?k3 ?k4 ?k5 ?_; (case k1 => k_asm); (case k2 => k_asm); (case k3 => k_inst); (case k4 => k_is); (case k5 => k_is); k_whole)))
local macro_rules | `(tactic| walk_at "callWith ref nil nil") => `(tactic| (k_here; (fail_if_success (with_reducible show wpAny _ _ (callWith _ (Value.ref 483) _ _ _) _ _ _)); (fail_if_success (with_reducible show wpAny _ _ (callWith _ (Value.ref 171) _ _ _) _ _ _)); k_dflt (refine' callWith_lam ?k1 ?k2 ?_; (case k1 => k_asm); (case k2 => k_mem); k_whole)))
local macro_rules | `(tactic| walk_at "call ref nil") => `(tactic| (k_here; k_dflt (refine' clock_m ?k1 ?k2 ?k3 ?k4 ?k5 ?k6 ?m1 ?m2 ?m3 ?m4 ?c1 ?c2 ?c3 ?d1 ?d2 ?_; (case k1 => k_asm); (case k2 => k_asm); (case k3 => k_asm); (case k4 => k_asm); (case k5 => first | exact rfl | assumption); (case k6 => k_asm); (case m1 => k_mem); (case m2 => k_mem); (case m3 => k_mem); (case m4 => k_mem); (case c1 => k_asm); (case c2 => k_asm); (case c3 => k_asm); (case d1 => ktr_room); (case d2 => ktr_units); k_whole; intro t' h' tk' F' N')))
local macro_rules | `(tactic| walk_at "getItem ref str") => `(tactic| (k_here; k_dflt (refine' itemS ?k1 ?k2 ?k3 ?k4 ?k5 ?k6 ?i1 ?i2 ?lo ?di ?d1 ?d2 ?_; (case k1 => k_asm); (case k2 => k_asm); (case k3 => k_asm); (case k4 => k_asm); (case k5 => first | exact rfl | assumption); (case k6 => k_asm); (case i1 => k_mem); (case i2 => k_mem); (case lo => k_asm); (case di => k_asm); (case d1 => ktr_room); (case d2 => ktr_units); k_whole; intro t' tk' h' F' N')))
local macro_rules | `(tactic| walk_at "subscriptTail") => `(tactic| (k_here; k_dflt (show wpAny _ _ (subscriptTail _ _ (Value.ref _) (Value.str _ _)) _ _ _); k_dflt (refine' tail_of (DItems.geti (selfS ?a1 ?a2 ?a3 ?a4 ?a5 ?a6)) ?_ ?hs; (case a1 => k_asm); (case a2 => k_asm); (case a3 => k_asm); (case a4 => k_mem); (case a5 => k_mem); (case a6 => k_asm); (case hs => with_unfolding_all rfl))))
local macro_rules | `(tactic| walk_at "subscriptTail") => `(tactic| (k_here; k_dflt (show wpAny _ _ (subscriptTail _ _ (Value.ref _) (Value.str _ _)) _ _ _); k_dflt (refine' tail_of (DItems.geti (selfX ?a1 ?a2 ?a3)) ?_ ?hs; (case a1 => k_asm); (case a2 => k_mem); (case a3 => k_asm); (case hs => with_unfolding_all rfl))))
local macro_rules | `(tactic| walk_at "setItem ref str int") => `(tactic| (k_here; k_dflt (first
  | (refine' g_set (selfX ?a1 ?a2 ?a3) ?k0 ?k1 ?k2 ?k3 ?k4 ?_; (case a1 => k_asm); (case a2 => k_mem); (case a3 => k_asm); (case k0 => k_asm); (case k1 => k_asm); (case k2 => k_updF); (case k3 => k_asm); (case k4 => omega); k_whole; intro h' es' ep' F' N' D'; (try dsimp only at N'))
  | (refine' g_set (selfS ?a1 ?a2 ?a3 ?a4 ?a5 ?a6) ?k0 ?k1 ?k2 ?k3 ?k4 ?_; (case a1 => k_asm); (case a2 => k_asm); (case a3 => k_asm); (case a4 => k_mem); (case a5 => k_mem); (case a6 => k_asm); (case k0 => k_asm); (case k1 => k_asm); (case k2 => k_updF); (case k3 => k_asm); (case k4 => omega); k_whole; intro h' es' ep' F' N' D'; (try dsimp only at N')))))
section
variable {w : World} {p : Program} {loose : List Str} {mean : ExcName → Option Value} {mg mb : Str → Option Value}
theorem iter_kv {prog : Program} {w : World} {A : Around} {E : Value → Shared → Prop} {s : Shared} {env : Env} {h₀ : Heap} {x : Str} {body : List Stmt} {Q : Flow → Shared → Prop} {ax : Addr} {vs : List Value} {ks : List Str} {n : Nat} {m₀ : Str → Option Value} {news : List (Addr × Obj)}
    (hkv : KV vs ks) (hh : A.handled = none) (F : Fr h₀ env.locals s.heap m₀) (N : News h₀ env.locals s.heap news) (hm : (ax, listOf vs.toArray n) ∈ news)
    (rest₀ : ∀ I : Addr, (∀ p ∈ news, p.1 < I) → ListRest prog w A E h₀ env x body Q s I (ax, listOf vs.toArray n) vs m₀ news) :
    wpAny (model prog w) A (pyIter (.ref ax)) (fun it s₂ => LoopAtV prog w A h₀ env x body Q E it s₂) E s := iter_listUnr hh F N hm rfl rfl rest₀
theorem lrest_weaken {prog : Program} {w : World} {A : Around} {E : Value → Shared → Prop} {s : Shared} {env : Env} {h₀ : Heap} {x : Str} {body : List Stmt} {Q : Flow → Shared → Prop} {I : Addr} {lp : Addr × Obj} {m : Str → Option Value} {news news1 : List (Addr × Obj)} (hs : ∀ p ∈ news1, p ∈ news) :
    ∀ {vs : List Value}, ListRest prog w A E h₀ env x body Q s I lp vs m news1 → ListRest prog w A E h₀ env x body Q s I lp vs m news
  | [], H => fun h tk F N => H h tk F (news_of N hs)
  | _ :: _, H => fun it h tk hc F N => H it h tk hc F (news_of N fun p hp => by
      rcases List.mem_cons.mp hp with rfl | hp
      · exact .head _
      · exact .tail _ (hs p hp))
local macro_rules | `(tactic| walk_at "call builtin:dict.keys") => `(tactic| (k_here; k_dflt (refine' keys_view ?k1 ?k2 ?k3 ?k4 ?k5 ?_; (case k1 => k_asm); (case k2 => k_asm); (case k3 => k_mem); (case k4 => k_asm); (case k5 => assumption); intro D' h' F' N' l1; (try k_lt l1))))
theorem kv_none {vs : List Value} {ks : List Str} (h : KV vs ks) (h0 : ∀ k ∈ ks, (none : Option Int) ≠ none) : vs = [] ∧ ks = [] := by
  cases ks with
  | nil => cases vs with
    | nil => exact ⟨rfl, rfl⟩
    | cons v r => exact h.elim
  | cons k r => exact absurd rfl (h0 k (.head _))
theorem fr_map {h₀ h : Heap} {L : Addr} {m : Str → Option Value} (F : Fr h₀ L h m) : ∃ M, M = m := ⟨m, rfl⟩
local macro_rules | `(tactic| walk_at "getItem ref str") => `(tactic| (k_here; k_dflt (refine' g_item (selfX ?a1 ?a2 ?a3) ?k0 ?k1 ?k2 ?k3 ?_; (case a1 => k_asm); (case a2 => k_mem); (case a3 => k_asm); (case k0 => k_asm); (case k1 => k_mem); (case k2 => k_asm); (case k3 => assumption); k_whole; intro t')))
set_option maxHeartbeats 8000000 in
theorem evt_c {dp un : Nat} {gd : Option (List Code)} {cn : Str} {cs : Scope} {a : Addr} {ccd : Value} {cl : List (Str × Addr)} {outer : List Env} {A₀ : Around} {base h₀ : Heap} {L : Addr} {m : Str → Option Value} {s : Shared} {Q E : Value → Shared → Prop} {st sd S dS X EV lam cell c' now : Addr} {k1 k2 k3 k4 tq tt : Tok} {qual : Str} {pm ctv : Value} {oc oCell : Obj} {vs : Array Value} {esS esX : List DictEntry} {nS nX nn nE n : Nat} {sg : Str → Option (Int × Int)} {t : Int} {rest : List (Addr × Obj)} 
    (B : Below A₀ base outer h₀) (F : Fr h₀ L s.heap m) (KX : (Mine.hd.heap_39 w.params).In h₀) (T : Top p loose mean mg mb h₀) (hk : cs.kind = .function)
    (N : News h₀ L s.heap ((S, cntO dS esS nS) :: (X, dictOf esX nX) :: (st, instObj 912 sd) :: (sd, stD w k1 k2 k3 k4 lam S X EV) :: (dS, dictOf [] 0) :: (lam, lamO qual cell c' pm ctv) :: (c', oc) :: (cell, oCell) :: (EV, dictOf [] nE) :: (now, listOf #[.int t tt] nn) :: rest))
    (R : StRep w esS esX sg t n) (hn : n ≤ 900) (ht : 0 ≤ t) (ord : @LT.lt Nat _ 1 cell ∧ @LT.lt Nat _ cell now ∧ @LT.lt Nat _ now c' ∧ @LT.lt Nat _ c' lam ∧ @LT.lt Nat _ lam sd ∧ @LT.lt Nat _ sd st ∧ @LT.lt Nat _ st dS ∧ @LT.lt Nat _ dS S ∧ @LT.lt Nat _ S X ∧ @LT.lt Nat _ X EV) (hc : oCell.data = .cell (some (.ref now))) (hc1 : oc.data = .fields vs) (hc2 : vs[1]? = some (.str qual tq)) (rS : ∀ p ∈ rest, p.1 ≠ S) (rX : ∀ p ∈ rest, p.1 ≠ X) 
    (hd : dp + 10 < recursionLimit) (hu : un + 80 < cLine)
    (h : ∀ (t' : Tok) tk' h' esS' nS' esX' nX', Fr h₀ L h' m → News h₀ L h' (((S, cntO dS esS' nS') :: (X, dictOf esX' nX') :: (st, instObj 912 sd) :: (sd, stD w k1 k2 k3 k4 lam S X EV) :: (dS, dictOf [] 0) :: (lam, lamO qual cell c' pm ctv) :: (c', oc) :: (cell, oCell) :: (EV, dictOf [] nE) :: (now, listOf #[.int t tt] nn) :: rest)) → StRep w esS' esX' sg t n → Q .none { s with heap := h', toks := tk' }) :
    wpAny (model pg w) (ktrTop dp un gd cn cs L a ccd cl outer) (call (.ref 814) [.ref st]) Q E s := by
  have lS : @LT.lt Nat _ 1 S := by omega
  have lX : @LT.lt Nat _ 1 X := by omega
  refine wpAny_call ?_
  (refine' code_def ?k1 ?k2 ?k3 ?k4 ?k5 ?kA ?kF ?kK ?k6 ?k7 ?k8 ?k9 ?kB ?_ ?c2 ?c3 ?c4 ?c5; (case kA => exact rfl); (case kF => exact rfl); (case kK => assumption); (case k1 => k_asm); (case k2 => k_asm); (case k3 => k_asm); (case k4 => k_asm); (case k5 => k_asm); (case k6 => k_is); (case k7 => k_is); (case k8 => ktr_room); (case k9 => first | exact BindsTo.of_eq rfl | exact binds_K (by k_in) rfl (by k_is) rfl rfl rfl); (case c5 => decide); (case kB => exact locs rfl); (case c2 => exact rfl); (case c3 => exact rfl); (case c4 => exact rfl); k_whole; intro g' L' h' FG' F' N' B' X' T'; (try dsimp only); (try k_fold))
  have lE : @LT.lt Nat _ 1 EV := by omega
  have DE : DI w [] (fun _ => none) n := di_nil
  obtain ⟨fS, fX, DS, DX, H⟩ := R
  repeat' ((fail_if_success (with_reducible show wpAny _ _ (call (Value.type "list") [Value.ref _]) _ _ _)); (first | (k_unfold; (try dsimp only)) | (k_end; wrow_close) | walk1 | (dsimp only; walk1) | (leave1; try dsimp only)))
  refine' keys_list ?k0 ?k1 ?k2 ?k3 ?k4 DE ?k6 ?_
  (case k0 => rfl)
  (case k1 => k_asm)
  (case k2 => k_asm)
  (case k3 => k_mem)
  (case k4 => k_mem)
  (case k6 => omega)
  intro B1 c1 h1 tk1 vs1 ks1 F1 N1 l1 hkv1 hnd1 hks1
  obtain ⟨e1, e2⟩ := kv_none hkv1 hks1
  subst e1 e2
  k_lt l1
  repeat' ((fail_if_success (with_reducible show wpAny _ _ (pyIter (Value.ref _)) _ _ _)); (first | (k_unfold; (try dsimp only)) | (k_end; wrow_close) | walk1 | (dsimp only; walk1) | (leave1; try dsimp only)))
  refine' iter_kv (vs := []) (ks := []) trivial ?k0 ?k1 ?k2 ?k3 ?_
  (case k0 => rfl)
  (case k1 => k_asm)
  (case k2 => k_asm)
  (case k3 => k_mem)
  intro I1 l3
  repeat' ((fail_if_success (with_reducible show wpAny _ _ (call (Value.type "list") [Value.ref _]) _ _ _)); (first | (k_unfold; (try dsimp only)) | (k_end; wrow_close) | walk1 | (dsimp only; walk1) | (leave1; try dsimp only)))
  refine' keys_list ?k0 ?k1 ?k2 ?k3 ?k4 DX ?k6 ?_
  (case k0 => rfl)
  (case k1 => k_asm)
  (case k2 => k_asm)
  (case k3 => k_mem)
  (case k4 => k_mem)
  (case k6 => omega)
  intro B2 c2 h2 tk2 vs2 ks2 F2 N2 l2 hkv2 hnd2 hks2
  k_lt l2
  repeat' ((fail_if_success (with_reducible show wpAny _ _ (pyIter (Value.ref _)) _ _ _)); (first | (k_unfold; (try dsimp only)) | (k_end; wrow_close) | walk1 | (dsimp only; walk1) | (leave1; try dsimp only)))
  refine' iter_kv hkv2 ?k0 ?k1 ?k2 ?k3 ?_
  (case k0 => rfl)
  (case k1 => k_asm)
  (case k2 => k_asm)
  (case k3 => k_mem)
  intro I lI
  have lI2 := lI
  k_lt lI2
  have off : ∀ (a b : List DictEntry) (na nb : Nat), ∀ p ∈ ((S, cntO dS a na) :: (X, dictOf b nb) :: (st, instObj 912 sd) :: (sd, stD w k1 k2 k3 k4 lam S X EV) :: (dS, dictOf [] 0) :: (lam, lamO qual cell c' pm ctv) :: (c', oc) :: (cell, oCell) :: (EV, dictOf [] nE) :: (now, listOf #[.int t tt] nn) :: (B2, listOf vs2.toArray c2) :: rest), p.1 < I := by
    intro a b na nb p hp
    simp only [List.mem_cons] at hp
    rcases hp with rfl | rfl | rfl | rfl | rfl | rfl | rfl | rfl | rfl | rfl | rfl | hq
    · exact lI (S, cntO dS esS nS) (by k_mem)
    · exact lI (X, dictOf esX nX) (by k_mem)
    · exact lI (st, instObj 912 sd) (by k_mem)
    · exact lI (sd, stD w k1 k2 k3 k4 lam S X EV) (by k_mem)
    · exact lI (dS, dictOf [] 0) (by k_mem)
    · exact lI (lam, lamO qual cell c' pm ctv) (by k_mem)
    · exact lI (c', oc) (by k_mem)
    · exact lI (cell, oCell) (by k_mem)
    · exact lI (EV, dictOf [] nE) (by k_mem)
    · exact lI (now, listOf #[.int t tt] nn) (by k_mem)
    · exact lI (B2, listOf vs2.toArray c2) (by k_mem)
    · exact lI p (by simp only [List.mem_cons]; repeat' (first | exact .inr hq | refine .inr ?_))
  refine lrest_weaken (news1 := ((S, cntO dS esS nS) :: (X, dictOf esX nX) :: (st, instObj 912 sd) :: (sd, stD w k1 k2 k3 k4 lam S X EV) :: (dS, dictOf [] 0) :: (lam, lamO qual cell c' pm ctv) :: (c', oc) :: (cell, oCell) :: (EV, dictOf [] nE) :: (now, listOf #[.int t tt] nn) :: (B2, listOf vs2.toArray c2) :: rest)) ?sub0 ?_
  case sub0 =>
    intro p hp
    simp only [List.mem_cons] at hp
    rcases hp with rfl | rfl | rfl | rfl | rfl | rfl | rfl | rfl | rfl | rfl | rfl | hq
    iterate 11 · k_mem
    simp only [List.mem_cons]; repeat' (first | exact .inr hq | refine .inr ?_)
  obtain ⟨M, eM⟩ := fr_map F2
  refine (fun (G : ∀ (vr : List Value) (kr : List Str) (a b : List DictEntry) (na nb : Nat) (f1 f2 : Str → Option Int) (m1 : Str → Option Value), KV vr kr → kr.Nodup → (∀ k ∈ kr, f2 k ≠ none) → DI w a f1 n → DI w b f2 n → Lv f1 f2 sg t →
    (∀ y, y ≠ Str.ofString "key" → m1 y = M y) → ListRest _ _ _ _ _ _ _ _ _ _ _ _ vr m1 ((S, cntO dS a na) :: (X, dictOf b nb) :: (st, instObj 912 sd) :: (sd, stD w k1 k2 k3 k4 lam S X EV) :: (dS, dictOf [] 0) :: (lam, lamO qual cell c' pm ctv) :: (c', oc) :: (cell, oCell) :: (EV, dictOf [] nE) :: (now, listOf #[.int t tt] nn) :: (B2, listOf vs2.toArray c2) :: rest)) => G vs2 ks2 esS esX nS nX fS fX _ hkv2 hnd2 hks2 DS DX H (fun y _ => (congrFun eM y).symm)) ?_
  clear DE DS DX H hkv2 hnd2 hks2 F2 N2
  intro vr
  induction vr with
  | nil =>
    intro kr a b na nb f1 f2 m1 hkv hnd hks D1 D2 H1 hm
    repeat' (first | (k_unfold; (try dsimp only)) | (k_end; wrow_close) | walk1 | (dsimp only; walk1) | (leave1; try dsimp only))
    exact h 0 _ _ a na b nb (by k_asm) (news_of (by k_asm) (fun q hq => by
      simp only [List.mem_cons] at hq
      rcases hq with rfl | rfl | rfl | rfl | rfl | rfl | rfl | rfl | rfl | rfl | hq
      iterate 10 · k_mem
      simp only [List.mem_cons]; repeat' (first | exact .inr hq | refine .inr ?_))) ⟨f1, f2, D1, D2, H1⟩
  | cons v vr ih =>
    intro kr a b na nb f1 f2 m1 hkv hnd hks D1 D2 H1 hm
    cases kr with
    | nil => exact hkv.elim
    | cons k kr =>
      obtain ⟨⟨tv, rfl⟩, hkv⟩ := hkv
      obtain ⟨hk1, hk2⟩ := List.nodup_cons.mp hnd
      obtain ⟨e, he⟩ : ∃ e, f2 k = some e := Option.ne_none_iff_exists'.mp (hks k (.head _))
      refine ListRest.succ (fun it h5 tk5 hc5 F5 N5 => ?_)
      rw [show (fun y => if y = Str.ofString "key" then some (Value.str k tv) else m1 y) = (fun y => if y = Str.ofString "key" then some (Value.str k tv) else M y) from funext fun y => by
        by_cases q : y = Str.ofString "key"
        · rw [if_pos q, if_pos q]
        · rw [if_neg q, if_neg q]; exact hm y q] at F5
      subst eM
      repeat' ((fail_if_success (with_reducible show UnrEnd _ _ _ _ _ _ _)); (first | (k_unfold; (try dsimp only)) | (k_end; wrow_close) | walk1 | (dsimp only; walk1) | (leave1; try dsimp only)))
      · refine' UnrEnd.intro ?F ?N ((S, cntO dS _ _) :: (X, dictOf _ _) :: (st, instObj 912 sd) :: (sd, stD w k1 k2 k3 k4 lam S X EV) :: (dS, dictOf [] 0) :: (lam, lamO qual cell c' pm ctv) :: (c', oc) :: (cell, oCell) :: (EV, dictOf [] nE) :: (now, listOf #[.int t tt] nn) :: (B2, listOf vs2.toArray c2) :: rest) ?sub (fun p hp => Nat.ne_of_lt (off _ _ _ _ p hp)) (And.intro ?lp (ih kr _ _ _ _ _ _ _ hkv hk2 ?ks ?d1 ?d2 ?lv ?hm))
        (case F => k_asm)
        (case N => k_asm)
        case sub =>
          intro p hp
          simp only [List.mem_cons] at hp
          rcases hp with rfl | rfl | rfl | rfl | rfl | rfl | rfl | rfl | rfl | rfl | rfl | rfl | hq
          iterate 12 · k_mem
          simp only [List.mem_cons]; repeat' (first | exact .inr hq | refine .inr ?_)
        (case lp => k_mem)
        (case d1 => exact (by assumption : DI w _ (fun x => if x = k then none else f1 x) n))
        (case d2 => exact (by assumption : DI w _ (fun x => if x = k then none else f2 x) n))
        (case lv => exact H1.popped ht (by rw [he]; assumption))
        case ks =>
          intro k9 hk9
          have n9 : ¬ k9 = k := fun e9 => hk1 (e9 ▸ hk9)
          show (if k9 = k then none else f2 k9) ≠ none
          rw [if_neg n9]
          exact hks k9 (.tail _ hk9)
        (case hm => exact fun y hy => if_neg hy)
      · refine' UnrEnd.intro ?F9 ?N9 ((S, cntO dS _ _) :: (X, dictOf _ _) :: (st, instObj 912 sd) :: (sd, stD w k1 k2 k3 k4 lam S X EV) :: (dS, dictOf [] 0) :: (lam, lamO qual cell c' pm ctv) :: (c', oc) :: (cell, oCell) :: (EV, dictOf [] nE) :: (now, listOf #[.int t tt] nn) :: (B2, listOf vs2.toArray c2) :: rest) ?sub9 (fun p hp => Nat.ne_of_lt (off _ _ _ _ p hp)) (And.intro ?lp9 (ih kr _ _ _ _ _ _ _ hkv hk2 ?ks9 ?d19 ?d29 ?lv9 ?hm9))
        (case F9 => k_asm)
        (case N9 => k_asm)
        case sub9 =>
          intro p hp
          simp only [List.mem_cons] at hp
          rcases hp with rfl | rfl | rfl | rfl | rfl | rfl | rfl | rfl | rfl | rfl | rfl | rfl | hq
          iterate 12 · k_mem
          simp only [List.mem_cons]; repeat' (first | exact .inr hq | refine .inr ?_)
        (case lp9 => k_mem)
        (case d19 => exact D1)
        (case d29 => exact D2)
        (case lv9 => exact H1)
        (case ks9 => exact fun k' hk' => hks k' (.tail _ hk'))
        (case hm9 => exact fun y hy => if_neg hy)

theorem evt_m {dp un : Nat} {gd : Option (List Code)} {cn : Str} {cs : Scope} {a : Addr} {ccd : Value} {cl : List (Str × Addr)} {outer : List Env} {A₀ : Around} {base h₀ : Heap} {L : Addr} {m : Str → Option Value} {s : Shared} {Q E : Value → Shared → Prop} {st sd S dS X EV lam cell c' now : Addr} {k1 k2 k3 k4 tq tt : Tok} {qual : Str} {pm ctv : Value} {oc oCell : Obj} {vs : Array Value} {esS esX : List DictEntry} {nS nX nn nE n : Nat} {sg : Str → Option (Int × Int)} {t : Int} {news : List (Addr × Obj)} {g1 : Obj → List (Addr × Obj)} {g2 : Obj → Obj → List (Addr × Obj)} 
    (B : Below A₀ base outer h₀) (F : Fr h₀ L s.heap m) (KX : (Mine.hd.heap_39 w.params).In h₀) (T : Top p loose mean mg mb h₀) (hk : cs.kind = .function)
    (N : News h₀ L s.heap news) (U1 : UpdF S (cntO dS esS nS) news g1) (U2 : ∀ o, UpdF X (dictOf esX nX) (g1 o) (g2 o)) (i0 : (st, instObj 912 sd) ∈ news) (i1 : (sd, stD w k1 k2 k3 k4 lam S X EV) ∈ news) (i2 : (dS, dictOf [] 0) ∈ news) (i3 : (lam, lamO qual cell c' pm ctv) ∈ news) (i4 : (c', oc) ∈ news) (i5 : (cell, oCell) ∈ news) (i6 : (EV, dictOf [] nE) ∈ news) (i7 : (now, listOf #[.int t tt] nn) ∈ news)
    (R : StRep w esS esX sg t n) (hn : n ≤ 900) (ht : 0 ≤ t) (ord : @LT.lt Nat _ 1 cell ∧ @LT.lt Nat _ cell now ∧ @LT.lt Nat _ now c' ∧ @LT.lt Nat _ c' lam ∧ @LT.lt Nat _ lam sd ∧ @LT.lt Nat _ sd st ∧ @LT.lt Nat _ st dS ∧ @LT.lt Nat _ dS S ∧ @LT.lt Nat _ S X ∧ @LT.lt Nat _ X EV) (hc : oCell.data = .cell (some (.ref now))) (hc1 : oc.data = .fields vs) (hc2 : vs[1]? = some (.str qual tq)) 
    (hd : dp + 10 < recursionLimit) (hu : un + 80 < cLine)
    (h : ∀ (t' : Tok) tk' h' esS' nS' esX' nX', Fr h₀ L h' m → News h₀ L h' ((g2 (cntO dS esS' nS') (dictOf esX' nX'))) → StRep w esS' esX' sg t n → Q .none { s with heap := h', toks := tk' }) :
    wpAny (model pg w) (ktrTop dp un gd cn cs L a ccd cl outer) (call (.ref 814) [.ref st]) Q E s := by
  obtain ⟨rest, rS, rX, jS, jX, jr, jb⟩ := adapt U1 U2
  have N1 : News h₀ L s.heap ((S, cntO dS esS nS) :: (X, dictOf esX nX) :: (st, instObj 912 sd) :: (sd, stD w k1 k2 k3 k4 lam S X EV) :: (dS, dictOf [] 0) :: (lam, lamO qual cell c' pm ctv) :: (c', oc) :: (cell, oCell) :: (EV, dictOf [] nE) :: (now, listOf #[.int t tt] nn) :: rest) := news_of N (by
    intro q hq
    simp only [List.mem_cons] at hq
    rcases hq with rfl | rfl | rfl | rfl | rfl | rfl | rfl | rfl | rfl | rfl | hq <;> first | assumption | exact jr _ hq)
  refine evt_c B F KX T hk N1 R hn ht ord hc hc1 hc2 rS rX  hd hu ?_
  intro  t' tk' h' esS' nS' esX' nX' F' N'
  exact h  t' tk' h' esS' nS' esX' nX' F' (news_of N' (fun q hq => by
    rcases jb _ _ q hq with rfl | rfl | hq
    · exact .head _
    · exact .tail _ (.head _)
    · simp only [List.mem_cons]; repeat' (first | exact .inr hq | refine .inr ?_)))
end
end Mine
end CEvt

section KwC
theorem Mine.top_KwC : True := by
  w_top off
  trivial
open PySem PySem.W PyProof.Rows
namespace Mine
open PySem PySem.Calls
section
variable {prog : Program} {w : World} {A : Around} {E : Value → Shared → Prop} {s : Shared}
theorem merge_empty {d a : Addr} {n k : Nat} {Q : Unit → Shared → Prop} (ha : s.heap.get? a = some (dictOf [] n)) (hd : s.heap.get? d = some (dictOf [] k)) (lo : (a == sysModules) = false) (hq : Q () s) :
    wpAny (model prog w) A (mergeMapping d (.ref a) true) Q E s := by
  have hT : s.TypeIs (.ref a) "dict" := ⟨_, ha, rfl⟩
  unfold mergeMapping
  refine wpAny_bind (wpAny_isInstance (T := "dict") (b := true) hT (by rw [isSubtype_type]; kernel_rfl) ?_)
  dsimp only
  rw [if_pos rfl]
  refine wpAny_bind (wpAny_specialOf hT PySem.F.slot_dict_iter.lookup (wpAny_bind (wpAny_pure ?_)))
  have e : ((some (Value.builtin "dict.__iter__") == some (Value.builtin "dict.__iter__")) = true) := by decide +kernel
  rw [e]
  dsimp only
  rw [if_neg (by rw [lo]; decide)]
  refine wpAny_bind (wpAny_dictEntries hd rfl ?_)
  rw [if_pos (by decide)]
  refine wpAny_bind (wpAny_dictEntries ha rfl ?_)
  refine wpAny_bind (wpAny_of_eq (a := PUnit.unit) (by rfl) ?_)
  refine wpAny_bind (wpAny_dictEntries ha rfl ?_)
  refine wpAny_bind (wpAny_dictEpoch ha rfl ?_)
  exact wpAny_of_eq (a := PUnit.unit) (by rfl) hq
theorem merged_empty {f : Value} {x : Sem Value} {Q : Addr → Shared → Prop}
    (h : wpAny (model prog w) A x (fun mv s₂ => ∃ kd n, mv = .ref kd ∧ s₂.heap.get? kd = some (dictOf [] n) ∧ (kd == sysModules) = false ∧ s₂.heap.get? s.heap.objs.size = some (dictOf [] 0) ∧ Q s.heap.objs.size s₂) E { s with heap := s.heap.push (dictOf [] 0) }) :
    wpAny (model prog w) A (mergedKeywords f [(none, x)]) Q E s := by
  unfold mergedKeywords
  refine wpAny_bind (wpAny_alloc (wpAny_bind (wpAny_holding ?_)))
  dsimp only
  rw [List.forIn_cons]
  refine wpAny_bind (wpAny_bind ?_)
  dsimp only
  rw [if_pos (by rfl)]
  refine wpAny_bind (wpAny_pure ?_)
  refine wpAny_bind (wpAny_mono h (fun mv s₂ z => ?_) fun _ _ z => z)
  obtain ⟨kd, n, rfl, h1, h2, h3, h4⟩ := z
  refine wpAny_bind (wpAny_onRaise (wpAny_holding (wpAny_tryCatch (wpAny_onRaise (merge_empty h1 h3 h2 ?_)))))
  refine wpAny_pure ?_
  dsimp only
  rw [List.forIn_nil]
  refine wpAny_pure ?_
  rw [if_pos (by rfl)]
  first | exact wpAny_pure (wpAny_pure h4) | exact wpAny_bind (wpAny_pure (wpAny_pure h4)) | (fail)
theorem kwIn_empty {f : Value} {d : Addr} {n : Nat} {Q : List (Str × Value) → Shared → Prop} (hd : s.heap.get? d = some (dictOf [] n)) (hq : Q [] s) : wpAny (model prog w) A (keywordsIn f d) Q E s := by
  unfold keywordsIn
  refine wpAny_bind (wpAny_dictEntries hd rfl ?_)
  first | exact wpAny_bind (wpAny_of_eq (a := []) (by rfl) (wpAny_pure hq)) | (fail)
theorem callWith_kw {P : Heap → Prop} {f : Value} {pos : Pos} {first : List Value} {t x : Sem Value} {Q : Value → Shared → Prop}
    (hk : ∀ h, P h → ∃ k, (k = Keeper.frame ∨ k = Keeper.machine ∨ k = Keeper.boundFrame) ∧ Looks (model prog w) h (keeperOf f) k)
    (h : wpAny (model prog w) A t (fun v s₁ => wpAny (model prog w) A x (fun mv s₂ => ∃ kd n, mv = .ref kd ∧ s₂.heap.get? kd = some (dictOf [] n) ∧ (kd == sysModules) = false ∧ s₂.heap.get? s₁.heap.objs.size = some (dictOf [] 0) ∧
      (P s₂.heap ∧ wpAny (model prog w) A (call f (first ++ [v]) []) Q E s₂)) E { s₁ with heap := s₁.heap.push (dictOf [] 0) }) E s) :
    wpAny (model prog w) A (callWith pos f first [(false, t)] [(none, x)]) Q E s := by
  unfold callWith evalArgs
  refine wpAny_bind (wpAny_holding ?_)
  dsimp only
  refine wpAny_bind ?_
  unfold spliced
  refine wpAny_bind (wpAny_mono h (fun v s₁ z => ?_) fun _ _ z => z)
  dsimp only
  rw [if_neg (by decide)]
  refine wpAny_bind (wpAny_pure ?_)
  unfold spliced
  refine wpAny_bind (wpAny_holding (wpAny_pure (wpAny_pure ?_)))
  refine wpAny_bind (wpAny_pure (wpAny_holding ?_))
  rw [if_neg (by simp)]
  refine wpAny_bind (merged_empty (wpAny_mono z (fun mv s₂ y => ?_) fun _ _ y => y))
  obtain ⟨kd, n, e1, h1, h2, h3, h4, h5⟩ := y
  refine ⟨kd, n, e1, h1, h2, h3, ?_⟩
  refine wpAny_bind (wpAny_pure ?_)
  refine wpAny_bind (wpAny_holding (kwIn_empty h3 (wpAny_pure ?_)))
  refine wpAny_bind (wpAny_standAt ?_)
  obtain ⟨k, hk', LL⟩ := hk _ h4
  refine wpAny_bind (LL.here ?_)
  have tail : ∀ {t : Sem Value}, wpAny (model prog w) A t Q E s₂ → wpAny (model prog w) A (t >>= fun r => holding [r] point >>= fun _ => pure r) Q E s₂ :=
    fun ht => wpAny_bind (wpAny_mono ht (fun r s₂ hr => wpAny_bind (wpAny_holding (wpAny_point (wpAny_pure hr)))) fun _ _ x => x)
  have marked (mk : Value) : wpAny (model prog w) A (callMarked mk f (first ++ [v]) []) Q E s₂ := by unfold callMarked; exact Calls.wpAny_keep h5
  have oper (l : List Value) : wpAny (model prog w) A (operate l (call f (first ++ [v]) [])) Q E s₂ := wpAny_operating h5
  rcases hk' with rfl | rfl | rfl
  · exact tail (marked _)
  · exact tail (oper _)
  · exact tail (oper _)
end
end Mine
end KwC

section CCi
theorem Mine.top_CCi : True := by
  w_top off
  trivial
open PySem PySem.W PyProof.Rows
namespace Mine
open PySem PySem.Calls
abbrev mwO (x : Addr) : Obj := { cls := .type "method-wrapper", dict := none, data := .fields #[.builtin "dict.__init__", .ref x], slots := #[] }
section
variable {w : World} {A : Around} {E : Value → Shared → Prop} {s : Shared} {h₀ : Heap} {L : Addr} {m : Str → Option Value} {news : List (Addr × Obj)}
theorem cnt_isd {x dx : Addr} {es : List DictEntry} {n : Nat} (X : (KK w).In s.heap) (e : s.heap.get? x = some (cntO dx es n)) : Looks (model pg w) s.heap (isInstance (.ref x) (.type "dict")) true :=
  (looks_typeOf e).andThen (Looks.of_peek X (by kernel_rfl))
theorem wd_get {x dx : Addr} {es : List DictEntry} {n : Nat} {Q : Value → Shared → Prop} (X : (KK w).In s.heap) (he : s.heap.get? x = some (cntO dx es n)) (h : Q (.ref s.heap.objs.size) { s with heap := s.heap.push (mwO x) }) :
    wpAny (model pg w) A (call (.builtin "wrapper_descriptor.__get__") [.builtin "dict.__init__", .ref x, .ref 789]) Q E s := by
  have h1 : Looks (model pg w) s.heap (checkBuiltinCall "wrapper_descriptor.__get__" ⟨[.builtin "dict.__init__", .ref x, .ref 789], []⟩) () := Looks.of_peek X (by kernel_rfl)
  refine wpAny_call (codeAny_call_builtin (by decide +kernel) (entryFor_of_tree (b := Builtin.«wrapper_descriptor.__get__») (by kernel_rfl)) (h1.here ?_))
  unfold Builtin.«wrapper_descriptor.__get__»
  refine wpAny_bind (wpAny_of_eq (a := (Value.builtin "dict.__init__", some (Value.ref x), some (Value.ref 789))) (by first | rfl | kernel_rfl) ?_)
  dsimp only
  wp_delta
  repeat (first | (with_reducible refine wpAny_loadPart he ?_) | wp_step | dsimp only)
  refine (Looks.of_peek (M := model pg w) (r := true) X (by kernel_rfl)).here ?_
  repeat (first | wp_step | dsimp only)
  exact h
theorem al_init : alongIn (KK w) "__init__" [.type "dict", .type "object"] = some (some (.builtin "dict.__init__")) := by kernel_rfl
theorem mro789 {h : Heap} (X : (KK w).In h) : Looks (model pg w) h (mroOf (.ref 789)) [.ref 789, .type "dict", .type "object"] := cnt_mro X
theorem opq789 {h : Heap} (X : (KK w).In h) : Looks (model pg w) h (opaqueClassAbove (.ref 789)) none := Looks.of_peek X (by kernel_rfl)
theorem wdg : typeLookup (.type "wrapper_descriptor") "__get__" = pure (some (.builtin "wrapper_descriptor.__get__")) := by rw [typeLookup_type, builtinLookup_eq_fast]; kernel_rfl
theorem ek : builtinKind "dict.__init__" = some .slot := by decide +kernel
set_option maxHeartbeats 8000000 in
theorem sup_ga {h : Heap} {g : Array GenState} {d : Drawn} {t : Nat} {os : OsState} {so x dx : Addr} {es : List DictEntry} {n : Nat} {tk : Tok} {name : Str} {Q : Fin → Shared → Prop} (al : alongIn (KK w) name [.type "dict", .type "object"] = some (some (.builtin "dict.__init__"))) (hn : (name == ("__class__" : Str)) = false)
    (hso : h.get? so = some (ks_superObj 789 x 789)) (X : (KK w).In h) (he : h.get? x = some (cntO dx es n)) (hxC : x ≠ 789)
    (hq : Q (.done (.ret (.ref h.objs.size))) ⟨h.push (mwO x), g, d, t, os⟩) :
    wpAny (model pg w) A (Builtin.«super.__getattribute__» ⟨[.ref so, .str name tk], []⟩) Q E ⟨h, g, d, t, os⟩ := by
  have hne : (Value.ref x == Value.ref 789) = false := by simp [hxC]
  have hdt : (ks_superObj 789 x 789).data = .fields #[.ref 789, .ref x, .ref 789] := rfl
  have f0 : (#[.ref 789, .ref x, .ref 789] : Array Value)[0]? = some (.ref 789) := rfl
  have f1 : (#[.ref 789, .ref x, .ref 789] : Array Value)[1]? = some (.ref x) := rfl
  have f2 : (#[.ref 789, .ref x, .ref 789] : Array Value)[2]? = some (.ref 789) := rfl
  have hl : (([.ref 789, .type "dict", .type "object"] : List Value).dropWhile (· != .ref 789)).drop 1 = [.type "dict", .type "object"] := by kernel_rfl
  unfold Builtin.«super.__getattribute__»
  repeat (first
    | (with_reducible refine wpAny_field hso hdt f0 ?_) | (with_reducible refine wpAny_field hso hdt f1 ?_) | (with_reducible refine wpAny_field hso hdt f2 ?_)
    | (with_reducible refine ks_wpAny_notOpaque (opq789 X) ?_)
    | (with_reducible refine Looks.at (mro789 X) ?_; rw [hl])
    | (refine ks_forIn_along X (fun _ _ => rfl) rfl ?_ al)
    | (with_reducible refine ⟨_, rfl, ?_⟩)
    | (simp only [hn, hne, Bool.or_false, Bool.false_eq_true, if_false])
    | wp_step
    | dsimp only)
  rw [ek]
  refine wpAny_of_eq wdg ?_
  dsimp only
  repeat (first | (with_reducible refine wpAny_holding ?_) | (with_reducible refine wpAny_bind ?_) | (with_reducible refine wpAny_pure ?_))
  refine wd_get (s := ⟨h, g, d, t, os⟩) X he ?_
  refine wpAny_bind (wpAny_pure (wpAny_pure ?_))
  exact wpAny_pure hq
set_option maxHeartbeats 8000000 in
theorem sup_meth {h : Heap} {g : Array GenState} {d : Drawn} {t : Nat} {os : OsState} {so x dx : Addr} {es : List DictEntry} {n : Nat} {name : Str} {pl : Sem Bool} {Q : Value × List Value → Shared → Prop} (al : alongIn (KK w) name [.type "dict", .type "object"] = some (some (.builtin "dict.__init__"))) (hn : (name == ("__class__" : Str)) = false)
    (hso : h.get? so = some (ks_superObj 789 x 789)) (X : (KK w).In h) (he : h.get? x = some (cntO dx es n)) (hxC : x ≠ 789)
    (hq : Q (.ref h.objs.size, []) ⟨h.push (mwO x), g, d, t + 1, os⟩) :
    wpAny (model pg w) A (getMethod (.ref so) name pl) Q E ⟨h, g, d, t, os⟩ := by
  have hlk := PySem.F.ks_slot_super_ga.lookup
  have hcan := PySem.F.ks_canon_super_ga
  have hT : ∀ t', (⟨h, g, d, t', os⟩ : Shared).TypeIs (.ref so) "super" := fun _ => ⟨_, hso, rfl⟩
  unfold getMethod
  refine wpAny_bind (wpAny_specialOf (hT _) hlk ?_)
  show wpAny _ _ (if (Manifest.canonical "super.__getattribute__" != "object.__getattribute__") = true then _ else _) _ _ _
  rw [if_pos hcan]
  unfold getAttr getAttrBy
  refine wpAny_bind (wpAny_bind (wpAny_mkText (wpAny_holding (wpAny_bind (wpAny_typeOf (hT _) (wpAny_bind (wpAny_of_eq hlk ?_)))))))
  show wpAny _ _ (getAttrByItsOwn (.ref so) (.str name t) (.type "super") (.builtin "super.__getattribute__") true false) _ _ _
  unfold getAttrByItsOwn hookBefore callGetattribute boundAndCalled
  refine wpAny_bind (wpAny_of_eq (show (if onTheHeap (.type "super") then typeLookup (.type "super") "__getattr__" else pure none) = pure none from rfl) ?_)
  refine wpAny_bind (wpAny_attempt (wpAny_holding ?_))
  show wpAny _ _ (bindSpecial (.builtin "super.__getattribute__") (.ref so) >>= _) _ _ _
  refine wpAny_bind (wpAny_of_eq (PySem.F.ks_slot_super_ga.bind _) ?_)
  refine wpAny_mono (Q := fun v s' => v = .ref h.objs.size ∧ s' = ⟨h.push (mwO x), g, d, t + 1, os⟩) (E := fun _ _ => False)
    (wpAny_call_entry PySem.F.ks_slot_super_ga (hT _) PySem.F.ks_entry_super_ga (sup_ga al hn hso X he hxC ⟨_, rfl, rfl, rfl⟩) (PySem.F.ks_gaArgs_super _ _)) (fun v s' hv => ?_) fun _ _ z => z.elim
  obtain ⟨rfl, rfl⟩ := hv
  exact wpAny_pure (wpAny_pure hq)
theorem mw_call {h : Heap} {g : Array GenState} {d : Drawn} {t : Nat} {os : OsState} {mw x : Addr} {Q : Value → Shared → Prop}
    (hm : h.get? mw = some (mwO x)) (X : (KK w).In h) (S : DSelf (model pg w) h x) (hq : Q .none ⟨h, g, d, t, os⟩) :
    wpAny (model pg w) A (call (.ref mw) []) Q E ⟨h, g, d, t, os⟩ := by
  refine wpAny_call (codeAny_of_tree ?_)
  show wpAny _ A.in1 (callAny (.ref mw) _) _ _ _
  unfold callAny
  refine wpAny_bind (wpAny_load hm ?_)
  show wpAny _ _ (checkBoundCall "dict.__init__" ⟨[.ref x], []⟩ >>= fun _ => again (.builtin "dict.__init__" ⟨[.ref x], []⟩)) _ _ _
  refine wpAny_bind ((Looks.of_peek (M := model pg w) (r := ()) X (by kernel_rfl)).at ?_)
  refine wpAny_pure ⟨Code.quiet_builtin _ (by decide +kernel), codeAny_builtin (entryFor_of_tree (b := Builtin.«dict.__init__») (by kernel_rfl)) ?_⟩
  unfold Builtin.«dict.__init__»
  refine wpAny_bind ?_
  unfold Builtin.Dict.selfAndRest
  refine wpAny_bind (S.plain _ _ ⟨h, g, d, t, os⟩ _ "__init__" [] (fun _ _ e => e) ?_)
  refine wpAny_bind (wpAny_of_eq (a := x) rfl (wpAny_pure ?_))
  show wpAny _ _ (Builtin.Dict.addKeywords x [] >>= fun _ => ret .none) _ _ _
  refine wpAny_bind (wpAny_of_eq (a := ()) (by first | rfl | kernel_rfl) ?_)
  exact wpAny_pure hq
theorem entry_dga : entryFor table "dict.__getattribute__" = some Builtin.«object.__getattribute__» :=
  entryFor_alias (id' := "object.__getattribute__") (by kernel_rfl) (by first | rfl | decide +kernel) (by decide +kernel) (by kernel_rfl)
theorem kup1 : findObj (KK w) 789 (some (dictOf [] 0)) "update" = some (.bind (.builtin "function.__get__") (.ref 632)) := by kernel_rfl
theorem kup2 : typeIn (KK w) (.ref 632) = some (.type "function") := by kernel_rfl
theorem get_upd {x dx : Addr} {es : List DictEntry} {n : Nat} {expr : Bool} {Q : Value → Shared → Prop} (F : Fr h₀ L s.heap m) (KX : (KK w).In h₀) (N : News h₀ L s.heap news) (i1 : (x, cntO dx es n) ∈ news) (i2 : (dx, dictOf [] 0) ∈ news)
    (h : ∀ q h', Fr h₀ L h' m → News h₀ L h' ((q, methodObj (.ref 632) (.ref x)) :: news) → (∀ p ∈ news, p.1 < q) → Q (.ref q) { s with heap := h', toks := s.toks + 1 }) :
    wpAny (model pg w) A (getAttr (.ref x) "update" expr) Q E s := by
  have X := KX.keeps F.keep
  have I := instS N i1 i2
  have h' := h s.heap.objs.size _ (F.push _) (N.push F _) fun p hp => Heap.lt_size (N p hp).1
  obtain ⟨hh, g, d, t, os⟩ := s
  have L0 := I.type (M := model pg w)
  have L1 := looks_findIn (M := model pg w) X (kk6 (w := w))
  have L2 := looks_findIn (M := model pg w) X (kk7 (w := w))
  have L3 := looks_find (M := model pg w) X I kup1
  have L4 : Looks (model pg w) hh (isInstance (.ref x) (.type "dict")) true := L0.andThen (looks_mroIn X kk1)
  unfold getAttr getAttrBy
  refine wpAny_bind (wpAny_mkText (wpAny_holding (wpAny_bind (L0.at (wpAny_bind (L1.at ?_))))))
  show wpAny _ _ (getAttrByItsOwn _ _ _ _ _ _) _ _ _
  unfold getAttrByItsOwn
  refine wpAny_bind (show wpAny _ _ (typeLookup (.ref 789) "__getattr__") _ _ _ from L2.at ?_)
  refine wpAny_bind (wpAny_attempt ?_)
  unfold callGetattribute
  rw [if_neg (by simp [onTheHeap])]
  unfold boundAndCalled
  rw [PySem.F.slot_dict_getattribute.bind]
  refine wpAny_holding (wpAny_bind (wpAny_pure (wpAny_call (codeAny_call_builtin PySem.F.slot_dict_getattribute.plain entry_dga ?_))))
  refine @check_slot (model pg w) _ _ _ "dict.__getattribute__" "dict" "__getattribute__" (.ref x) [.str "update" t] [] _ (by decide +kernel) (by decide +kernel) L4 (PySem.F.args_dict_getattribute_2 _ _) ?_
  show wpAny _ _ (typeOf (.ref x) >>= _) _ _ _
  refine wpAny_bind (L0.at (wpAny_bind (L3.at ?_)))
  show wpAny _ _ (Builtin.ObjectAttr.bindTo (.builtin "function.__get__") (.ref 632) (.ref x) (.ref 789)) _ _ _
  unfold Builtin.ObjectAttr.bindTo
  show wpAny _ _ (holding [.ref 632] (call (.builtin "function.__get__") [.ref 632, .ref x, .ref 789]) >>= fun v => ret v) _ _ _
  refine wpAny_bind (wpAny_holding (wpAny_call (fn_get (s := ⟨hh, g, d, t + 1, os⟩) X kup2 ?_)))
  refine wpAny_pure ?_
  exact handed_on rfl h'
theorem sup_methN {so x dx : Addr} {es : List DictEntry} {n : Nat} {name : Str} {pl : Sem Bool} {Q : Value × List Value → Shared → Prop} (F : Fr h₀ L s.heap m) (KX : (KK w).In h₀) (N : News h₀ L s.heap news) (i1 : (so, ks_superObj 789 x 789) ∈ news) (i2 : (x, cntO dx es n) ∈ news)
    (al : alongIn (KK w) name [.type "dict", .type "object"] = some (some (.builtin "dict.__init__"))) (hn : (name == ("__class__" : Str)) = false)
    (h : ∀ q h', Fr h₀ L h' m → News h₀ L h' ((q, mwO x) :: news) → (∀ p ∈ news, p.1 < q) → Q (.ref q, []) { s with heap := h', toks := s.toks + 1 }) : wpAny (model pg w) A (getMethod (.ref so) name pl) Q E s := by
  have hx : x ≠ 789 := fun e => by
    have h1 := (N _ i2).2.2
    have h3 : ((KK w).lookup 789).isSome = true := by kernel_rfl
    obtain ⟨o, h3⟩ := Option.isSome_iff_exists.mp h3
    have h2 := KX 789 o h3
    rw [show (x, cntO dx es n).1 = 789 from e, h2] at h1
    cases h1
  obtain ⟨hh, g, d, t, os⟩ := s
  exact sup_meth al hn (N _ i1).1 (KX.keeps F.keep) (N _ i2).1 hx (h _ _ (F.push _) (News.push F N _) fun p hp => Heap.lt_size (N p hp).1)
theorem mw_callN {q x dx : Addr} {es : List DictEntry} {n : Nat} {Q : Value → Shared → Prop} (F : Fr h₀ L s.heap m) (KX : (KK w).In h₀) (N : News h₀ L s.heap news) (i1 : (q, mwO x) ∈ news) (i2 : (x, cntO dx es n) ∈ news) (i3 : (dx, dictOf [] 0) ∈ news) (lo : @LT.lt Nat _ 1 x)
    (h : Q .none s) : wpAny (model pg w) A (call (.ref q) []) Q E s := by
  obtain ⟨hh, g, d, t, os⟩ := s
  exact mw_call (N _ i1).1 (KX.keeps F.keep) (DItems.toDSelf (selfS F KX N i2 i3 lo)) h
theorem callWith_kwN {pos : Pos} {t y : Sem Value} {v : Value} {Q : Value → Shared → Prop} {q x kd : Addr} {n : Nat}
    (F : Fr h₀ L s.heap m) (KX : (KK w).In h₀) (N : News h₀ L s.heap news) (iq : (q, methodObj (.ref 632) (.ref x)) ∈ news) (ik : (kd, dictOf [] n) ∈ news) (lo : @LT.lt Nat _ 1 kd)
    (ht : wpAny (model pg w) A t (fun v' s₁ => v' = v ∧ s₁ = s) E s) (hx : ∀ h', Fr h₀ L h' m → wpAny (model pg w) A y (fun mv s₂ => mv = .ref kd ∧ s₂ = { s with heap := h' }) E { s with heap := h' })
    (h : ∀ D h', Fr h₀ L h' m → News h₀ L h' ((D, dictOf [] 0) :: news) → (∀ p ∈ news, p.1 < D) → wpAny (model pg w) A (call (.ref q) [v] []) Q E { s with heap := h' }) :
    wpAny (model pg w) A (callWith pos (.ref q) [] [(false, t)] [(none, do let v ← y; standAt pos; pure v)]) Q E s := by
  refine callWith_kw (P := MethP (KK w) q 632 (.ref x)) (keeps_M (show fnIn (KK w) 632 = true by kernel_rfl)) (wpAny_mono ht (fun v' s₁ z => ?_) fun _ _ z => z)
  obtain ⟨rfl, rfl⟩ := z
  have F' := F.push (dictOf [] 0)
  have N' := News.push F N (dictOf [] 0)
  refine wpAny_bind (wpAny_mono (hx _ F') (fun mv s₂ z => wpAny_bind (wpAny_standAt (wpAny_pure ?_))) fun _ _ z => z)
  obtain ⟨rfl, rfl⟩ := z
  exact ⟨kd, n, rfl, (N' _ (.tail _ ik)).1, low_of lo, (N' _ (.head _)).1, methP N' (.tail _ iq) (KX.keeps F'.keep), h _ _ F' N' fun p hp => Heap.lt_size (N p hp).1⟩
theorem callWith_mw {M : Model} {env : Env} {pos : Pos} {first : List Value} {Q : Value → Shared → Prop} {q x : Addr}
    (N : News h₀ L s.heap news) (hm : (q, mwO x) ∈ news) (h : wpAny M A (call (.ref q) (first ++ [])) Q E s) : wpAny M A (callWith pos (.ref q) first (backTo pos (starEach [] env)) []) Q E s :=
  callWith_of (P := fun h => h.get? q = some (mwO x)) rfl (fun h e => ⟨.machine, .inr (.inl rfl), (Looks.ld (part := none) e).andThen .now⟩) (evalArgs_nil3 ⟨(N _ hm).1, h⟩)
end
section
variable {M : Model} {A : Around} {E : Value → Shared → Prop} {s : Shared} {env : Env} {pos : Pos}
theorem methodKw {o e k : Expr} {name : Str} {apos kp : Pos} {Q : Value → Shared → Prop}
    (h : wpAny M A (eval o env) (fun ov s₁ => wpAny M A (getAttr ov name true) (fun f s₂ => wpAny M A (callWith pos f [] [(false, eval e env)] [(none, do let v ← eval k env; standAt pos; pure v)]) Q E s₂) E s₁) E s)
    (he : eval (.Call (.Attribute o name apos) [e] [⟨none, k, kp⟩] pos) env = (do
      let ov ← eval o env
      standAt apos.atName
      let (f, first) ← holding [ov] (do pure (← getAttr ov name true, []))
      callWith pos f first [(false, eval e env)] [(none, do let v ← eval k env; standAt pos; pure v)]) := by rfl) :
    wpAny M A (eval (.Call (.Attribute o name apos) [e] [⟨none, k, kp⟩] pos) env) Q E s := by
  rw [he]
  refine wpAny_bind (wpAny_mono h (fun ov s₁ h₁ => ?_) fun _ _ x => x)
  exact wpAny_bind (wpAny_standAt (wpAny_bind (wpAny_holding (wpAny_bind (wpAny_mono h₁ (fun f s₂ h₂ => wpAny_pure h₂) fun _ _ x => x)))))
end
section
variable {prog : Program} {w : World} {A₀ A : Around} {s : Shared} {base h₀ : Heap} {outer : List Env} {L : Addr} {m mg mb : Str → Option Value} {env : Env} {news : List (Addr × Obj)} {K : Frag} {p : Program} {loose : List Str} {mean : ExcName → Option Value}
  {R : Result → Shared → Prop} {name qual : Str} {params : Arguments} {body : List Stmt} {scope : Scope} {dV kV doc pm cdv ct oc : Value} {an od : Option Addr} {osl : Array (Option Value)} {f cc : Addr} {args : Args} {binds : Addr → List (Str × Value)} {g₁ : Addr → Sem (List (Str × Value))}
/-- a def with super() in it and **kwds, called without keywords -/
theorem ks_more (B : Below A₀ base outer h₀) (F : Fr h₀ L s.heap m) (X₀ : K.In h₀) (N : News h₀ L s.heap news) (T : Top p loose mean mg mb h₀) (hA : A.frames = some (env :: outer)) (hf : env.frame = some L) (hke : env.scope.kind = .function)
    (ho : K.lookup f = some ⟨oc, od, .func (ksFn name qual params body scope dV kV doc pm an cdv ct cc), osl⟩) (hcd : codeIn K cdv qual = true) (hroom : A.depth < recursionLimit)
    (hp : peekA K ⟨prog, w.params⟩ (bindArgs (ksFn name qual params body scope dV kV doc pm an cdv ct cc) args) = some (dictOf [] 0, g₁))
    (hk₁ : ∀ D, g₁ D = pure (binds D)) (hloc : ∀ D, ∀ y ∈ binds D, scope.names.lookup y.1 = some .local)
    (h : ∀ D g L' h₁ tk, (∀ p ∈ news, p.1 < D) → Fr h₀ L g m → Fr g L' h₁ (fun y => (binds D).reverse.lookup y) → News g L' h₁ ((D, dictOf [] 0) :: news) → Below A base (env :: outer) g → K.In g → Top p loose mean mg mb g →
      _root_.PySem.wpAt (model prog w) (A.deeper (ksEnv qual scope L' f cdv cc)) (.func body (ksEnv qual scope L' f cdv cc)) (execs body (ksEnv qual scope L' f cdv cc))
        (fun fl s' => LeaveK h₀ L m g R (match fl with | .ret v => v | _ => .none) s')
        (fun e s' => wpAny (model prog w) (A.deeper (ksEnv qual scope L' f cdv cc)) (leaving (ksEnv qual scope L' f cdv cc) e) (fun _ s'' => R (.error e) s'') (fun e' s'' => R (.error e') s'') s')
        { s with heap := h₁, toks := tk })
    (hco : scope.isCoroutine = false) (hgen : scope.isGenerator = false) (hk : scope.kind = .function) (hcell : ∀ x ∈ scope.names, x.2 ≠ .cell) : codeAny (model prog w) A (.call (.ref f) args) R s := by
  refine codeAny_call_function (fd := ksFn name qual params body scope dV kV doc pm an cdv ct cc) (body := body) hroom ((X₀.keeps F.keep) _ _ ho) rfl hco hgen rfl (codeRec_of (X₀.keeps F.keep) hcd) ?_
  refine wp_of_peekA (o := dictOf [] 0) F N (X₀.keeps F.keep) rfl _ g₁ hp fun h' F' N' l => ?_
  rw [hk₁]
  refine wpAny_pure ?_
  obtain ⟨FG, BG, st, lv⟩ := groundX (s := { s with heap := h' }) (R := R) B F' N' hA hf hke
  refine wpAny_newFunctionEnv hcell (hloc _) (fun h₁ hns hsb => ⟨(T.nolimit.keeps F'.keep).fresh _ hsb, ks_codeAny_funcAt ?_⟩) hk
  have hk₂ : ∀ b o, h'.get? b = some o → h₁.get? b = some o := fun b o e => hsb.extBut b o (Nat.ne_of_lt (Heap.lt_size e)) (Heap.get?_push_of_some _ e)
  exact ks_wpAt_mono (h _ _ _ h₁ _ l FG ⟨hns, fun b o e => hk₂ b o (of_hideAll _ e), Nat.le_of_eq (hideAll_size _ _)⟩
    (fun p hp => ⟨hk₂ _ _ (N' p hp).1, Nat.ne_of_lt (Heap.lt_size (N' p hp).1), hideAll_none _ (List.mem_map_of_mem hp)⟩) BG (X₀.keeps st) (T.keeps st)) (fun fl s' hl => lv _ _ hl) fun _ _ y => y
end
section
variable {w : World} {p : Program} {loose : List Str} {mean : ExcName → Option Value} {mg mb : Str → Option Value}
local macro_rules | `(tactic| k_room) => `(tactic| (simp only [depth_under_make]; ktr_room))
local macro_rules | `(tactic| k_units) => `(tactic| ktr_units)
local macro_rules | `(tactic| walk_at "wpAt") => `(tactic| (k_here; k_dflt (refine ks_node (by k_asm) (by k_asm) (by k_asm) (by k_asm) (by k_is) (by rfl) (by rfl) (instS (by k_asm) (by k_mem) (by k_mem)) (by k_is) (by rfl) (by first | rfl | decide +kernel) (by k_is) (by k_is) (by k_is) (by k_is) (by decide) (by rfl) (by rfl) (by rfl) (by rfl) (by decide +kernel) (by first | boot_by_name | rfl | kernel_rfl) ?_; intro so' h' F' N' l1; (try k_lt l1))))
local macro_rules | `(tactic| walk_at "getMethod ref") => `(tactic| (k_here; (with_reducible show wpAny _ _ (getMethod (Value.ref _) (PySem.Str.ofString "__init__") _) _ _ _); k_dflt (refine' sup_methN ?k1 ?k2 ?k3 ?i1 ?i2 ?al ?hn ?_; (case k1 => k_asm); (case k2 => k_asm); (case k3 => k_asm); (case i1 => k_mem); (case i2 => k_mem); (case al => exact al_init); (case hn => decide +kernel); intro q' h' F' N' l1; (try k_lt l1))))
local macro_rules | `(tactic| walk_at "callWith ref nil nil") => `(tactic| (k_here; k_dflt (refine' callWith_mw ?k1 ?k2 ?_; (case k1 => k_asm); (case k2 => k_mem); k_whole)))
local macro_rules | `(tactic| walk_at "call ref nil") => `(tactic| (k_here; k_dflt (refine' mw_callN ?k1 ?k2 ?k3 ?i1 ?i2 ?i3 ?lo ?_; (case k1 => k_asm); (case k2 => k_asm); (case k3 => k_asm); (case i1 => k_mem); (case i2 => k_mem); (case i3 => k_mem); (case lo => assumption); k_whole)))
local macro_rules | `(tactic| k_inst) => `(tactic| exact instS (by k_asm) (by k_mem) (by k_mem))
local macro_rules | `(tactic| walk_at "eval Call Attribute") => `(tactic| (k_here; (with_reducible show wpAny _ _ (eval (Expr.Call (Expr.Attribute _ _ _) [_] [_] _) _) _ _ _); refine methodKw ?_))
local macro_rules | `(tactic| walk_at "getAttr ref") => `(tactic| (k_here; (with_reducible show wpAny _ _ (getAttr (Value.ref _) (PySem.Str.ofString "update") _) _ _ _); k_dflt (refine' get_upd ?k1 ?k2 ?k3 ?i1 ?i2 ?_; (case k1 => k_asm); (case k2 => k_asm); (case k3 => k_asm); (case i1 => k_mem); (case i2 => k_mem); intro q' h' F' N' l1; (try k_lt l1))))
set_option maxHeartbeats 8000000 in
theorem ci_code {dp un : Nat} {gd : Option (List Code)} {cn : Str} {cs : Scope} {a : Addr} {ccd : Value} {cl : List (Str × Addr)} {outer : List Env} {A₀ : Around} {base h₀ : Heap} {L : Addr} {m : Str → Option Value} {s : Shared} {Q E : Value → Shared → Prop} {x dx : Addr} {news : List (Addr × Obj)}
    (B : Below A₀ base outer h₀) (F : Fr h₀ L s.heap m) (KX : (Mine.hd.heap_39 w.params).In h₀) (T : Top p loose mean mg mb h₀) (hk : cs.kind = .function) (N : News h₀ L s.heap ((x, cntO dx [] 0) :: (dx, dictOf [] 0) :: news)) (l1 : ∀ p ∈ news, p.1 < dx) (l2 : @LT.lt Nat _ dx x) (lo : @LT.lt Nat _ 1 x)
    (hd : dp + 8 < recursionLimit) (hu : un + 40 < cLine)
    (h : ∀ (tk' : Nat) h', Fr h₀ L h' m → News h₀ L h' ((x, cntO dx [] 0) :: (dx, dictOf [] 0) :: news) → Q .none { s with heap := h', toks := tk' }) :
    wpAny (model pg w) ((ktrTop dp un gd cn cs L a ccd cl outer).under (.builtin "type.__call__" ⟨[.ref 789], []⟩)) (call (.ref 587) [.ref x]) Q E s := by
  refine wpAny_call ?_
  refine' ks_more ?k1 ?k2 ?k3 ?k4 ?k5 ?kA ?kF ?kK ?k6 ?k7 ?k8 ?kP ?kG ?kB ?_ ?c2 ?c3 ?c4 ?c5
  (case kA => exact rfl)
  (case kF => exact rfl)
  (case kK => assumption)
  (case k1 => k_asm)
  (case k2 => k_asm)
  (case k3 => k_asm)
  (case k4 => k_asm)
  (case k5 => k_asm)
  (case k6 => k_is)
  (case k7 => k_is)
  (case k8 => k_room)
  (case kP => exact rfl)
  (case kG => exact fun _ => rfl)
  (case kB => exact fun _ => locs rfl)
  (case c5 => decide)
  (case c2 => exact rfl)
  (case c3 => exact rfl)
  (case c4 => exact rfl)
  intro D' g' L' h' tk1 l3 FG' F' N' B' X' T'
  (try k_lt l3)
  (try dsimp only)
  (try k_lift B')
  (try k_fold)
  repeat' (first | (k_unfold; (try dsimp only)) | (k_end; wrow_close) | walk1 | (dsimp only; walk1) | (leave1; try dsimp only))
  have lD : @LT.lt Nat _ 1 D' := by omega
  refine' callWith_kwN (v := .none) (kd := D') (n := 0) ?n1 ?n2 ?n3 ?n4 ?n5 lD ?n6 ?n7 ?_
  (case n1 => k_asm)
  (case n2 => k_asm)
  (case n3 => k_asm)
  (case n4 => k_mem)
  (case n5 => k_mem)
  (case n6 => (repeat' (first | (k_unfold; (try dsimp only)) | (k_end; wrow_close) | walk1 | (dsimp only; walk1) | (leave1; try dsimp only))); (try exact ⟨rfl, rfl⟩))
  (case n7 => intro h9 F9; (repeat' (first | (k_unfold; (try dsimp only)) | (k_end; wrow_close) | walk1 | (dsimp only; walk1) | (leave1; try dsimp only))); (try exact ⟨rfl, rfl⟩))
  intro D9 h9 F9 N9 l9
  k_lt l9
  refine call_meth N9 (.tail _ (.head _)) ?_
  refine' kpc_more ?k1 ?k2 ?k3 ?k4 ?k5 ?kA ?kF ?kK ?k6 ?k7 ?k8 ?kX ?kM ?kN ?kD ?kR ?kP ?kT ?kB ?_ ?c2 ?c3 ?c4 ?c5
  (case kA => exact rfl)
  (case kF => exact rfl)
  (case kK => exact rfl)
  (case k1 => k_asm)
  (case k2 => k_asm)
  (case k3 => k_asm)
  (case k4 => k_asm)
  (case k5 => k_asm)
  (case k6 => k_is)
  (case k7 => k_is)
  (case k8 => first | ktr_room | (simp only [depth_under_make]; ktr_room) | (simp only [depth_deeper, depth_under_make, depth_in1]; ktr_room) | (fail))
  (case kX => kp_lit)
  (case kM => exact rfl)
  (case kN => exact rfl)
  (case kD => kp_flats)
  (case kR => exact rfl)
  (case kP => exact rfl)
  (case kT => exact fun _ => rfl)
  (case kB => exact fun _ => locs rfl)
  (case c5 => decide)
  (case c2 => exact rfl)
  (case c3 => exact rfl)
  (case c4 => exact rfl)
  intro D8 o8 g8 L8 h8 tk8 l8 lo8 hs8 fs8 FG8 F8 N8 B8 X8 T8
  (try k_lt l8)
  (try dsimp only)
  (try k_lift B8)
  (try k_fold)
  repeat' (first | (k_unfold; (try dsimp only)) | (k_end; wrow_close) | walk1 | (dsimp only; walk1) | (leave1; try dsimp only))
  exact h _ _ (by k_asm) (news_of (by k_asm) (fun q hq => .tail _ (.tail _ (.tail _ (.tail _ (.tail _ (.tail _ hq)))))))
theorem cnt_new {dp un : Nat} {gd : Option (List Code)} {cn : Str} {cs : Scope} {a : Addr} {ccd : Value} {cl : List (Str × Addr)} {outer : List Env} {A₀ : Around} {base h₀ : Heap} {L : Addr} {m : Str → Option Value} {s : Shared} {Q E : Value → Shared → Prop} {news : List (Addr × Obj)} (B : Below A₀ base outer h₀) (F : Fr h₀ L s.heap m) (KX : (Mine.hd.heap_39 w.params).In h₀) (T : Top p loose mean mg mb h₀) (hk : cs.kind = .function) (N : News h₀ L s.heap news) (hd : dp + 8 < recursionLimit) (hu : un + 40 < cLine)
    (h : ∀ x dx (tk' : Nat) h', Fr h₀ L h' m → News h₀ L h' ((x, cntO dx [] 0) :: (dx, dictOf [] 0) :: news) → (∀ p ∈ news, p.1 < dx) → @LT.lt Nat _ dx x → Q (.ref x) { s with heap := h', toks := tk' }) (lo : ∃ p ∈ news, @LT.lt Nat _ 1 p.1) :
    wpAny (model pg w) (ktrTop dp un gd cn cs L a ccd cl outer) (call (.ref 789) []) Q E s := by
  obtain ⟨p0, hp0, lo⟩ := lo
  refine wpAny_call (newCounter F KX N fun x dx h' F' N' l1 l2 => ?_)
  have l0 := l1 p0 hp0
  refine ci_code B F' KX T hk N' l1 l2 (Nat.lt_trans lo (Nat.lt_trans l0 l2)) hd hu ?_
  intro tk' h' F' N'
  exact ⟨rfl, h x dx tk' h' F' N' l1 l2⟩
end
end Mine
end CCi

section SlcT
theorem Mine.top_SlcT : True := by
  w_top off
  trivial
open PySem PySem.W PyProof.Rows
namespace Mine
open PySem PySem.Calls
section
variable {prog : Program} {w : World} {A : Around} {E : Value → Shared → Prop} {s : Shared}
theorem adj_any (a n : Nat) : Builtin.Slice.sliceAdjust (some (a : Int)) none 1 (n : Int) = (((min a n : Nat) : Int), (n : Int)) := by
  unfold Builtin.Slice.sliceAdjust
  have h1 : ¬ ((1 : Int) < 0) := by omega
  have h2 : ¬ ((a : Int) < 0) := by omega
  simp only [h1, h2, if_false]
  congr 1
  omega
theorem plc_any (a n : Nat) : Builtin.Slice.slicePlaces ((min a n : Nat) : Int) (n : Int) 1 = n - min a n := by
  unfold Builtin.Slice.slicePlaces
  have h1 : (1 : Int) > 0 := by omega
  simp only [h1, if_true, Int.ediv_one]
  split <;> omega
theorem slc_any {sl : Addr} {a n : Nat} {u : Tok} {Q : Int × Int × Nat → Shared → Prop} (hs : s.heap.IsSliceOf sl (.int a u) .none .none) (h : Q (((min a n : Nat) : Int), 1, n - min a n) s) :
    wpAny (model prog w) A (Builtin.Slice.sliceApplied (.ref sl) (pure (n : Int))) Q E s := by
  obtain ⟨os, hos, hcs, hds⟩ := id hs
  unfold Builtin.Slice.sliceApplied Builtin.Slice.sliceFields
  refine wpAny_bind (wpAny_bind (wpAny_field hos hds (x := .int a u) rfl (wpAny_bind (wpAny_field hos hds (x := .none) rfl (wpAny_bind (wpAny_field hos hds (x := .none) rfl (wpAny_pure ?_)))))))
  refine wpAny_bind (slicePart_none ?_)
  show wpAny _ _ (if ((1 : Int) == 0) = true then _ else _) _ _ s
  rw [if_neg (by decide)]
  refine wpAny_bind (slicePart_int (wpAny_bind (slicePart_none (wpAny_bind (wpAny_pure ?_)))))
  show wpAny _ _ (match Builtin.Slice.sliceAdjust (some (a : Int)) none 1 (n : Int) with | (lo, hi) => pure (lo, (1 : Int), Builtin.Slice.slicePlaces lo hi 1)) _ _ s
  rw [adj_any a n]
  show wpAny _ _ (pure (((min a n : Nat) : Int), (1 : Int), Builtin.Slice.slicePlaces ((min a n : Nat) : Int) (n : Int) 1)) _ _ s
  rw [plc_any a n]
  exact wpAny_pure h
theorem item_any {t sl : Addr} {items : Array Value} {a : Nat} {u : Tok} {Q : Value → Shared → Prop} (ht : IsTup s.heap t items) (hs : s.heap.IsSliceOf sl (.int a u) .none .none)
    (h0 : min a items.size = 0 → Q (.ref t) s) (h : min a items.size ≠ 0 → Q (.ref s.heap.objs.size) { s with heap := s.heap.push { cls := .type "tuple", data := .seq (items.toList.drop (min a items.size)).toArray } })
    (hsz : items.size ≤ sizeLine) : wpAny (model prog w) A (getItem (.ref t) (.ref sl)) Q E s := by
  have hdrop : sizeOk (.seq (items.toList.drop (min a items.size)).toArray) := by
    show (items.toList.drop (min a items.size)).toArray.size ≤ sizeLine
    rw [List.size_toArray, List.length_drop, Array.length_toList]
    omega
  obtain ⟨os, hos, hcs, hds⟩ := id hs
  have hTs : s.TypeIs (.ref sl) "slice" := ⟨os, hos, hcs⟩
  unfold getItem
  try with_reducible refine wpAny_holding ?_
  first | refine wpAny_bind (wpAny_pure ?_) | skip
  refine wpAny_bind (wpAny_sequenceKey ht.typeIs (by decide) ?_)
  refine wpAny_bind (wpAny_callSpecial?_slot (name := Str.ofString "__getitem__") ht.typeIs PyProof.Rows.slot_tuple_getitem
    (wpAny_call_entry PyProof.Rows.slot_tuple_getitem ht.typeIs PyProof.Rows.entry_tuple_getitem ?_ (PyProof.Rows.args_tuple_getitem _ _)))
  show wpAny _ _ (Builtin.Tuple.tupleItemsOf (.ref t) >>= _) _ _ s
  refine wpAny_bind (tupleItemsOf_ ht ?_)
  refine wpAny_bind (wpAny_typeOf hTs ?_)
  rw [if_pos (by decide)]
  refine wpAny_bind (slc_any (n := items.size) hs ?_)
  by_cases z : min a items.size = 0
  · have hyes : ((((min a items.size : Nat) : Int) == 0 && (1 : Int) == 1 && (items.size - min a items.size) == items.size) = true) := by rw [z]; simp
    show wpAny _ _ (if (((min a items.size : Nat) : Int) == 0 && (1 : Int) == 1 && (items.size - min a items.size) == items.size) = true then _ else _) _ _ s
    rw [if_pos hyes]
    refine wpAny_bind (wpAny_bind (wpAny_typeOf ht.typeIs (wpAny_pure ?_)))
    rw [if_pos (by decide)]
    exact wpAny_bind (wpAny_rule (wpAny_pure ⟨_, rfl, wpAny_pure (h0 z)⟩))
  · have hno : ¬ ((((min a items.size : Nat) : Int) == 0 && (1 : Int) == 1 && (items.size - min a items.size) == items.size) = true) := by
      have : (((min a items.size : Nat) : Int) == 0) = false := by rw [beq_eq_false_iff_ne]; omega
      rw [this]; simp
    show wpAny _ _ (if (((min a items.size : Nat) : Int) == 0 && (1 : Int) == 1 && (items.size - min a items.size) == items.size) = true then _ else _) _ _ s
    rw [if_neg hno, pick_from items (min a items.size) (Nat.min_le_right _ _)]
    first
      | exact wpAny_bind (m := Builtin.Tuple.tupleExact _) (wpAny_newObj_type (wpAny_pure ⟨_, rfl, wpAny_pure (h z)⟩) hdrop)
      | exact wpAny_bind (m := Builtin.Tuple.tupleExact _) (wpAny_newObj_type (wpAny_bind (wpAny_pure (wpAny_pure ⟨_, rfl, wpAny_pure (h z)⟩))) hdrop)
      | exact wpAny_bind (wpAny_bind (m := Builtin.Tuple.tupleExact _) (wpAny_newObj_type (wpAny_pure (wpAny_pure ⟨_, rfl, wpAny_pure (h z)⟩)) hdrop))
      | exact wpAny_bind (wpAny_bind (m := Builtin.Tuple.tupleExact _) (wpAny_newObj_type (wpAny_pure ⟨_, rfl, wpAny_pure (h z)⟩) hdrop))
      | (fail)
theorem tail_any {h₀ : Heap} {L : Addr} {m : Str → Option Value} {news : List (Addr × Obj)} {value slice : Expr} {t sl : Addr} {items : Array Value} {a : Nat} {u : Tok} {Q : Value → Shared → Prop}
    (F : Fr h₀ L s.heap m) (N : News h₀ L s.heap news) (hs : (sl, ({ cls := .type "slice", data := .fields #[.int a u, .none, .none] } : Obj)) ∈ news) (ht : IsTup s.heap t items)
    (h : ∀ t' h', Fr h₀ L h' m → News h₀ L h' news → IsTup h' t' (items.toList.drop (min a items.size)).toArray → Q (.ref t') { s with heap := h' })
    (hsz : items.size ≤ sizeLine)
    (hsub : subscripted slice false (.ref t) (.ref sl) = operate [.ref sl, .ref t] (getItem (.ref t) (.ref sl)) := by with_unfolding_all rfl)
    (hg : ∀ r, letTemporaryGo value (.ref t) r = pure () := by intro _; with_unfolding_all rfl) :
    wpAny (model prog w) A (subscriptTail value slice (.ref t) (.ref sl)) Q E s := by
  have hsl : s.heap.IsSliceOf sl (.int a u) .none .none := ⟨_, (N _ hs).1, rfl, rfl⟩
  refine subscriptTail_ops ht.typeIs PyProof.Rows.slot_tuple_getitem.lookup (item_any ht hsl (fun z => ?_) (fun z => ?_) hsz) hsub hg
  · refine h t s.heap F N ?_
    rw [z, List.drop_zero, Array.toArray_toList]
    exact ht
  · exact h _ _ (F.push _) (fun p hp => ⟨Heap.get?_push_of_some _ (N p hp).1, (N p hp).2⟩) ⟨_, Heap.get?_push_size _ rfl, rfl, 0, rfl⟩
theorem tail_anyP {h₀ : Heap} {L : Addr} {m : Str → Option Value} {news : List (Addr × Obj)} {value slice : Expr} {t : Addr} {items : Array Value} {a : Nat} {u : Tok} {Q : Value → Shared → Prop}
    (F : Fr h₀ L s.heap m) (N : News h₀ L s.heap news) (ht : IsTup s.heap t items)
    (h : ∀ t' h', Fr h₀ L h' m → News h₀ L h' news → IsTup h' t' (items.toList.drop (min a items.size)).toArray → Q (.ref t') { s with heap := h' })
    (hsz : items.size ≤ sizeLine)
    (hsub : subscripted slice false (.ref t) (.ref s.heap.objs.size) = operate [.ref s.heap.objs.size, .ref t] (getItem (.ref t) (.ref s.heap.objs.size)))
    (hg : ∀ r, letTemporaryGo value (.ref t) r = pure ()) :
    wpAny (model prog w) A (subscriptTail value slice (.ref t) (.ref s.heap.objs.size)) Q E { s with heap := s.heap.push { cls := .type "slice", data := .fields #[.int a u, .none, .none] } } := by
  obtain ⟨o, ho, r⟩ := ht
  refine tail_any (s := { s with heap := s.heap.push { cls := .type "slice", data := .fields #[.int a u, .none, .none] } }) (news := (s.heap.objs.size, { cls := .type "slice", data := .fields #[.int a u, .none, .none] }) :: news) (F.push _) (News.push F N _) (.head _) ⟨o, Heap.get?_push_of_some _ ho, r⟩ (fun t' h' F' N' T' => ?_) hsz hsub hg
  exact h t' h' F' (fun p hp => N' p (.tail _ hp)) T'
end
end Mine
end SlcT

section TailL
theorem Mine.top_TailL : True := by
  w_top off
  trivial
open PySem PySem.W PyProof.Rows
namespace Mine
open PySem PySem.Calls
/-- the last item of a made list of ints, of any length but none -/
theorem tail_last {w : World} {A : Around} {E : Value → Shared → Prop} {s : Shared} {h₀ : Heap} {L : Addr} {news : List (Addr × Obj)} {value slice : Expr} {D : Addr} {us : List Value} {R : List Int} {x : Int} {c : Nat} {u : Tok} {Q : Value → Shared → Prop}
    (N : News h₀ L s.heap news) (hm : (D, listOf us.toArray c) ∈ news) (hI : IntsAre us (R ++ [x])) (h : ∀ t', Q (.int x t') s)
    (hsub : subscripted slice false (.ref D) (.int (-1) u) = operate [.int (-1) u, .ref D] (getItem (.ref D) (.int (-1) u)) := by with_unfolding_all rfl)
    (hg : ∀ r, letTemporaryGo value (.ref D) r = pure () := by intro _; with_unfolding_all rfl) :
    wpAny (model pg w) A (subscriptTail value slice (.ref D) (.int (-1) u)) Q E s := by
  have hl : us.length = R.length + 1 := by rw [hI.length, List.length_append]; rfl
  obtain ⟨t, hx⟩ := hI.get R.length x (by simp)
  refine subscriptTail_ops ⟨_, (N _ hm).1, rfl⟩ PySem.slot_list_getitem.lookup (wpAny_getItem_list_neg (N.isList hm) (by decide) ?_ (by decide) ?_ (h t)) hsub hg
  · simp only [List.size_toArray]; omega
  · have e : ((-1 : Int) + (us.toArray.size : Int)).toNat = R.length := by simp only [List.size_toArray]; omega
    rw [e]; simpa using hx
/-- an item of a made list of ints at a reckoned place -/
theorem tail_at {w : World} {A : Around} {E : Value → Shared → Prop} {s : Shared} {h₀ : Heap} {L : Addr} {news : List (Addr × Obj)} {value slice : Expr} {D : Addr} {us : List Value} {R : List Int} {x i : Int} {c : Nat} {u : Tok} {Q : Value → Shared → Prop}
    (N : News h₀ L s.heap news) (hm : (D, listOf us.toArray c) ∈ news) (hI : IntsAre us R) (hi : 0 ≤ i ∧ i < 1000) (hx : R[i.toNat]? = some x) (h : ∀ t', Q (.int x t') s)
    (hsub : subscripted slice false (.ref D) (.int i u) = operate [.int i u, .ref D] (getItem (.ref D) (.int i u)) := by with_unfolding_all rfl)
    (hg : ∀ r, letTemporaryGo value (.ref D) r = pure () := by intro _; with_unfolding_all rfl) :
    wpAny (model pg w) A (subscriptTail value slice (.ref D) (.int i u)) Q E s := by
  obtain ⟨t, hy⟩ := hI.get i.toNat x hx
  exact subscriptTail_ops ⟨_, (N _ hm).1, rfl⟩ PySem.slot_list_getitem.lookup (getItem_listL (N.isList hm) hi.1 (by omega) hy (h t)) hsub hg
end Mine
end TailL

section CNew
theorem Mine.top_CNew : True := by
  w_top off
  trivial
open PySem PySem.W PyProof.Rows
namespace Mine
open PySem PySem.Calls
local macro_rules | `(tactic| k_room) => `(tactic| ktr_room)
local macro_rules | `(tactic| k_units) => `(tactic| ktr_units)
section
variable {w : World} {p : Program} {loose : List Str} {mean : ExcName → Option Value} {mg mb : Str → Option Value}
set_option maxHeartbeats 8000000 in
theorem item_m {dp un : Nat} {gd : Option (List Code)} {cn : Str} {cs : Scope} {a : Addr} {ccd : Value} {cl : List (Str × Addr)} {outer : List Env} {A₀ : Around} {base h₀ : Heap} {L : Addr} {m : Str → Option Value} {s : Shared} {Q E : Value → Shared → Prop} {A Ln : Int} {ta tl : Tok} {news : List (Addr × Obj)}
    (B : Below A₀ base outer h₀) (F : Fr h₀ L s.heap m) (KX : (Mine.hd.heap_39 w.params).In h₀) (T : Top p loose mean mg mb h₀) (hk : cs.kind = .function) (N : News h₀ L s.heap news) (hA : 1 ≤ A ∧ A ≤ 5) (hL : 2 ≤ Ln ∧ Ln ≤ 6)
    (hd : dp + 8 < recursionLimit) (hu : un + 40 < cLine)
    (h : ∀ it itd ta' tl' tn tk' h', Fr h₀ L h' m → News h₀ L h' ((it, itO itd A Ln ta' tl' tn) :: (itd, dictOf [] 0) :: news) → (∀ p ∈ news, p.1 < itd) → @LT.lt Nat _ itd it → Q (.ref it) { s with heap := h', toks := tk' }) :
    wpAny (model pg w) (ktrTop dp un gd cn cs L a ccd cl outer) (call (.ref 528) [.int A ta, .int Ln tl]) Q E s := by
  refine' call_cls ?m1 ?m2 ?m3 ?m4 ?m5 ?m6 ?_
  (case m1 => k_asm)
  (case m2 => k_asm)
  (case m3 => k_asm)
  (case m4 => k_is)
  (case m5 => k_is)
  (case m6 => k_is)
  intro x1 d1 h1 F1 N1 l1 l2
  have r1 : ∀ p ∈ news, p.1 ≠ d1 := fun p hp => Nat.ne_of_lt (l1 p hp)
  have r2 : ∀ p ∈ news, p.1 ≠ x1 := fun p hp => Nat.ne_of_lt (Nat.lt_trans (l1 p hp) l2)
  have l3 : @LT.lt Nat _ d1 x1 := l2
  (refine' code_def ?k1 ?k2 ?k3 ?k4 ?k5 ?kA ?kF ?kK ?k6 ?k7 ?k8 ?k9 ?kB ?_ ?c2 ?c3 ?c4 ?c5; (case kA => exact rfl); (case kF => exact rfl); (case kK => assumption); (case k1 => k_asm); (case k2 => k_asm); (case k3 => k_asm); (case k4 => k_asm); (case k5 => k_asm); (case k6 => k_is); (case k7 => k_is); (case k8 => ktr_room); (case k9 => first | exact BindsTo.of_eq rfl | exact binds_K (by k_in) rfl (by k_is) rfl rfl rfl); (case c5 => decide); (case kB => exact locs rfl); (case c2 => exact rfl); (case c3 => exact rfl); (case c4 => exact rfl); k_whole; intro g' L' h' FG' F' N' B' X' T'; (try dsimp only); (try k_fold))
  repeat' (first | (k_unfold; (try dsimp only)) | (k_end; wrow_close) | walk1 | (dsimp only; walk1) | (leave1; try dsimp only))
  all_goals first | (exfalso; omega) | exact h x1 d1 _ _ _ _ _ (by k_asm) (by k_asm) l1 l2
set_option maxHeartbeats 8000000 in
theorem lim1_m {dp un : Nat} {gd : Option (List Code)} {cn : Str} {cs : Scope} {a : Addr} {ccd : Value} {cl : List (Str × Addr)} {outer : List Env} {A₀ : Around} {base h₀ : Heap} {L : Addr} {m : Str → Option Value} {s : Shared} {Q E : Value → Shared → Prop} {st : Addr} {news : List (Addr × Obj)}
    (B : Below A₀ base outer h₀) (F : Fr h₀ L s.heap m) (KX : (Mine.hd.heap_39 w.params).In h₀) (T : Top p loose mean mg mb h₀) (hk : cs.kind = .function) (N : News h₀ L s.heap news)
    (hd : dp + 8 < recursionLimit) (hu : un + 40 < cLine)
    (h : ∀ fx fxd k1 n tk' h', Fr h₀ L h' m → News h₀ L h' ((fx, instObj 241 fxd) :: (fxd, dictOf [⟨PyData.keyHash w.params (Str.ofString "storage"), .str (Str.ofString "storage") k1, .ref st⟩] n) :: news) → (∀ p ∈ news, p.1 < fxd) → @LT.lt Nat _ fxd fx → Q (.ref fx) { s with heap := h', toks := tk' }) :
    wpAny (model pg w) (ktrTop dp un gd cn cs L a ccd cl outer) (call (.ref 241) [.ref st]) Q E s := by
  refine' call_cls ?m1 ?m2 ?m3 ?m4 ?m5 ?m6 ?_
  (case m1 => k_asm)
  (case m2 => k_asm)
  (case m3 => k_asm)
  (case m4 => k_is)
  (case m5 => k_is)
  (case m6 => k_is)
  intro x1 d1 h1 F1 N1 l1 l2
  have r1 : ∀ p ∈ news, p.1 ≠ d1 := fun p hp => Nat.ne_of_lt (l1 p hp)
  have r2 : ∀ p ∈ news, p.1 ≠ x1 := fun p hp => Nat.ne_of_lt (Nat.lt_trans (l1 p hp) l2)
  have l3 : @LT.lt Nat _ d1 x1 := l2
  (refine' code_def ?k1 ?k2 ?k3 ?k4 ?k5 ?kA ?kF ?kK ?k6 ?k7 ?k8 ?k9 ?kB ?_ ?c2 ?c3 ?c4 ?c5; (case kA => exact rfl); (case kF => exact rfl); (case kK => assumption); (case k1 => k_asm); (case k2 => k_asm); (case k3 => k_asm); (case k4 => k_asm); (case k5 => k_asm); (case k6 => k_is); (case k7 => k_is); (case k8 => ktr_room); (case k9 => first | exact BindsTo.of_eq rfl | exact binds_K (by k_in) rfl (by k_is) rfl rfl rfl); (case c5 => decide); (case kB => exact locs rfl); (case c2 => exact rfl); (case c3 => exact rfl); (case c4 => exact rfl); k_whole; intro g' L' h' FG' F' N' B' X' T'; (try dsimp only); (try k_fold))
  repeat' (first | (k_unfold; (try dsimp only)) | (k_end; wrow_close) | walk1 | (dsimp only; walk1) | (leave1; try dsimp only))
  exact h x1 d1 _ _ _ _ (by k_asm) (by k_asm) l1 l2
set_option maxHeartbeats 8000000 in
theorem lim2_m {dp un : Nat} {gd : Option (List Code)} {cn : Str} {cs : Scope} {a : Addr} {ccd : Value} {cl : List (Str × Addr)} {outer : List Env} {A₀ : Around} {base h₀ : Heap} {L : Addr} {m : Str → Option Value} {s : Shared} {Q E : Value → Shared → Prop} {st : Addr} {news : List (Addr × Obj)}
    (B : Below A₀ base outer h₀) (F : Fr h₀ L s.heap m) (KX : (Mine.hd.heap_39 w.params).In h₀) (T : Top p loose mean mg mb h₀) (hk : cs.kind = .function) (N : News h₀ L s.heap news)
    (hd : dp + 8 < recursionLimit) (hu : un + 40 < cLine)
    (h : ∀ fx fxd k1 n tk' h', Fr h₀ L h' m → News h₀ L h' ((fx, instObj 296 fxd) :: (fxd, dictOf [⟨PyData.keyHash w.params (Str.ofString "storage"), .str (Str.ofString "storage") k1, .ref st⟩] n) :: news) → (∀ p ∈ news, p.1 < fxd) → @LT.lt Nat _ fxd fx → Q (.ref fx) { s with heap := h', toks := tk' }) :
    wpAny (model pg w) (ktrTop dp un gd cn cs L a ccd cl outer) (call (.ref 296) [.ref st]) Q E s := by
  refine' call_cls ?m1 ?m2 ?m3 ?m4 ?m5 ?m6 ?_
  (case m1 => k_asm)
  (case m2 => k_asm)
  (case m3 => k_asm)
  (case m4 => k_is)
  (case m5 => k_is)
  (case m6 => k_is)
  intro x1 d1 h1 F1 N1 l1 l2
  have r1 : ∀ p ∈ news, p.1 ≠ d1 := fun p hp => Nat.ne_of_lt (l1 p hp)
  have r2 : ∀ p ∈ news, p.1 ≠ x1 := fun p hp => Nat.ne_of_lt (Nat.lt_trans (l1 p hp) l2)
  have l3 : @LT.lt Nat _ d1 x1 := l2
  (refine' code_def ?k1 ?k2 ?k3 ?k4 ?k5 ?kA ?kF ?kK ?k6 ?k7 ?k8 ?k9 ?kB ?_ ?c2 ?c3 ?c4 ?c5; (case kA => exact rfl); (case kF => exact rfl); (case kK => assumption); (case k1 => k_asm); (case k2 => k_asm); (case k3 => k_asm); (case k4 => k_asm); (case k5 => k_asm); (case k6 => k_is); (case k7 => k_is); (case k8 => ktr_room); (case k9 => first | exact BindsTo.of_eq rfl | exact binds_K (by k_in) rfl (by k_is) rfl rfl rfl); (case c5 => decide); (case kB => exact locs rfl); (case c2 => exact rfl); (case c3 => exact rfl); (case c4 => exact rfl); k_whole; intro g' L' h' FG' F' N' B' X' T'; (try dsimp only); (try k_fold))
  repeat' (first | (k_unfold; (try dsimp only)) | (k_end; wrow_close) | walk1 | (dsimp only; walk1) | (leave1; try dsimp only))
  exact h x1 d1 _ _ _ _ (by k_asm) (by k_asm) l1 l2
theorem isDict_nil {w : World} {o : Obj} (h : o.IsDictOf (PySem.strKind pg w) []) : ∃ n, o = dictOf [] n := by
  obtain ⟨es, ep, ⟨hc, hd, hs⟩, hdat, hk, hp, hn⟩ := h
  obtain ⟨l⟩ := es
  cases l with
  | nil =>
    refine ⟨ep, ?_⟩
    cases o
    simp only at hc hd hs hdat
    subst hc hd hs hdat
    rfl
  | cons a r => cases hp
theorem units_tc {A : Around} {args : Args} : (A.under (.builtin "type.__call__" args)).units = A.units + 1 := by
  first | rfl | simp [Around.under, Code.cUnits, Code.frames, Code.isFrame]
set_option maxHeartbeats 8000000 in
theorem sto_m {dp un : Nat} {gd : Option (List Code)} {cn : Str} {cs : Scope} {a : Addr} {ccd : Value} {cl : List (Str × Addr)} {outer : List Env} {A₀ : Around} {base h₀ : Heap} {L : Addr} {m : Str → Option Value} {s : Shared} {Q E : Value → Shared → Prop} {lam : Addr} {news : List (Addr × Obj)}
    (B : Below A₀ base outer h₀) (F : Fr h₀ L s.heap m) (KX : (Mine.hd.heap_39 w.params).In h₀) (T : Top p loose mean mg mb h₀) (hk : cs.kind = .function) (N : News h₀ L s.heap news) (lo : ∃ p ∈ news, @LT.lt Nat _ 1 p.1)
    (hd : dp + 20 < recursionLimit) (hu : un + 80 < cLine)
    (h : ∀ st sd S dS X EV k1 k2 k3 k4 nX nE tk' h', Fr h₀ L h' m → News h₀ L h' ((EV, dictOf [] nE) :: (X, dictOf [] nX) :: (S, cntO dS [] 0) :: (dS, dictOf [] 0) :: (st, instObj 912 sd) :: (sd, stD w k1 k2 k3 k4 lam S X EV) :: news) →
      (∀ p ∈ news, p.1 < sd) → @LT.lt Nat _ sd st ∧ @LT.lt Nat _ st dS ∧ @LT.lt Nat _ dS S ∧ @LT.lt Nat _ S X ∧ @LT.lt Nat _ X EV → Q (.ref st) { s with heap := h', toks := tk' }) :
    wpAny (model pg w) (ktrTop dp un gd cn cs L a ccd cl outer) (call (.ref 912) [.ref lam]) Q E s := by
  refine' call_cls ?m1 ?m2 ?m3 ?m4 ?m5 ?m6 ?_
  (case m1 => k_asm)
  (case m2 => k_asm)
  (case m3 => k_asm)
  (case m4 => k_is)
  (case m5 => k_is)
  (case m6 => k_is)
  intro x1 d1 h1 F1 N1 l1 l2
  have r1 : ∀ p ∈ news, p.1 ≠ d1 := fun p hp => Nat.ne_of_lt (l1 p hp)
  have r2 : ∀ p ∈ news, p.1 ≠ x1 := fun p hp => Nat.ne_of_lt (Nat.lt_trans (l1 p hp) l2)
  have l3 : @LT.lt Nat _ d1 x1 := l2
  (refine' code_def ?k1 ?k2 ?k3 ?k4 ?k5 ?kA ?kF ?kK ?k6 ?k7 ?k8 ?k9 ?kB ?_ ?c2 ?c3 ?c4 ?c5; (case kA => exact rfl); (case kF => exact rfl); (case kK => assumption); (case k1 => k_asm); (case k2 => k_asm); (case k3 => k_asm); (case k4 => k_asm); (case k5 => k_asm); (case k6 => k_is); (case k7 => k_is); (case k8 => ktr_room); (case k9 => first | exact BindsTo.of_eq rfl | exact binds_K (by k_in) rfl (by k_is) rfl rfl rfl); (case c5 => decide); (case kB => exact locs rfl); (case c2 => exact rfl); (case c3 => exact rfl); (case c4 => exact rfl); k_whole; intro g' L' h' FG' F' N' B' X' T'; (try dsimp only); (try k_fold))
  repeat' ((fail_if_success (with_reducible show wpAny _ _ (call (Value.ref 789) []) _ _ _)); (first | (k_unfold; (try dsimp only)) | (k_end; wrow_close) | walk1 | (dsimp only; walk1) | (leave1; try dsimp only)))
  k_here
  refine' cnt_new ?k1 ?k2 ?k3 ?k4 ?k5 ?k6 ?d1 ?d2 ?_ ?lo
  (case k1 => k_asm)
  (case k2 => k_asm)
  (case k3 => k_asm)
  (case k4 => k_asm)
  (case k5 => first | exact rfl | assumption)
  (case k6 => k_asm)
  (case d1 => ktr_room)
  (case d2 => simp only [units_deeper, units_in1, units_tc]; omega)
  (case lo => exact (let ⟨q, hq, e⟩ := lo; ⟨q, .tail _ (.tail _ hq), e⟩))
  intro S dS tk1 h2 F2 N2 l4 l5
  have r3 : ∀ p ∈ news, p.1 ≠ S := fun p hp => Nat.ne_of_lt (Nat.lt_trans (l4 p (.tail _ (.tail _ hp))) l5)
  have r4 : ∀ p ∈ news, p.1 ≠ dS := fun p hp => Nat.ne_of_lt (l4 p (.tail _ (.tail _ hp)))
  k_lt l4
  k_lt2 l5
  repeat' (first | (k_unfold; (try dsimp only)) | (k_end; wrow_close) | walk1 | (dsimp only; walk1) | (leave1; try dsimp only))
  rename Obj.IsDictOf (PySem.strKind _ _) _ _ => hs2
  obtain ⟨e2, rfl⟩ := isDict_nil hs2
  clear hs2
  rename Obj.IsDictOf (PySem.strKind _ _) _ _ => hs2
  obtain ⟨e1, rfl⟩ := isDict_nil hs2
  clear hs2
  exact h x1 d1 S dS _ _ _ _ _ _ _ _ _ _ (by k_asm) (by k_asm) l1 ⟨by omega, by omega, by omega, by omega, by omega⟩
end
end Mine
end CNew

section LawR
theorem Mine.top_LawR : True := by
  w_top off
  trivial
open PySem PySem.W PyProof.Rows
namespace Mine
open PySem PySem.Calls
/-- append to a made list of ints of any length -/
theorem app_L {w : World} {A : Around} {E : Value → Shared → Prop} {s : Shared} {h₀ : Heap} {L : Addr} {m : Str → Option Value} {news : List (Addr × Obj)} {g : Obj → List (Addr × Obj)} {D : Addr} {us : List Value} {R : List Int} {x : Int} {tx : Tok} {c : Nat} {Q : Value → Shared → Prop}
    (F : Fr h₀ L s.heap m) (N : News h₀ L s.heap news) (U : UpdF D (listOf us.toArray c) news g) (hI : IntsAre us R) (hl : R.length ≤ 1000)
    (h : ∀ h', Fr h₀ L h' m → News h₀ L h' (g (listOf (us ++ [Value.int x tx]).toArray (c + 1))) → IntsAre (us ++ [Value.int x tx]) (R ++ [x]) → Q .none { s with heap := h' }) :
    wpAny (model pg w) A (call (.builtin "list.append") [Value.ref D, Value.int x tx]) Q E s := by
  obtain ⟨pre, post, rfl, hg, a, b⟩ := U.split
  have z := N (D, listOf us.toArray c) (List.mem_append.mpr (.inr (.head _)))
  have hsz : us.toArray.size ≤ sizeLine := by rw [List.size_toArray, hI.length, sizeLine_eq]; omega
  refine append_at (hsz := hsz) z.1 fun h' hs ho' => h h' (F.change hs z.2.1 z.2.2) ?_ (IntsAre.append hI (.cons x tx .nil))
  rw [hg]
  have e : (us ++ [Value.int x tx]).toArray = us.toArray.push (Value.int x tx) := by simp
  rw [e]
  exact news_set N a b hs ho'
/-- append to a made list of anything -/
theorem app_V {w : World} {A : Around} {E : Value → Shared → Prop} {s : Shared} {h₀ : Heap} {L : Addr} {m : Str → Option Value} {news : List (Addr × Obj)} {g : Obj → List (Addr × Obj)} {D : Addr} {us : List Value} {x : Value} {c : Nat} {Q : Value → Shared → Prop}
    (F : Fr h₀ L s.heap m) (N : News h₀ L s.heap news) (U : UpdF D (listOf us.toArray c) news g) (hl : us.length ≤ 1000)
    (h : ∀ h', Fr h₀ L h' m → News h₀ L h' (g (listOf (us ++ [x]).toArray (c + 1))) → Q .none { s with heap := h' }) :
    wpAny (model pg w) A (call (.builtin "list.append") [Value.ref D, x]) Q E s := by
  obtain ⟨pre, post, rfl, hg, a, b⟩ := U.split
  have z := N (D, listOf us.toArray c) (List.mem_append.mpr (.inr (.head _)))
  have hsz : us.toArray.size ≤ sizeLine := by rw [List.size_toArray, sizeLine_eq]; omega
  refine append_at (hsz := hsz) z.1 fun h' hs ho' => h h' (F.change hs z.2.1 z.2.2) ?_
  rw [hg]
  have e : (us ++ [x]).toArray = us.toArray.push x := by simp
  rw [e]
  exact news_set N a b hs ho'
section
variable {prog : Program} {w : World} {A : Around} {E : Value → Shared → Prop} {s : Shared} {env : Env} {h₀ : Heap} {target : Expr} {body : List Stmt} {Q : Flow → Shared → Prop}
theorem letGo_reviter {I t : Addr} {i : Int} {v : Value} {Q' : Unit → Shared → Prop} {s' : Shared} (hit : s'.heap.IsRevIter I t i) (h : Q' () s') :
    wpAny (model prog w) A (letOwnedTupleGo target (.ref I) v) Q' E s' := by
  obtain ⟨o, ho, hc, hd⟩ := hit
  unfold letOwnedTupleGo
  cases target <;> first
    | exact wpAny_pure h
    | (cases v <;> first
        | exact wpAny_pure h
        | (refine wpAny_bind (wpAny_load ho ?_)
           rw [hc, hd]
           exact wpAny_pure h))
/-- for TARGET in reversed(LIST), LIST of any length -/
theorem iter_revTurns {ax I : Addr} {lo : Obj} {vs : List Value} {n : Nat} {m₀ : Str → Option Value} {news : List (Addr × Obj)}
    (hh : A.handled = none) (F : Fr h₀ env.locals s.heap m₀) (N : News h₀ env.locals s.heap ((I, revObj ax ((vs.length : Int) - 1)) :: news)) (hof : ∀ p ∈ news, p.1 ≠ I) (hm : (ax, lo) ∈ news) (hc : lo.cls = .type "list") (hd : lo.data = .seq vs.toArray n)
    (rest : ItemsRest prog w A E h₀ env target body Q s [(I, "list_reverseiterator")] [(ax, lo)] (vs.reverse.map .val) m₀ news) :
    wpAny (model prog w) A (pyIter (.ref I)) (fun it s₂ => TurnsAt prog w A h₀ env target body Q E it s₂) E s := by
  have hIx := N _ (List.mem_cons_self ..)
  have hax := N _ (List.mem_cons_of_mem _ hm)
  have hl : s.heap.IsList ax vs.toArray := ⟨lo, hax.1, hc, n, hd⟩
  have hne : ax ≠ I := hof _ hm
  have hit : s.heap.IsRevIter I ax ((vs.length : Int) - 1) := ⟨_, hIx.1, rfl, rfl⟩
  refine wpAny_pyIter_revIter hit ?_
  refine ktu_core (tk0 := s.toks) (keep := [(ax, lo)]) (KTurns.ofWalks (Walks.listRev hh I ax hne vs.toArray).bound fun i v s Q E st q => letGo_reviter st.2.1 q) (by simp) (fun i v h hp => ⟨.val v, ?_, rfl⟩) (fun i h st => ?_) (fun b hb => ?_) (fun b hb => by simpa using hb) (fun b hb => ?_) ?_ (fun p hp hI => ?_) ?_ F (fun p hp => N p (List.mem_cons_of_mem _ hp)) (And.intro hm trivial) rest
  · obtain ⟨hi, hp'⟩ := hp
    simp only [List.size_toArray, List.getElem?_toArray] at hi hp'
    rw [List.getElem?_map, List.getElem?_reverse hi, hp']; rfl
  · obtain ⟨it, hit, hic, _⟩ := st.2.1
    exact ⟨[(I, it)], ⟨⟨rfl, hic⟩, trivial⟩, fun p hp => by rw [List.mem_singleton.mp hp]; exact hit⟩
  · have hb' : b = I := by simpa using hb
    rw [hb']
    exact ⟨List.mem_cons_self .., hIx.2.2⟩
  · have hb' : b = I ∨ b = ax := by simpa using hb
    rcases hb' with e | e
    · exact .inl (by simp [e])
    · exact .inr ⟨lo, by simp [e]⟩
  · intro hI
    rcases List.mem_cons.mp hI with e | hI
    · exact hIx.2.1 e.symm
    · exact hax.2.1 (List.mem_singleton.mp hI).symm
  · exact hof p hp (List.mem_singleton.mp hI)
  · refine ⟨Nat.zero_le _, ?_, hl⟩
    have e : (vs.toArray.size : Int) - 1 - ((0 : Nat) : Int) = (vs.length : Int) - 1 := by simp
    rw [e]; exact hit
theorem rrest_weaken {I : Addr} {x : Str} {a : Int} {n : Nat} {news news1 : List (Addr × Obj)} {m : Str → Option Value} (hs : SubL news1 news) :
    ∀ {k i : Nat}, RangeRest prog w A E h₀ env x body Q s I a n k i m news1 → RangeRest prog w A E h₀ env x body Q s I a n k i m news
  | 0, _, H => fun h tk F N => H h tk F (fun p hp => N p (hs.mem p hp))
  | _ + 1, _, H => fun t h tk F N => H t h tk F (fun p hp => N p (by
      rcases List.mem_cons.mp hp with rfl | hp
      · exact .head _
      · exact .tail _ (hs.mem p hp)))
theorem lrest_weaken2 {x : Str} {I : Addr} {lp : Addr × Obj} {m : Str → Option Value} {news news1 : List (Addr × Obj)} (hs : SubL news1 news) :
    ∀ {vs : List Value}, ListRest prog w A E h₀ env x body Q s I lp vs m news1 → ListRest prog w A E h₀ env x body Q s I lp vs m news
  | [], H => fun h tk F N => H h tk F (fun p hp => N p (hs.mem p hp))
  | _ :: _, H => fun it h tk hc F N => H it h tk hc F (fun p hp => N p (by
      rcases List.mem_cons.mp hp with rfl | hp
      · exact .head _
      · exact .tail _ (hs.mem p hp)))
end
theorem map_but {m1 M : Str → Option Value} {x : Str} (h : ∀ y, y ≠ x → m1 y = M y) : ∃ v, m1 = fun y => if y = x then v else M y :=
  ⟨m1 x, funext fun y => by
    by_cases q : y = x
    · rw [if_pos q, q]
    · rw [if_neg q]; exact h y q⟩
theorem map_turn {m1 M : Str → Option Value} {x : Str} {v : Option Value} (h : ∀ y, y ≠ x → m1 y = M y) : (fun y => if y = x then v else m1 y) = fun y => if y = x then v else M y :=
  funext fun y => by
    by_cases q : y = x
    · rw [if_pos q, if_pos q]
    · rw [if_neg q, if_neg q]; exact h y q
def mapL : List (Str × Option Value) → (Str → Option Value) → Str → Option Value
  | [], M => M
  | (x, v) :: r, M => fun y => if y = x then v else mapL r M y
theorem mapL_at {m' M : Str → Option Value} : ∀ {names : List Str} {y : Str}, (y ∉ names → m' y = M y) → m' y = mapL (names.map fun x => (x, m' x)) M y
  | [], y, h => h (fun z => nomatch z)
  | x :: r, y, h => by
    show _ = if y = x then m' x else mapL (r.map fun x => (x, m' x)) M y
    by_cases q : y = x
    · rw [if_pos q, q]
    · rw [if_neg q]
      exact mapL_at fun hy => h fun z => (List.mem_cons.mp z).elim q hy
theorem mapL_canon {m' M : Str → Option Value} (names : List Str) (h : ∀ y, y ∉ names → m' y = M y) : m' = mapL (names.map fun x => (x, m' x)) M := funext fun y => mapL_at (h y)
theorem lrest_map {prog : Program} {w : World} {A : Around} {E : Value → Shared → Prop} {s : Shared} {env : Env} {h₀ : Heap} {x : Str} {body : List Stmt} {Q : Flow → Shared → Prop} {I : Addr} {lp : Addr × Obj} {vs : List Value} {m m' : Str → Option Value} {news : List (Addr × Obj)} (e : m = m')
    (h : ListRest prog w A E h₀ env x body Q s I lp vs m' news) : ListRest prog w A E h₀ env x body Q s I lp vs m news := e ▸ h
theorem fr_mapE {h₀ h : Heap} {L : Addr} {m m' : Str → Option Value} (F : Fr h₀ L h m) (e : m = m') : Fr h₀ L h m' := e ▸ F
section
variable {w : World} {A : Around} {E : Value → Shared → Prop} {s : Shared} {h₀ : Heap} {L : Addr} {news : List (Addr × Obj)} {value slice : Expr} {D : Addr} {us : List Value} {c k : Nat} {u : Tok} {Am Ln i : Int} {Q : Value → Shared → Prop}
theorem tailF (N : News h₀ L s.heap news) (hm : (D, listOf us.toArray c) ∈ news) (hI : IntsAre us (tabF Am Ln k)) (h : ∀ t', Q (.int (ful Am Ln k) t') s)
    (hsub : subscripted slice false (.ref D) (.int (-1) u) = operate [.int (-1) u, .ref D] (getItem (.ref D) (.int (-1) u)))
    (hg : ∀ r, letTemporaryGo value (.ref D) r = pure ()) :
    wpAny (model pg w) A (subscriptTail value slice (.ref D) (.int (-1) u)) Q E s := tail_last N hm (tabF_last ▸ hI) h hsub hg
theorem tailS (N : News h₀ L s.heap news) (hm : (D, listOf us.toArray c) ∈ news) (hI : IntsAre us (tabS Am Ln k)) (h : ∀ t', Q (.int (sms Am Ln k) t') s)
    (hsub : subscripted slice false (.ref D) (.int (-1) u) = operate [.int (-1) u, .ref D] (getItem (.ref D) (.int (-1) u)))
    (hg : ∀ r, letTemporaryGo value (.ref D) r = pure ()) :
    wpAny (model pg w) A (subscriptTail value slice (.ref D) (.int (-1) u)) Q E s := tail_last N hm (tabS_last ▸ hI) h hsub hg
theorem tabF_len {A L : Int} {k : Nat} : (tabF A L k).length = k + 1 := by unfold tabF; simp
theorem tabS_len {A L : Int} {k : Nat} : (tabS A L k).length = k + 1 := by unfold tabS; simp
theorem appF {m : Str → Option Value} {g : Obj → List (Addr × Obj)} {tx : Tok} {Q : Value → Shared → Prop} {x : Int}
    (F : Fr h₀ L s.heap m) (N : News h₀ L s.heap news) (U : UpdF D (listOf us.toArray c) news g) (hI : IntsAre us (tabF Am Ln k)) (hk : k ≤ 900) (hx : x = ful Am Ln (k + 1))
    (h : ∀ h' us', Fr h₀ L h' m → News h₀ L h' (g (listOf us'.toArray (c + 1))) → IntsAre us' (tabF Am Ln (k + 1)) → Q .none { s with heap := h' }) :
    wpAny (model pg w) A (call (.builtin "list.append") [Value.ref D, Value.int x tx]) Q E s :=
  app_L F N U hI (by rw [tabF_len]; omega) fun h' F' N' I' => h h' _ F' N' (by rw [tabF_succ, ← hx]; exact I')
theorem appS {m : Str → Option Value} {g : Obj → List (Addr × Obj)} {tx : Tok} {Q : Value → Shared → Prop} {x : Int}
    (F : Fr h₀ L s.heap m) (N : News h₀ L s.heap news) (U : UpdF D (listOf us.toArray c) news g) (hI : IntsAre us (tabS Am Ln k)) (hk : k ≤ 900) (hx : x = sms Am Ln (k + 1))
    (h : ∀ h' us', Fr h₀ L h' m → News h₀ L h' (g (listOf us'.toArray (c + 1))) → IntsAre us' (tabS Am Ln (k + 1)) → Q .none { s with heap := h' }) :
    wpAny (model pg w) A (call (.builtin "list.append") [Value.ref D, Value.int x tx]) Q E s :=
  app_L F N U hI (by rw [tabS_len]; omega) fun h' F' N' I' => h h' _ F' N' (by rw [tabS_succ, ← hx]; exact I')
end
end Mine
end LawR

section LawS
theorem Mine.top_LawS : True := by
  w_top off
  trivial
open PySem PySem.W PyProof.Rows
namespace Mine
open PySem PySem.Calls
abbrev tup3 (m a b : Int) (t1 t2 t3 : Tok) : Obj := { cls := .type "tuple", data := .seq #[.int m t1, .int a t2, .int b t3] }
def StoryAre (tl : List (Addr × Obj)) : List Value → List (Int × Int × Int) → Prop
  | [], [] => True
  | v :: vs, (m, a, b) :: st => (∃ T t1 t2 t3, v = .ref T ∧ (T, tup3 m a b t1 t2 t3) ∈ tl) ∧ StoryAre tl vs st
  | _, _ => False
theorem StoryAre.len {tl : List (Addr × Obj)} : ∀ {vs : List Value} {st : List (Int × Int × Int)}, StoryAre tl vs st → vs.length = st.length
  | [], [], _ => rfl
  | _ :: _, (_, _, _) :: _, h => by rw [List.length_cons, List.length_cons, StoryAre.len h.2]
  | [], _ :: _, h => h.elim
  | _ :: _, [], h => h.elim
theorem StoryAre.weaken {tl tl' : List (Addr × Obj)} (hs : ∀ p ∈ tl, p ∈ tl') : ∀ {vs : List Value} {st : List (Int × Int × Int)}, StoryAre tl vs st → StoryAre tl' vs st
  | [], [], _ => trivial
  | _ :: _, (_, _, _) :: _, ⟨⟨T, t1, t2, t3, e, h⟩, h2⟩ => ⟨⟨T, t1, t2, t3, e, hs _ h⟩, StoryAre.weaken hs h2⟩
  | [], _ :: _, h => h.elim
  | _ :: _, [], h => h.elim
theorem StoryAre.app {tl : List (Addr × Obj)} : ∀ {vs vs' : List Value} {st st' : List (Int × Int × Int)}, StoryAre tl vs st → StoryAre tl vs' st' → StoryAre tl (vs ++ vs') (st ++ st')
  | [], _, [], _, _, h => h
  | _ :: _, _, (_, _, _) :: _, _, h1, h => ⟨h1.1, StoryAre.app h1.2 h⟩
  | [], _, _ :: _, _, h, _ => h.elim
  | _ :: _, _, [], _, h, _ => h.elim
theorem StoryAre.rev {tl : List (Addr × Obj)} : ∀ {vs : List Value} {st : List (Int × Int × Int)}, StoryAre tl vs st → StoryAre tl vs.reverse st.reverse
  | [], [], _ => trivial
  | _ :: _, (_, _, _) :: _, h => by
    rw [List.reverse_cons, List.reverse_cons]
    exact StoryAre.app (StoryAre.rev h.2) ⟨h.1, trivial⟩
  | [], _ :: _, h => h.elim
  | _ :: _, [], h => h.elim
theorem StoryAre.snoc {tl : List (Addr × Obj)} {vs : List Value} {st : List (Int × Int × Int)} {T : Addr} {m a b : Int} {t1 t2 t3 : Tok} (h : StoryAre tl vs st) :
    StoryAre ((T, tup3 m a b t1 t2 t3) :: tl) (vs ++ [.ref T]) (st ++ [(m, a, b)]) :=
  StoryAre.app (StoryAre.weaken (fun _ hp => .tail _ hp) h) ⟨⟨T, t1, t2, t3, rfl, .head _⟩, trivial⟩
theorem iter_lst {prog : Program} {w : World} {A : Around} {E : Value → Shared → Prop} {s : Shared} {env : Env} {h₀ : Heap} {x : Str} {body : List Stmt} {Q : Flow → Shared → Prop} {ax : Addr} {vs : List Value} {n : Nat} {m₀ : Str → Option Value} {news : List (Addr × Obj)}
    (hh : A.handled = none) (F : Fr h₀ env.locals s.heap m₀) (N : News h₀ env.locals s.heap news) (hm : (ax, listOf vs.toArray n) ∈ news)
    (rest₀ : ∀ I : Addr, (∀ p ∈ news, p.1 < I) → ListRest prog w A E h₀ env x body Q s I (ax, listOf vs.toArray n) vs m₀ news) :
    wpAny (model prog w) A (pyIter (.ref ax)) (fun it s₂ => LoopAtV prog w A h₀ env x body Q E it s₂) E s := iter_listUnr hh F N hm rfl rfl rest₀
theorem set_gen {M : Model} {A₁ : Around} {E : Value → Shared → Prop} {s : Shared} {d k : Value} {e : Int} {t : Tok} {Q : Unit → Shared → Prop} (h : ∀ a, a = e → wpAny M A₁ (setItem d k (.int a t)) Q E s) : wpAny M A₁ (setItem d k (.int e t)) Q E s := h _ rfl
theorem sto_gen {M : Model} {A₁ : Around} {E : Value → Shared → Prop} {s : Shared} {env : Env} {x : Str} {e : Int} {t : Tok} {Q : Unit → Shared → Prop} (h : ∀ a, a = e → wpAny M A₁ (storeName env x (.int a t)) Q E s) : wpAny M A₁ (storeName env x (.int e t)) Q E s := h _ rfl
theorem gap_bnd {Ln : Int} (hL : 2 ≤ Ln ∧ Ln ≤ 6) : ∀ n : Nat, 0 ≤ [0, 1, 1, 2, Ln - 1, Ln, Ln + 1, 2 * Ln - 1].getD n 0 ∧ [0, 1, 1, 2, Ln - 1, Ln, Ln + 1, 2 * Ln - 1].getD n 0 ≤ 2 * Ln - 1
  | 0 => by show 0 ≤ (0 : Int) ∧ (0 : Int) ≤ _; omega
  | 1 => by show 0 ≤ (1 : Int) ∧ (1 : Int) ≤ _; omega
  | 2 => by show 0 ≤ (1 : Int) ∧ (1 : Int) ≤ _; omega
  | 3 => by show 0 ≤ (2 : Int) ∧ (2 : Int) ≤ _; omega
  | 4 => by show 0 ≤ Ln - 1 ∧ Ln - 1 ≤ _; omega
  | 5 => by show 0 ≤ Ln ∧ Ln ≤ _; omega
  | 6 => by show 0 ≤ Ln + 1 ∧ Ln + 1 ≤ _; omega
  | 7 => by show 0 ≤ 2 * Ln - 1 ∧ 2 * Ln - 1 ≤ _; omega
  | n + 8 => by show 0 ≤ (0 : Int) ∧ (0 : Int) ≤ _; omega
theorem if_join {M : Model} {A₁ : Around} {E : Value → Shared → Prop} {s : Shared} {st : Stmt} {env : Env} {R Q : Flow → Shared → Prop} (h1 : wpAny M A₁ (exec st env) R E s) (h2 : ∀ f s', R f s' → Q f s') : wpAny M A₁ (exec st env) Q E s := wpAny_mono h1 h2 (fun _ _ e => e)
theorem fm_bnd2 {x : Int} (a k : Int) (hk : 0 < k) : a ≤ a + x.fmod k ∧ a + x.fmod k ≤ a + k - 1 := by
  rw [Int.fmod_eq_emod_of_nonneg _ (by omega)]
  have h1 := Int.emod_lt_of_pos x hk
  have h2 := Int.emod_nonneg x (show k ≠ 0 by omega)
  omega
theorem cb_u {sg : Sto} {N : Nat} {t x c u : Int} {k : Str} (h : CB sg N) (hN : N ≤ 1000) (hc : 1 ≤ c ∧ c ≤ 6) : ∀ y, 0 ≤ cnt (ups sg t k x c) u y ∧ cnt (ups sg t k x c) u y ≤ 100000 := fun y => by
  have z := (h.ups (t := t) (x := x) (c := c) (k := k) (by omega) hc.2).cnt u y
  omega
theorem subl_tail {p : Addr × Obj} {l r : List (Addr × Obj)} (h : SubL r l) : SubL r (p :: l) := by
  induction r with
  | nil => trivial
  | cons q r ih => exact ⟨.tail _ h.1, ih h.2⟩
theorem subl_self : ∀ {r : List (Addr × Obj)}, SubL r r
  | [] => trivial
  | p :: r => ⟨.head _, subl_tail subl_self⟩
theorem news_cut4 {h₀ h : Heap} {L : Addr} {a b c d : Addr × Obj} {r : List (Addr × Obj)} (N : News h₀ L h (a :: b :: c :: d :: r)) : ∃ r', r' = r := ⟨r, rfl⟩
/-- the store turned, all else as it was -/
def StoR (w : World) (h₀ : Heap) (L : Addr) (m : Str → Option Value) (S dS X : Addr) (front rest : List (Addr × Obj)) (sg : Sto) (t : Int) (n : Nat) (s : Shared) (f : Flow) (s' : Shared) : Prop :=
  f = .next ∧ ∃ h' tk esS nS esX nX, s' = { s with heap := h', toks := tk } ∧ Fr h₀ L h' m ∧ News h₀ L h' (front ++ (S, cntO dS esS nS) :: (X, dictOf esX nX) :: rest) ∧ StRep w esS esX sg t n
/-- names stored, all else as it was -/
def NamR (h₀ : Heap) (L : Addr) (P : (Str → Option Value) → Prop) (news : List (Addr × Obj)) (s : Shared) (f : Flow) (s' : Shared) : Prop :=
  f = .next ∧ ∃ h' tk m, s' = { s with heap := h', toks := tk } ∧ Fr h₀ L h' m ∧ News h₀ L h' news ∧ P m
theorem sto_join {M : Model} {A₁ : Around} {E : Value → Shared → Prop} {s : Shared} {st : Stmt} {env : Env} {Q : Flow → Shared → Prop} (w : World) (h₀ : Heap) (L : Addr) (m : Str → Option Value) (S dS X : Addr) (front rest : List (Addr × Obj)) (sg : Sto) (t : Int) (n : Nat)
    (h1 : wpAny M A₁ (exec st env) (StoR w h₀ L m S dS X front rest sg t n s) E s)
    (h2 : ∀ h' tk esS nS esX nX, Fr h₀ L h' m → News h₀ L h' (front ++ (S, cntO dS esS nS) :: (X, dictOf esX nX) :: rest) → StRep w esS esX sg t n → Q .next { s with heap := h', toks := tk }) :
    wpAny M A₁ (exec st env) Q E s := wpAny_mono h1 (fun _ _ ⟨e, h', tk, a, b, c, d, e2, F, N, R⟩ => by subst e e2; exact h2 h' tk a b c d F N R) (fun _ _ e => e)
theorem nam_join {M : Model} {A₁ : Around} {E : Value → Shared → Prop} {s : Shared} {st : Stmt} {env : Env} {Q : Flow → Shared → Prop} (h₀ : Heap) (L : Addr) (P : (Str → Option Value) → Prop) (news : List (Addr × Obj))
    (h1 : wpAny M A₁ (exec st env) (NamR h₀ L P news s) E s)
    (h2 : ∀ h' tk m, Fr h₀ L h' m → News h₀ L h' news → P m → Q .next { s with heap := h', toks := tk }) :
    wpAny M A₁ (exec st env) Q E s := wpAny_mono h1 (fun _ _ ⟨e, h', tk, m, e2, F, N, R⟩ => by subst e e2; exact h2 h' tk m F N R) (fun _ _ e => e)
theorem tok_gen1 {M : Model} {A₁ : Around} {E : Value → Shared → Prop} {α : Type} {c : Sem α} {Q : α → Shared → Prop} {hp : Heap} {x : Nat} {g : Array GenState} {d : Drawn} {o : OsState} (h : ∀ tk, wpAny M A₁ c Q E { heap := hp, gens := g, drawn := d, toks := tk, os := o }) : wpAny M A₁ c Q E { heap := hp, gens := g, drawn := d, toks := x + 1, os := o } := h _
theorem list2_gen {M : Model} {A₁ : Around} {E : Value → Shared → Prop} {s : Shared} {x y : Bool} {Q : Value → Shared → Prop} (h : ∀ a b, a = x → b = y → wpAny M A₁ (newList [.bool a, .bool b]) Q E s) : wpAny M A₁ (newList [.bool x, .bool y]) Q E s := h _ _ rfl rfl
theorem news_all {h₀ h : Heap} {L : Addr} {r : List (Addr × Obj)} (N : News h₀ L h r) : ∃ r', r' = r := ⟨r, rfl⟩
theorem map_keep1 {m : Str → Option Value} {a : Str} {va : Option Value} (ha : m a = va) : m = fun y => if y = a then va else m y := funext fun y => by
  by_cases q : y = a
  · rw [if_pos q, q, ha]
  · rw [if_neg q]
theorem map_keep2 {m : Str → Option Value} {a b : Str} {va vb : Option Value} (ha : m a = va) (hb : m b = vb) : m = fun y => if y = a then va else if y = b then vb else m y := funext fun y => by
  by_cases q : y = a
  · rw [if_pos q, q, ha]
  · rw [if_neg q]; exact congrFun (map_keep1 hb) y
theorem map_keep3 {m : Str → Option Value} {a b c : Str} {va vb vc : Option Value} (ha : m a = va) (hb : m b = vb) (hc : m c = vc) : m = fun y => if y = a then va else if y = b then vb else if y = c then vc else m y := funext fun y => by
  by_cases q : y = a
  · rw [if_pos q, q, ha]
  · rw [if_neg q]; exact congrFun (map_keep2 hb hc) y
theorem stoB_gen {M : Model} {A₁ : Around} {E : Value → Shared → Prop} {s : Shared} {env : Env} {x : Str} {e : Bool} {Q : Unit → Shared → Prop} (h : ∀ a, a = e → wpAny M A₁ (storeName env x (.bool a)) Q E s) : wpAny M A₁ (storeName env x (.bool e)) Q E s := h _ rfl
/-- an expression's value, names and ledger as they were -/
def ExpR (h₀ : Heap) (L : Addr) (P : Value → Prop) (m : Str → Option Value) (news : List (Addr × Obj)) (s : Shared) (v : Value) (s' : Shared) : Prop :=
  P v ∧ ∃ h' tk, s' = { s with heap := h', toks := tk } ∧ Fr h₀ L h' m ∧ News h₀ L h' news
theorem exp_join {M : Model} {A₁ : Around} {E : Value → Shared → Prop} {s : Shared} {e : Expr} {env : Env} {Q : Value → Shared → Prop} (h₀ : Heap) (L : Addr) (P : Value → Prop) (m : Str → Option Value) (news : List (Addr × Obj))
    (h1 : wpAny M A₁ (eval e env) (ExpR h₀ L P m news s) E s)
    (h2 : ∀ v h' tk, P v → Fr h₀ L h' m → News h₀ L h' news → Q v { s with heap := h', toks := tk }) :
    wpAny M A₁ (eval e env) Q E s := wpAny_mono h1 (fun v _ ⟨hp, h', tk, e2, F, N⟩ => by subst e2; exact h2 v h' tk hp F N) (fun _ _ e => e)
def TokOn : Prop := True
end Mine
end LawS

section LawT
theorem Mine.top_LawT : True := by
  w_top off
  trivial
open PySem PySem.W PyProof.Rows
namespace Mine
open PySem PySem.Calls
section
variable {prog : Program} {w : World} {A : Around} {E : Value → Shared → Prop} {s : Shared} {env : Env} {h₀ : Heap} {target : Expr} {body : List Stmt} {Q : Flow → Shared → Prop}
theorem irest_weaken {I : Addr} {c : String} {keep news news1 : List (Addr × Obj)} {m : Str → Option Value} (hs : SubL news1 news) :
    ∀ {xs : List Itm}, ItemsRest prog w A E h₀ env target body Q s [(I, c)] keep xs m news1 → ItemsRest prog w A E h₀ env target body Q s [(I, c)] keep xs m news
  | [], H => fun h tk F N => H h tk F (fun p hp => N p (hs.mem p hp))
  | _ :: _, H => fun v h tk e F o hc N => H v h tk e F o hc (fun p hp => N p (by
      rcases List.mem_cons.mp hp with rfl | hp
      · exact .head _
      · exact .tail _ (hs.mem p hp)))
theorem irest_map {ws : List (Addr × String)} {keep news : List (Addr × Obj)} {xs : List Itm} {m m' : Str → Option Value} (e : m = m')
    (h : ItemsRest prog w A E h₀ env target body Q s ws keep xs m' news) : ItemsRest prog w A E h₀ env target body Q s ws keep xs m news := e ▸ h
theorem irest_succ {I : Addr} {c : String} {keep news : List (Addr × Obj)} {v : Value} {r : List Itm} {m : Str → Option Value}
    (h : ∀ o h tk, o.cls = .type c → Fr h₀ env.locals h m → News h₀ env.locals h ((I, o) :: news) →
      wpAny (model prog w) A (assign target env v) (fun _ s₂ => wpAny (model prog w) A (execs body env) (UnrPostW h₀ env.locals { s with heap := h, toks := tk } [(I, o)] (fun m' n' => SubL keep n' ∧ ItemsRest prog w A E h₀ env target body Q s [(I, c)] keep r m' n') Q) E s₂) E { s with heap := h, toks := tk }) :
    ItemsRest prog w A E h₀ env target body Q s [(I, c)] keep (.val v :: r) m news := fun u hp tk e F o hc N => by
  have e' : u = v := e
  subst e'
  exact h o hp tk hc F N
theorem offW_of {I : Addr} {o : Obj} : ∀ {l : List (Addr × Obj)}, (∀ p ∈ l, p.1 ≠ I) → OffW [(I, o)] l
  | [], _ => trivial
  | p :: r, h => ⟨⟨.inl (h p (.head _)), trivial⟩, offW_of fun q hq => h q (.tail _ hq)⟩
end
theorem subl_sub {l r : List (Addr × Obj)} (h : SubL r l) {P : Addr → Prop} (H : ∀ p ∈ l, P p.1) : ∀ p ∈ r, P p.1 := fun p hp => H p (h.mem p hp)
theorem allLt_ne {d : Addr} {l : List (Addr × Obj)} (h : ∀ p ∈ l, p.1 < d) : ∀ p ∈ l, p.1 ≠ d := fun p hp => Nat.ne_of_lt (h p hp)
section
variable {w : World} {A : Around} {E : Value → Shared → Prop} {s : Shared} {h₀ : Heap} {L : Addr} {news : List (Addr × Obj)} {value slice : Expr} {D : Addr} {us : List Value} {c k : Nat} {u : Tok} {Am Ln i : Int} {Q : Value → Shared → Prop}
theorem tailF_at (N : News h₀ L s.heap news) (hm : (D, listOf us.toArray c) ∈ news) (hI : IntsAre us (tabF Am Ln 13)) (hi : 0 ≤ i ∧ i ≤ 13) (h : ∀ t', Q (.int (ful Am Ln i.toNat) t') s)
    (hsub : subscripted slice false (.ref D) (.int i u) = operate [.int i u, .ref D] (getItem (.ref D) (.int i u)))
    (hg : ∀ r, letTemporaryGo value (.ref D) r = pure ()) :
    wpAny (model pg w) A (subscriptTail value slice (.ref D) (.int i u)) Q E s := tail_at N hm hI ⟨hi.1, by omega⟩ (tabF_at (by omega)) h hsub hg
theorem tailS_at (N : News h₀ L s.heap news) (hm : (D, listOf us.toArray c) ∈ news) (hI : IntsAre us (tabS Am Ln 13)) (hi : 0 ≤ i ∧ i ≤ 13) (h : ∀ t', Q (.int (sms Am Ln i.toNat) t') s)
    (hsub : subscripted slice false (.ref D) (.int i u) = operate [.int i u, .ref D] (getItem (.ref D) (.int i u)))
    (hg : ∀ r, letTemporaryGo value (.ref D) r = pure ()) :
    wpAny (model pg w) A (subscriptTail value slice (.ref D) (.int i u)) Q E s := tail_at N hm hI ⟨hi.1, by omega⟩ (tabS_at (by omega)) h hsub hg
end
theorem ful_small {A L : Int} (hA : 1 ≤ A ∧ A ≤ 5) (hL : 2 ≤ L ∧ L ≤ 6) {k : Nat} : -1000000000 ≤ ful A L k ∧ ful A L k ≤ 1000000000 := by have := ful_bnd hA hL k; omega
theorem rrest_map {prog : Program} {w : World} {A : Around} {E : Value → Shared → Prop} {s : Shared} {env : Env} {h₀ : Heap} {x : Str} {body : List Stmt} {Q : Flow → Shared → Prop} {I : Addr} {a : Int} {n k i : Nat} {m m' : Str → Option Value} {news : List (Addr × Obj)} (e : m = m')
    (h : RangeRest prog w A E h₀ env x body Q s I a n k i m' news) : RangeRest prog w A E h₀ env x body Q s I a n k i m news := e ▸ h
theorem list3_gen {M : Model} {A₁ : Around} {E : Value → Shared → Prop} {s : Shared} {x y z : Int} {t1 t2 t3 : Tok} {Q : Value → Shared → Prop} (h : ∀ a b c, a = x → b = y → c = z → wpAny M A₁ (newList [.int a t1, .int b t2, .int c t3]) Q E s) : wpAny M A₁ (newList [.int x t1, .int y t2, .int z t3]) Q E s := h _ _ _ rfl rfl rfl
theorem tru_gen {M : Model} {A₁ : Around} {E : Value → Shared → Prop} {s : Shared} {x : Bool} {Q : Bool → Shared → Prop} (h : ∀ a, a = x → wpAny M A₁ (truthy (.bool a)) Q E s) : wpAny M A₁ (truthy (.bool x)) Q E s := h _ rfl
theorem not_any3 {a b c : Int} (ha : 0 ≤ a) (hb : 0 ≤ b) (hc : 0 ≤ c) : (![a, b, c].any fun x => x == -1) = true := by
  have h1 : (a == -1) = false := beq_false_of_ne (by omega)
  have h2 : (b == -1) = false := beq_false_of_ne (by omega)
  have h3 : (c == -1) = false := beq_false_of_ne (by omega)
  simp only [List.any, h1, h2, h3, Bool.or_false, Bool.not_false]
theorem off_fst {l r : List (Addr × Obj)} {I : Addr} (h : ∀ p ∈ l, p.1 ≠ I) (e : r.map (·.1) = l.map (·.1)) : ∀ p ∈ r, p.1 ≠ I := fun p hp => by
  have z : p.1 ∈ l.map (·.1) := e ▸ List.mem_map.mpr ⟨p, hp, rfl⟩
  obtain ⟨q, hq, eq⟩ := List.mem_map.mp z
  rw [← eq]; exact h q hq
theorem off_fst2 {l f tl : List (Addr × Obj)} {I : Addr} (h : ∀ p ∈ l, p.1 ≠ I) (e : f.map (·.1) = l.map (·.1)) (ht : ∀ p ∈ tl, p.1 ≠ I) : ∀ p ∈ f ++ tl, p.1 ≠ I := fun p hp => by
  rcases List.mem_append.mp hp with hp | hp
  · exact off_fst h e p hp
  · exact ht p hp
theorem le20 {i : Nat} : 20 * i + 1 + 1 ≤ 20 * (i + 1) := by omega
theorem len7 {i k : Nat} (h : i + k = 6) : k + (i + 1) = 7 := by omega
end Mine
end LawT

open PySem PySem.W PyProof.Rows
namespace Mine
open PySem PySem.Calls

abbrev moreV : Array Value := #[.int 17 1679, .int 3 1680, .int 8 1681, .int 4 1682, .int 0 1683, .int 1 1684, .int 21 1685, .int 5 1686]
section
variable {w : World} {A : Around} {E : Value → Shared → Prop} {s : Shared} {h₀ : Heap} {L : Addr} {m : Str → Option Value} {news : List (Addr × Obj)}
theorem k918 : (KK w).lookup 918 = some { cls := .type "tuple", data := .seq moreV 0 } := by kernel_rfl
theorem tup918 (KX : (KK w).In h₀) (F : Fr h₀ L s.heap m) : IsTup s.heap 918 moreV := ⟨_, (KX.keeps F.keep) 918 _ k918, rfl, 0, rfl⟩
theorem more_sz {k : Nat} : ((moreV.toList.drop k).toArray).size ≤ sizeLine := by
  rw [List.size_toArray, List.length_drop, sizeLine_eq]
  have : moreV.toList.length = 8 := rfl
  omega
end
abbrev moreN : List Int := [17, 3, 8, 4, 0, 1, 21, 5]
theorem intsDrop : ∀ {vs : List Value} {ns : List Int} (k : Nat), IntsAre vs ns → IntsAre (vs.drop k) (ns.drop k)
  | _, _, 0, h => h
  | [], [], k + 1, h => h
  | v :: vs, n :: ns, k + 1, h => by
    obtain ⟨t, vs', e, h'⟩ := h.cons_inv
    cases e
    exact intsDrop k h'
  | [], _ :: _, _ + 1, h => by cases h
  | _ :: _, [], _ + 1, h => by cases h
theorem moreI : IntsAre moreV.toList moreN := by repeat constructor
def rowsN (ns : List Int) (a : Nat) : List Int := ns.take 8 ++ moreN.drop (min a moreV.size)
theorem rowsN_len {ns : List Int} {a : Nat} (h : a = ns.length) : (rowsN ns a).length = 8 := by
  unfold rowsN
  subst h
  rw [List.length_append, List.length_take, List.length_drop]
  have : moreV.size = 8 := rfl
  have h2 : moreN.length = 8 := rfl
  omega
theorem rowsZ {ns : List Int} {k : Nat} : (ns.take 8).length + (moreN.drop k).length ≤ sizeLine := by
  rw [List.length_take, List.length_drop, sizeLine_eq]
  have h2 : moreN.length = 8 := rfl
  omega
theorem tail_row0 {w : World} {A : Around} {E : Value → Shared → Prop} {s : Shared} {h₀ : Heap} {L : Addr} {m : Str → Option Value} {news : List (Addr × Obj)} {value slice : Expr} {D : Addr} {us : List Value} {R : List Int} {c : Nat} {u : Tok} {Q : Value → Shared → Prop}
    (N : News h₀ L s.heap news) (hm : (D, listOf us.toArray c) ∈ news) (hI : IntsAre us R) (hl : R.length = 8) (h : ∀ t', Q (.int (R.getD 0 0) t') s)
    (hsub : subscripted slice false (.ref D) (.int 0 u) = operate [.int 0 u, .ref D] (getItem (.ref D) (.int 0 u)) := by with_unfolding_all rfl)
    (hg : ∀ r, letTemporaryGo value (.ref D) r = pure () := by intro _; with_unfolding_all rfl) :
    wpAny (model pg w) A (subscriptTail value slice (.ref D) (.int 0 u)) Q E s := by
  obtain ⟨t, hx⟩ := hI.get 0 (R.getD 0 0) (by cases R with | nil => cases hl | cons a r => rfl)
  exact subscriptTail_ops ⟨_, (N _ hm).1, rfl⟩ PySem.slot_list_getitem.lookup (getItem_listL (N.isList hm) (Int.le_refl 0) (by decide) hx (h t)) hsub hg
theorem store_gen {M : Model} {A₁ : Around} {E : Value → Shared → Prop} {s : Shared} {env : Env} {x : Str} {e : Int} {t : Tok} {Q : Unit → Shared → Prop} (h : ∀ a, a = e → wpAny M A₁ (storeName env x (.int a t)) Q E s) : wpAny M A₁ (storeName env x (.int e t)) Q E s := h _ rfl
theorem list_gen {M : Model} {A₁ : Around} {E : Value → Shared → Prop} {s : Shared} {e : Int} {t : Tok} {Q : Value → Shared → Prop} (h : ∀ a, a = e → wpAny M A₁ (newList [.int a t]) Q E s) : wpAny M A₁ (newList [.int e t]) Q E s := h _ rfl
theorem fm_bnd {x : Int} (a k : Int) (hk : 0 < k) : a ≤ a + x.fmod k ∧ a + x.fmod k ≤ a + k - 1 := by
  rw [Int.fmod_eq_emod_of_nonneg _ (by omega)]
  have h1 := Int.emod_lt_of_pos x hk
  have h2 := Int.emod_nonneg x (show k ≠ 0 by omega)
  omega
theorem add0 {t : Int} : t = t + ((0 : Nat) : Int) := by omega
theorem news_now0 {h₀ h : Heap} {L now : Addr} {t : Int} {q : Tok} {n : Nat} {a b c : Addr × Obj} {r : List (Addr × Obj)} (N : News h₀ L h (a :: b :: c :: (now, listOf #[Value.int t q] n) :: r)) : News h₀ L h (a :: b :: c :: (now, listOf #[Value.int (t + ((0 : Nat) : Int)) q] n) :: r) := by rw [← add0]; exact N
set_option maxHeartbeats 8000000 in
theorem post_ok {ns : List Int} : PySem.Challenge.rw_vc0060_01.row.claim.post [ofPy (PyData.list (List.map PyData.int ns))] (.bool true) [ofPy (PyData.list (List.map PyData.int ns))] = true := by
  wrow_post
local macro_rules | `(tactic| walk_at "subscriptTail Name Slice ref ref") => `(tactic| (k_here; (with_reducible show wpAny _ _ (subscriptTail _ _ (Value.ref 918) _) _ _ _); k_dflt (refine' tail_anyP ?k1 ?k2 ?k4 ?_ ?k5 ?k6 ?k7; (case k1 => k_asm); (case k2 => k_asm); (case k4 => exact tup918 (by k_asm) (by k_asm)); (case k5 => rw [sizeLine_eq]; decide); (case k6 => with_unfolding_all rfl); (case k7 => intro _; with_unfolding_all rfl); intro t' h' F' N' I')))
local macro_rules | `(tactic| walk_at "call type:list") => `(tactic| (k_here; k_dflt (refine' list_copyKT ?k1 ?k2 ?k3 ?_ ?k4; (case k3 => with_reducible assumption); (case k1 => k_asm); (case k2 => k_asm); (case k4 => exact more_sz); intro D' c' h' F' N' l1; (try k_lt l1))))
local macro_rules | `(tactic| k_room) => `(tactic| ktr_room)
local macro_rules | `(tactic| k_units) => `(tactic| ktr_units)
local macro_rules | `(tactic| ktr_units) => `(tactic| exact Nat.le_of_ble_eq_true rfl)
local macro_rules | `(tactic| walk_at "call ref") => `(tactic| (k_here; k_dflt (show wpAny _ _ (call (Value.ref 528) [Value.int _ _, Value.int _ _] []) _ _ _); k_dflt (refine' item_m ?k1 ?k2 ?k3 ?k4 ?k5 ?k6 ?h1 ?h2 ?d1 ?d2 ?_; (case k1 => k_asm); (case k2 => k_asm); (case k3 => k_asm); (case k4 => k_asm); (case k5 => first | exact rfl | assumption); (case k6 => k_asm); (case h1 => assumption); (case h2 => assumption); (case d1 => ktr_room); (case d2 => ktr_units); intro it' itd' ta' tl' tn' tk' h' F' N' l1 l2; (try k_lt l1); (try k_lt2 l2))))
local macro_rules | `(tactic| walk_at "call ref") => `(tactic| (k_here; k_dflt (show wpAny _ _ (call (Value.ref 241) [Value.ref _] []) _ _ _); k_dflt (refine' lim1_m ?k1 ?k2 ?k3 ?k4 ?k5 ?k6  ?d1 ?d2 ?_; (case k1 => k_asm); (case k2 => k_asm); (case k3 => k_asm); (case k4 => k_asm); (case k5 => first | exact rfl | assumption); (case k6 => k_asm); (case d1 => ktr_room); (case d2 => ktr_units); intro fx' fxd' k1' n' tk' h' F' N' l1 l2; (try k_lt l1); (try k_lt2 l2))))
local macro_rules | `(tactic| walk_at "call ref") => `(tactic| (k_here; k_dflt (show wpAny _ _ (call (Value.ref 296) [Value.ref _] []) _ _ _); k_dflt (refine' lim2_m ?k1 ?k2 ?k3 ?k4 ?k5 ?k6  ?d1 ?d2 ?_; (case k1 => k_asm); (case k2 => k_asm); (case k3 => k_asm); (case k4 => k_asm); (case k5 => first | exact rfl | assumption); (case k6 => k_asm); (case d1 => ktr_room); (case d2 => ktr_units); intro fx' fxd' k1' n' tk' h' F' N' l1 l2; (try k_lt l1); (try k_lt2 l2))))
local macro_rules | `(tactic| walk_at "call ref") => `(tactic| (k_here; k_dflt (show wpAny _ _ (call (Value.ref 912) [Value.ref _] []) _ _ _); k_dflt (refine' sto_m ?k1 ?k2 ?k3 ?k4 ?k5 ?k6 ?h1 ?d1 ?d2 ?_; (case k1 => k_asm); (case k2 => k_asm); (case k3 => k_asm); (case k4 => k_asm); (case k5 => first | exact rfl | assumption); (case k6 => k_asm); (case h1 => exact ⟨(809, tabObj #[]), by k_mem, by decide⟩); (case d1 => ktr_room); (case d2 => ktr_units); intro st' sd' S' dS' X' EV' k1' k2' k3' k4' nX' nE' tk' h' F' N' l1 l2; (try k_lt l1))))
local macro_rules | `(tactic| walk_at "subscriptTail Name Constant ref int") => `(tactic| (k_here; (with_reducible show wpAny _ _ (subscriptTail _ _ (Value.ref _) (Value.int 0 _)) _ _ _); k_dflt (refine' tail_row0 ?k1 ?k2 ?k3 ?k4 ?_ ?k5 ?k6; (case k1 => k_asm); (case k2 => k_mem); (case k3 => with_reducible assumption); (case k4 => with_reducible assumption); (case k5 => with_unfolding_all rfl); (case k6 => intro _; with_unfolding_all rfl); intro t')))
local macro_rules | `(tactic| walk_at "callWith ref") => `(tactic| (k_here; k_dflt (refine' callWith_K ?k1 ?k2 ?_; (case k1 => k_asm); (case k2 => k_is); k_whole)))
local macro_rules | `(tactic| walk_at "subscriptTail Name UnaryOp ref int") => `(tactic| (k_here; k_dflt (first
  | (refine' tailF ?k1 ?k2 ?k3 ?_ ?k5 ?k6; (case k1 => k_asm); (case k2 => k_mem); (case k3 => with_reducible assumption); (case k5 => with_unfolding_all rfl); (case k6 => intro _; with_unfolding_all rfl); intro t')
  | (refine' tailS ?k1 ?k2 ?k3 ?_ ?k5 ?k6; (case k1 => k_asm); (case k2 => k_mem); (case k3 => with_reducible assumption); (case k5 => with_unfolding_all rfl); (case k6 => intro _; with_unfolding_all rfl); intro t'))))
local macro_rules | `(tactic| walk_at "call builtin:list.append") => `(tactic| (k_here; (with_reducible show wpAny _ _ (call (Value.builtin _) [Value.ref _, _]) _ _ _); k_dflt (first
  | (refine' appF ?k1 ?k2 ?k3 ?k4 ?k5 ?k6 ?_; (case k1 => k_asm); (case k2 => k_asm); (case k3 => k_updF); (case k4 => with_reducible assumption); (case k5 => omega); (case k6 => exact ful_step (by assumption)); k_whole; intro h' us' F' N' I'; (try dsimp only at N'))
  | (refine' appS ?k1 ?k2 ?k3 ?k4 ?k5 ?k6 ?_; (case k1 => k_asm); (case k2 => k_asm); (case k3 => k_updF); (case k4 => with_reducible assumption); (case k5 => omega); (case k6 => exact sms_step); k_whole; intro h' us' F' N' I'; (try dsimp only at N')))))
local macro_rules | `(tactic| walk_at "exec For Name Subscript cons nil") => `(tactic| (k_here; (rename Fr _ _ _ _ => lF'); (with_unfolding_all refine' For_invVF lF' ?k1 ?k2 ?_; (case k1 => exact rfl); (case k2 => exact rfl); k_whole)))
local macro_rules | `(tactic| ktr_room) => `(tactic| exact Nat.le_of_ble_eq_true rfl)
local macro_rules | `(tactic| k_room) => `(tactic| exact Nat.le_of_ble_eq_true rfl)
local macro_rules | `(tactic| k_units) => `(tactic| exact Nat.le_of_ble_eq_true rfl)
local macro_rules | `(tactic| k_subL) => `(tactic| (with_reducible (repeat (first | exact subl_self | refine subl_tail ?_)); done))
local macro_rules | `(tactic| walk_at "execs cons") => `(tactic| (k_here; (have hTk9 : TokOn := by with_reducible assumption); clear hTk9; with_reducible refine tok_gen1 (fun tk => ?_)))
local macro_rules | `(tactic| walk_at "execs nil") => `(tactic| (k_here; (have hTk9 : TokOn := by with_reducible assumption); clear hTk9; with_reducible refine tok_gen1 (fun tk => ?_)))
local macro_rules | `(tactic| walk_at "call ref") => `(tactic| (k_here; k_dflt (show wpAny _ _ (call (Value.ref 220) [Value.ref _, Value.ref _, Value.ref _, Value.int _ _] []) _ _ _); k_dflt (refine' fix_m ?k1 ?k2 ?k3 ?k4 ?k5 ?k6 ?u1 ?u2 ?i0 ?i1 ?i2 ?i3 ?i4 ?i5 ?i6 ?i7 ?i8 ?i9 ?i10 ?i11 ?r1 ?r2 ?r3 ?s1 ?s2 ?s3 ?s4 ?e0 ?e1 ?e2 ?e3 ?e4 ?e5 ?d1 ?d2 ?_; (case k1 => k_asm); (case k2 => k_asm); (case k3 => k_asm); (case k4 => k_asm); (case k5 => first | exact rfl | assumption); (case k6 => k_asm); (case i0 => k_mem); (case i1 => k_mem); (case i8 => k_mem); (case i9 => k_mem); (case i10 => k_mem); (case i11 => k_mem); (case i3 => k_mem); (case i4 => k_mem); (case i5 => k_mem); (case s2 => k_asm); (case s3 => k_asm); (case s4 => k_asm); (case i7 => k_mem); (case u1 => k_updF); (case i2 => k_mem); (case i6 => k_mem); (case u2 => (intro o; (try dsimp only); k_updF)); (case r1 => k_asm); (case r2 => omega); (case r3 => omega); (case s1 => k_asm); (case e0 => first | assumption | omega); (case e1 => first | assumption | omega); (case e2 => first | assumption | omega); (case e3 => first | assumption | omega); (case e4 => first | assumption | omega); (case e5 => first | assumption | omega); (case d1 => ktr_room); (case d2 => ktr_units); intro t' tk' h' esS' nS' esX' nX' F' N' R'; (try dsimp only at N'))))
local macro_rules | `(tactic| walk_at "call ref") => `(tactic| (k_here; k_dflt (show wpAny _ _ (call (Value.ref 266) [Value.ref _, Value.ref _, Value.ref _, Value.int _ _] []) _ _ _); k_dflt (refine' sld_m ?k1 ?k2 ?k3 ?k4 ?k5 ?k6 ?u1 ?u2 ?i0 ?i1 ?i2 ?i3 ?i4 ?i5 ?i6 ?i7 ?i8 ?i9 ?i10 ?i11 ?r1 ?r2 ?r3 ?s1 ?s2 ?s3 ?s4 ?e0 ?e1 ?e2 ?e3 ?e4 ?e5 ?e6 ?e7 ?d1 ?d2 ?_; (case k1 => k_asm); (case k2 => k_asm); (case k3 => k_asm); (case k4 => k_asm); (case k5 => first | exact rfl | assumption); (case k6 => k_asm); (case i0 => k_mem); (case i1 => k_mem); (case i8 => k_mem); (case i9 => k_mem); (case i10 => k_mem); (case i11 => k_mem); (case i3 => k_mem); (case i4 => k_mem); (case i5 => k_mem); (case s2 => k_asm); (case s3 => k_asm); (case s4 => k_asm); (case i7 => k_mem); (case u1 => k_updF); (case i2 => k_mem); (case i6 => k_mem); (case u2 => (intro o; (try dsimp only); k_updF)); (case r1 => k_asm); (case r2 => omega); (case r3 => omega); (case s1 => k_asm); (case e0 => first | assumption | omega); (case e1 => first | assumption | omega); (case e2 => first | assumption | omega); (case e3 => first | assumption | omega); (case e4 => first | assumption | omega); (case e5 => first | assumption | omega); (case e6 => first | assumption | omega); (case e7 => first | assumption | omega); (case d1 => ktr_room); (case d2 => ktr_units); intro t' tk' h' esS' nS' esX' nX' F' N' R'; (try dsimp only at N'))))
local macro_rules | `(tactic| walk_at "call ref") => `(tactic| (k_here; k_dflt (show wpAny _ _ (call (Value.ref 814) [Value.ref _] []) _ _ _); k_dflt (refine' evt_m ?k1 ?k2 ?k3 ?k4 ?k5 ?k6 ?u1 ?u2 ?i0 ?i1 ?i2 ?i3 ?i4 ?i5 ?i6 ?i7 ?r1 ?r2 ?r3 ?s1 ?s2 ?s3 ?s4  ?d1 ?d2 ?_; (case k1 => k_asm); (case k2 => k_asm); (case k3 => k_asm); (case k4 => k_asm); (case k5 => first | exact rfl | assumption); (case k6 => k_asm); (case i0 => k_mem); (case i1 => k_mem); (case i3 => k_mem); (case i4 => k_mem); (case i5 => k_mem); (case s2 => k_asm); (case s3 => k_asm); (case s4 => k_asm); (case i7 => k_mem); (case u1 => k_updF); (case i2 => k_mem); (case i6 => k_mem); (case u2 => (intro o; (try dsimp only); k_updF)); (case r1 => k_asm); (case r2 => omega); (case r3 => omega); (case s1 => k_asm); (case d1 => ktr_room); (case d2 => ktr_units); intro t' tk' h' esS' nS' esX' nX' F' N' R'; (try dsimp only at N'))))
local macro_rules | `(tactic| walk_at "callWith ref") => `(tactic| (k_here; (with_reducible show wpAny _ _ (callWith _ _ _ (backTo _ (starEach [] _)) []) _ _ _); k_dflt (refine' callWith_K0 (K := Mine.hd.heap_39 _) ?k1 ?k2 ?_; (case k1 => exact Frag.In.keeps (by with_reducible assumption) (Fr.keep (by with_reducible assumption))); (case k2 => k_is); k_whole)))
local macro_rules | `(tactic| walk_at "call ref") => `(tactic| (k_here; k_dflt (show wpAny _ _ (call (Value.ref 220) [Value.ref _, Value.ref _, Value.ref _, Value.int _ _] []) _ _ _); k_dflt (refine' fix_m ?k1 ?k2 ?k3 ?k4 ?k5 ?k6 ?u1 ?u2 ?i0 ?i1 ?i2 ?i3 ?i4 ?i5 ?i6 ?i7 ?i8 ?i9 ?i10 ?i11 ?r1 ?r2 ?r3 ?s1 ?s2 ?s3 ?s4 ?e0 ?e1 ?e2 ?e3 ?e4 ?e5 ?d1 ?d2 ?_; (case k1 => k_asm); (case k2 => k_asm); (case k3 => k_asm); (case k4 => k_asm); (case k5 => first | exact rfl | assumption); (case k6 => k_asm); (case i0 => k_mem); (case i1 => k_mem); (case i8 => k_mem); (case i9 => k_mem); (case i10 => k_mem); (case i11 => k_mem); (case i3 => k_mem); (case i4 => k_mem); (case i5 => k_mem); (case s2 => k_asm); (case s3 => k_asm); (case s4 => k_asm); (case i7 => k_mem); (case u1 => k_updF); (case i2 => k_mem); (case i6 => k_mem); (case u2 => (intro o; (try dsimp only); k_updF)); (case r1 => k_asm); (case r2 => omega); (case r3 => omega); (case s1 => k_asm); (case e0 => first | assumption | omega | exact cb_u (by assumption) (by omega) (by assumption)); (case e1 => first | assumption | omega | exact cb_u (by assumption) (by omega) (by assumption)); (case e2 => first | assumption | omega | exact cb_u (by assumption) (by omega) (by assumption)); (case e3 => first | assumption | omega | exact cb_u (by assumption) (by omega) (by assumption)); (case e4 => first | assumption | omega | exact cb_u (by assumption) (by omega) (by assumption)); (case e5 => first | assumption | omega | exact cb_u (by assumption) (by omega) (by assumption)); (case d1 => ktr_room); (case d2 => ktr_units); intro t' tk' h' esS' nS' esX' nX' F' N' R'; (try dsimp only at N'))))
local macro_rules | `(tactic| walk_at "call ref") => `(tactic| (k_here; k_dflt (show wpAny _ _ (call (Value.ref 266) [Value.ref _, Value.ref _, Value.ref _, Value.int _ _] []) _ _ _); k_dflt (refine' sld_m ?k1 ?k2 ?k3 ?k4 ?k5 ?k6 ?u1 ?u2 ?i0 ?i1 ?i2 ?i3 ?i4 ?i5 ?i6 ?i7 ?i8 ?i9 ?i10 ?i11 ?r1 ?r2 ?r3 ?s1 ?s2 ?s3 ?s4 ?e0 ?e1 ?e2 ?e3 ?e4 ?e5 ?e6 ?e7 ?d1 ?d2 ?_; (case k1 => k_asm); (case k2 => k_asm); (case k3 => k_asm); (case k4 => k_asm); (case k5 => first | exact rfl | assumption); (case k6 => k_asm); (case i0 => k_mem); (case i1 => k_mem); (case i8 => k_mem); (case i9 => k_mem); (case i10 => k_mem); (case i11 => k_mem); (case i3 => k_mem); (case i4 => k_mem); (case i5 => k_mem); (case s2 => k_asm); (case s3 => k_asm); (case s4 => k_asm); (case i7 => k_mem); (case u1 => k_updF); (case i2 => k_mem); (case i6 => k_mem); (case u2 => (intro o; (try dsimp only); k_updF)); (case r1 => k_asm); (case r2 => omega); (case r3 => omega); (case s1 => k_asm); (case e0 => first | assumption | omega | exact cb_u (by assumption) (by omega) (by assumption)); (case e1 => first | assumption | omega | exact cb_u (by assumption) (by omega) (by assumption)); (case e2 => first | assumption | omega | exact cb_u (by assumption) (by omega) (by assumption)); (case e3 => first | assumption | omega | exact cb_u (by assumption) (by omega) (by assumption)); (case e4 => first | assumption | omega | exact cb_u (by assumption) (by omega) (by assumption)); (case e5 => first | assumption | omega | exact cb_u (by assumption) (by omega) (by assumption)); (case e6 => first | assumption | omega | exact cb_u (by assumption) (by omega) (by assumption)); (case e7 => first | assumption | omega | exact cb_u (by assumption) (by omega) (by assumption)); (case d1 => ktr_room); (case d2 => ktr_units); intro t' tk' h' esS' nS' esX' nX' F' N' R'; (try dsimp only at N'))))
local macro_rules | `(tactic| walk_at "exec If") => `(tactic| refine wpAny_If ?_)
local macro_rules | `(tactic| walk_at "binaryOp Mult int int") => `(tactic| (k_here; (have hTk9 : TokOn := by with_reducible assumption); clear hTk9; k_dflt (refine' PySem.P.mul_int ?_ ?z; (case z => first | exact ok_small (.inl (by omega)) | exact ok_small (.inr (by omega))))))
local macro_rules | `(tactic| walk_at "call builtin:list.append") => `(tactic| (k_here; (with_reducible show wpAny _ _ (call (Value.builtin _) [Value.ref _, Value.ref _]) _ _ _); k_dflt (refine' app_V ?k1 ?k2 ?k3 ?k4 ?_; (case k1 => k_asm); (case k2 => k_asm); (case k3 => k_updF); (case k4 => with_reducible assumption); intro h' F' N'; (try dsimp only at N'))))
local macro_rules | `(tactic| walk_at "exec For Tuple Call cons nil") => `(tactic| (k_here; (rename Fr _ _ _ _ => lF'); (with_unfolding_all refine' For_turns lF' ?_; k_whole)))
local macro_rules | `(tactic| walk_at "binaryOp Mult int int") => `(tactic| (k_here; (have hTk9 : TokOn := by with_reducible assumption); clear hTk9; k_dflt (refine' PySem.P.mul_int ?_ ?z; (case z => first | exact ok_small (.inl (ful_small (by assumption) (by assumption))) | exact ok_small (.inl (by omega)) | exact ok_small (.inr (by omega))))))
local macro_rules | `(tactic| walk_at "subscriptTail Name BinOp ref int") => `(tactic| (k_here; k_dflt (first
  | (refine' tailS_at ?k1 ?k2 ?k3 ?k4 ?_ ?k5 ?k6; (case k1 => k_asm); (case k2 => k_mem); (case k3 => with_reducible assumption); (case k4 => omega); (case k5 => with_unfolding_all rfl); (case k6 => intro _; with_unfolding_all rfl); intro t')
  | (refine' tailF_at ?k1 ?k2 ?k3 ?k4 ?_ ?k5 ?k6; (case k1 => k_asm); (case k2 => k_mem); (case k3 => with_reducible assumption); (case k4 => omega); (case k5 => with_unfolding_all rfl); (case k6 => intro _; with_unfolding_all rfl); intro t'))))
local macro_rules | `(tactic| walk_at "call ref") => `(tactic| (k_here; k_dflt (show wpAny _ _ (call (Value.ref 925) [Value.ref _, Value.ref _, Value.ref _] []) _ _ _); k_dflt (refine' tks_m ?k1 ?k2 ?k3 ?k4 ?k5 ?k6 ?u1 ?u2 ?i0 ?i1 ?i2 ?i3 ?i4 ?i5 ?i6 ?i7 ?i8 ?i9 ?i10 ?i11 ?r1 ?r2 ?r3 ?s1 ?s2 ?s3 ?s4 ?e0 ?e1 ?e2 ?e3 ?e4 ?e5 ?e6 ?e7 ?d1 ?d2 ?_; (case k2 => k_asm); (case k6 => k_asm); (case i8 => k_mem); (case k1 => k_asm); (case k3 => k_asm); (case k4 => k_asm); (case k5 => first | exact rfl | assumption); (case i0 => k_mem); (case i1 => k_mem); (case i9 => k_mem); (case i10 => k_mem); (case i11 => k_mem); (case i3 => k_mem); (case i4 => k_mem); (case i5 => k_mem); (case s2 => k_asm); (case s3 => k_asm); (case s4 => k_asm); (case i7 => k_mem); (case u1 => k_updF); (case i2 => k_mem); (case i6 => k_mem); (case u2 => (intro o; (try dsimp only); k_updF)); (case r1 => k_asm); (case r2 => omega); (case r3 => omega); (case s1 => k_asm); (case e0 => first | with_reducible assumption | omega); (case e1 => first | with_reducible assumption | omega); (case e2 => first | with_reducible assumption | omega); (case e3 => first | with_reducible assumption | omega); (case e4 => first | with_reducible assumption | omega); (case e5 => first | with_reducible assumption | omega); (case e6 => first | with_reducible assumption | omega); (case e7 => first | with_reducible assumption | omega); (case d1 => ktr_room); (case d2 => ktr_units); intro t' tk' h' esS' nS' esX' nX' F' N' R'; (try dsimp only at N'))))
local macro_rules | `(tactic| walk_at "call ref") => `(tactic| (k_here; k_dflt (show wpAny _ _ (call (Value.ref 925) [Value.ref _, Value.ref _, Value.ref _] []) _ _ _); k_dflt (refine' tkf_m ?k1 ?k2 ?k3 ?k4 ?k5 ?k6 ?u1 ?u2 ?i0 ?i1 ?i2 ?i3 ?i4 ?i5 ?i6 ?i7 ?i8 ?i9 ?i10 ?i11 ?r1 ?r2 ?r3 ?s1 ?s2 ?s3 ?s4 ?e0 ?e1 ?e2 ?e3 ?e4 ?e5 ?e6 ?d1 ?d2 ?_; (case k2 => k_asm); (case k6 => k_asm); (case i8 => k_mem); (case k1 => k_asm); (case k3 => k_asm); (case k4 => k_asm); (case k5 => first | exact rfl | assumption); (case i0 => k_mem); (case i1 => k_mem); (case i9 => k_mem); (case i10 => k_mem); (case i11 => k_mem); (case i3 => k_mem); (case i4 => k_mem); (case i5 => k_mem); (case s2 => k_asm); (case s3 => k_asm); (case s4 => k_asm); (case i7 => k_mem); (case u1 => k_updF); (case i2 => k_mem); (case i6 => k_mem); (case u2 => (intro o; (try dsimp only); k_updF)); (case r1 => k_asm); (case r2 => omega); (case r3 => omega); (case s1 => k_asm); (case e0 => first | with_reducible assumption | omega); (case e1 => first | with_reducible assumption | omega); (case e2 => first | with_reducible assumption | omega); (case e3 => first | with_reducible assumption | omega); (case e4 => first | with_reducible assumption | omega); (case e5 => first | with_reducible assumption | omega); (case e6 => first | with_reducible assumption | omega); (case d1 => ktr_room); (case d2 => ktr_units); intro t' tk' h' esS' nS' esX' nX' F' N' R'; (try dsimp only at N'))))
namespace fin
theorem tw13294311002278339166 : True := trivial
theorem tw16448914465934546278 : True := trivial
theorem tw11067033192786714914 : True := trivial
theorem tw8658185699838806805 : True := trivial
theorem tw10776127142208907341 : True := trivial
theorem tw2444273588731816371 : True := trivial
theorem tw16644462212089915155 : True := trivial
theorem tw2186698500278933816 : True := trivial
theorem tw5911770217454447987 : True := trivial
theorem tw5957180451953820622 : True := trivial
theorem tw6381419901266130222 : True := trivial
theorem tw1727621133314857333 : True := trivial
theorem tw9713546201632813291 : True := trivial
theorem tw11900726367713137988 : True := trivial
theorem tw17659792820800573624 : True := trivial
theorem tw15120748072543544848 : True := trivial
theorem tw3865292505339112164 : True := trivial
theorem tw5249893051879422871 : True := trivial
theorem tw7638955922819175379 : True := trivial
theorem tw5984158551500366440 : True := trivial
theorem tw4171678462856256454 : True := trivial
theorem tw10002699936043487104 : True := trivial
theorem tw16639813094937441908 : True := trivial
theorem tw944567322932927883 : True := trivial
theorem tw4547926851270420831 : True := trivial
theorem tw10012918712295848499 : True := trivial
theorem tw5074779506442595448 : True := trivial
theorem tw3853475060279184000 : True := trivial
theorem tw5074984922658293691 : True := trivial
theorem tw4768634762848416435 : True := trivial
theorem tw4801982433088742459 : True := trivial
theorem tw3721105441807439036 : True := trivial
theorem tw9381001406090123731 : True := trivial
theorem tw12686965223737687597 : True := trivial
theorem tw7563514974416257223 : True := trivial
theorem tw6524417157066176309 : True := trivial
theorem tw13561466723244134546 : True := trivial
theorem tw18362098788967529950 : True := trivial
theorem tw3216615955080020110 : True := trivial
theorem tw12237877928780879103 : True := trivial
theorem tw8953957674483744013 : True := trivial
theorem tw5141113994777284493 : True := trivial
theorem tw15488412567658976549 : True := trivial
theorem tw7363827456180718993 : True := trivial
theorem tw4696956992080197669 : True := trivial
theorem tw5292745204252695550 : True := trivial
theorem tw6335709333293612952 : True := trivial
theorem tw7098310284689642954 : True := trivial
theorem tw7558420492911801248 : True := trivial
theorem tw12629903358213643309 : True := trivial
theorem tw5660257367854189524 : True := trivial
theorem tw8076651003907644567 : True := trivial
theorem tw16068754644101465803 : True := trivial
theorem tw16253991525020053840 : True := trivial
theorem tw11490603987736509336 : True := trivial
theorem tw5063945577112930571 : True := trivial
theorem tw11201512880063761335 : True := trivial
theorem tw2070271336192807200 : True := trivial
theorem tw8282812270067184934 : True := trivial
theorem tw14909718650217641264 : True := trivial
theorem tw9524105066518557862 : True := trivial
theorem tw15938515463387723913 : True := trivial
theorem tw7299242150946776990 : True := trivial
theorem tw8696399802814041232 : True := trivial
theorem tw11116067473893591494 : True := trivial
theorem tw9220288515469044970 : True := trivial
theorem tw16955142331783759960 : True := trivial
theorem tw2466808103346753527 : True := trivial
theorem tw7072277547680571169 : True := trivial
theorem tw13883070154070340634 : True := trivial
theorem tw4777830175859659740 : True := trivial
theorem tw1103255985313285740 : True := trivial
theorem tw3976127234124569322 : True := trivial
theorem tw3995266172827902102 : True := trivial
theorem tw265940963699897922 : True := trivial
theorem tw10088260576245011566 : True := trivial
theorem tw10628475034512898961 : True := trivial
theorem tw11497045990708751045 : True := trivial
theorem tw15681417991851648634 : True := trivial
theorem tw9073057256386726948 : True := trivial
theorem tw8890792774038802474 : True := trivial
theorem tw4785737784526614668 : True := trivial
theorem tw16326573535979396768 : True := trivial
theorem tw6144012678527597917 : True := trivial
theorem tw17795422810854671358 : True := trivial
theorem tw16957808320718949937 : True := trivial
theorem tw6340033436541877084 : True := trivial
theorem tw14672911461793829614 : True := trivial
theorem tw5087414499874199163 : True := trivial
theorem tw7717632546995137062 : True := trivial
theorem tw1538076008739104887 : True := trivial
theorem tw7255982825651180886 : True := trivial
theorem tw12993229153697758449 : True := trivial
theorem tw3395650296261689528 : True := trivial
theorem tw146108955859267339 : True := trivial
theorem tw9358891041858214033 : True := trivial
theorem tw8732412218395851816 : True := trivial
theorem tw12663102006800830970 : True := trivial
theorem tw9161697477995246604 : True := trivial
theorem tw10323461325745473215 : True := trivial
theorem tw6620296344095940468 : True := trivial
theorem tw2797696144272983404 : True := trivial
theorem tw491973367168481400 : True := trivial
theorem tw11680795503199820150 : True := trivial
theorem tw16722612574783549952 : True := trivial
theorem tw15698005342984667159 : True := trivial
theorem tw12073638493852289073 : True := trivial
theorem tw13496708705503635781 : True := trivial
theorem tw7163643146796875292 : True := trivial
theorem tw11298980531735778240 : True := trivial
theorem tw13689246381084688261 : True := trivial
theorem tw12534922522094339712 : True := trivial
theorem tw14996743850099388458 : True := trivial
theorem tw8607229883538334244 : True := trivial
theorem tw10678765320413552006 : True := trivial
theorem tw3733651895302910212 : True := trivial
theorem tw1327509311449162130 : True := trivial
theorem tw2394721887258651877 : True := trivial
theorem tw13411564433711520991 : True := trivial
theorem tw13929302177132474383 : True := trivial
theorem tw13565238788985558536 : True := trivial
theorem tw4713690678409872965 : True := trivial
theorem tw8940416962707143629 : True := trivial
theorem tw1987541392991941342 : True := trivial
theorem tw6447930133964393182 : True := trivial
theorem tw9246303508379850531 : True := trivial
theorem tw11623398277830307340 : True := trivial
theorem tw10831918285883469834 : True := trivial
theorem tw4574527179188669827 : True := trivial
theorem tw7380833856163905736 : True := trivial
theorem tw429763040754596015 : True := trivial
theorem tw2991292073481677994 : True := trivial
theorem tw11821157177794564280 : True := trivial
theorem tw12418498117042121155 : True := trivial
theorem tw11637346524468614962 : True := trivial
theorem tw9604457797605292365 : True := trivial
theorem tw16975150828866795518 : True := trivial
theorem tw16956781808756083688 : True := trivial
theorem tw7675655780812522254 : True := trivial
theorem tw1448885039305934584 : True := trivial
theorem tw638937937634476611 : True := trivial
theorem tw16859985489051350061 : True := trivial
theorem tw9229436766338760077 : True := trivial
theorem tw10877920979083283726 : True := trivial
theorem tw81180840481494171 : True := trivial
theorem tw4988848703289810138 : True := trivial
theorem tw11205304004016384229 : True := trivial
theorem tw12564304381541211027 : True := trivial
theorem tw18295790063311454060 : True := trivial
theorem tw6202570286863721605 : True := trivial
theorem tw4201165798948173927 : True := trivial
theorem tw16622976982446799508 : True := trivial
theorem tw944135987803093777 : True := trivial
theorem tw5079576279043364846 : True := trivial
theorem tw16340655207594038876 : True := trivial
theorem tw16175276709679454751 : True := trivial
theorem tw13303660033021381205 : True := trivial
theorem tw16991462679434999460 : True := trivial
theorem tw2670571373685298256 : True := trivial
theorem tw6921073858925291239 : True := trivial
theorem tw14190076187652291949 : True := trivial
theorem tw1777069842159760527 : True := trivial
theorem tw17433287530729320394 : True := trivial
theorem tw14492276426124471788 : True := trivial
theorem tw8614777251421559899 : True := trivial
theorem tw13838681890673545272 : True := trivial
theorem tw3410196128995246917 : True := trivial
theorem tw11627564742378439650 : True := trivial
theorem tw8677802771170823506 : True := trivial
theorem tw16237712226934743532 : True := trivial
theorem tw10416720858127766743 : True := trivial
theorem tw6471637959255122241 : True := trivial
theorem tw2257193571878035239 : True := trivial
theorem tw6582743566554038612 : True := trivial
theorem tw12180539936304867106 : True := trivial
theorem tw13097714293880789003 : True := trivial
theorem tw15367214624046358148 : True := trivial
theorem tw6361463693118634277 : True := trivial
theorem tw3611084566261647123 : True := trivial
theorem tw6245052726248493572 : True := trivial
theorem tw8603500279265290053 : True := trivial
theorem tw6215407027087421044 : True := trivial
theorem tw10888490241844629607 : True := trivial
theorem tw7057970582943232917 : True := trivial
theorem tw10147658903529517814 : True := trivial
theorem tw4533668543753331810 : True := trivial
theorem tw2440955330291467932 : True := trivial
theorem tw174019566453475457 : True := trivial
theorem tw12202137732620339699 : True := trivial
theorem tw11228628497211110749 : True := trivial
theorem tw16478552945605688404 : True := trivial
theorem tw6309580289441245147 : True := trivial
theorem tw6765885160407392965 : True := trivial
theorem tw12711679700452659978 : True := trivial
theorem tw15307359549416329458 : True := trivial
theorem tw4539171949673491577 : True := trivial
theorem tw11681796200868592266 : True := trivial
theorem tw18322691176947310564 : True := trivial
theorem tw17903097145777710087 : True := trivial
theorem tw15380643337850499256 : True := trivial
theorem tw7140382293752143429 : True := trivial
theorem tw15130973080138329188 : True := trivial
theorem tw18203776172705718467 : True := trivial
theorem tw3683778510129048087 : True := trivial
theorem tw10728385900330055232 : True := trivial
theorem tw5197314502515736709 : True := trivial
theorem tw7717670044629686970 : True := trivial
theorem tw11260992270255960585 : True := trivial
theorem tw4775051631455894629 : True := trivial
theorem tw17546527683439953779 : True := trivial
theorem tw33427290768588972 : True := trivial
theorem tw7116698238491815225 : True := trivial
theorem tw6370398367566163025 : True := trivial
theorem tw12212933522069011988 : True := trivial
theorem tw14558545664804480499 : True := trivial
theorem tw17233457631738950974 : True := trivial
theorem tw1736138319177078919 : True := trivial
theorem tw2152167444364839225 : True := trivial
theorem tw2087981047521295580 : True := trivial
theorem tw14503080293383508659 : True := trivial
theorem tw18203403984663443072 : True := trivial
theorem tw2654552327011884432 : True := trivial
theorem tw4950403968356008110 : True := trivial
theorem tw347816163483929816 : True := trivial
theorem tw5354148072674057331 : True := trivial
theorem tw3335054579961404729 : True := trivial
theorem tw18363874247302488086 : True := trivial
theorem tw9070704062992814841 : True := trivial
theorem tw7469950542288936506 : True := trivial
theorem tw9559820642381380932 : True := trivial
theorem tw16117218838092406820 : True := trivial
theorem tw769983615490850566 : True := trivial
theorem tw10874316729293906858 : True := trivial
theorem tw14016782137374729594 : True := trivial
theorem tw6768527794753136924 : True := trivial
theorem tw10682770612549562524 : True := trivial
theorem tw13728267205206896507 : True := trivial
theorem tw17484917917373573768 : True := trivial
theorem tw17918125715009934602 : True := trivial
theorem tw1340732969908501211 : True := trivial
theorem tw1412798022092170682 : True := trivial
theorem tw5407232425735434182 : True := trivial
theorem tw11851709006616689672 : True := trivial
theorem tw12890721736228548200 : True := trivial
theorem tw13673274986797844941 : True := trivial
theorem tw14721709283769024194 : True := trivial
theorem tw1519764728837627585 : True := trivial
theorem tw2487034316364812284 : True := trivial
theorem tw1562932699786603023 : True := trivial
theorem tw2930532333115074398 : True := trivial
theorem tw14574801432027512755 : True := trivial
theorem tw14939693663707051619 : True := trivial
theorem tw4785068964239711615 : True := trivial
theorem tw5029745898896661690 : True := trivial
theorem tw12207761013786371866 : True := trivial
theorem tw8049827351057952638 : True := trivial
theorem tw15932523567376311661 : True := trivial
theorem tw3723988518540851739 : True := trivial
theorem tw17136511569032190220 : True := trivial
theorem tw17684750252590230805 : True := trivial
theorem tw1625080806587739848 : True := trivial
theorem tw999798209818781672 : True := trivial
theorem tw3510506673179690562 : True := trivial
theorem tw17779459042885607208 : True := trivial
theorem tw10901649546591821862 : True := trivial
theorem tw9048390944144121981 : True := trivial
theorem tw721199640417726442 : True := trivial
theorem tw8239405809661272926 : True := trivial
theorem tw7984984655924894608 : True := trivial
theorem tw9392990170073665149 : True := trivial
theorem tw3810338749695602999 : True := trivial
theorem tw9052857236999984677 : True := trivial
theorem tw16464420300316434674 : True := trivial
theorem tw2962455088084156510 : True := trivial
theorem tw13161798303456468172 : True := trivial
theorem tw8059700687775931431 : True := trivial
theorem tw2824711377971209 : True := trivial
theorem tw9916796106900827486 : True := trivial
theorem tw14153841308418656456 : True := trivial
theorem tw10895054467252067526 : True := trivial
theorem tw12909842661862811868 : True := trivial
theorem tw18045370259859999855 : True := trivial
theorem tw1044461793932804406 : True := trivial
theorem tw4827270371386293306 : True := trivial
theorem tw4124441165874395080 : True := trivial
theorem tw17737941679453060848 : True := trivial
theorem tw2523429984870532094 : True := trivial
theorem tw15825511895219661619 : True := trivial
theorem tw8081558906472808667 : True := trivial
theorem tw8352470293576582857 : True := trivial
theorem tw9428015183855846628 : True := trivial
theorem tw14774052361384061898 : True := trivial
theorem tw11299997306764849619 : True := trivial
theorem tw7933630861670307789 : True := trivial
theorem tw5991891943723376134 : True := trivial
theorem tw4658327283870856409 : True := trivial
theorem tw5986742067250831371 : True := trivial
theorem tw10812700024781328671 : True := trivial
theorem tw6389813905438556230 : True := trivial
theorem tw10235334195030205936 : True := trivial
theorem tw562294597585456244 : True := trivial
theorem tw12423952289234860367 : True := trivial
theorem tw6740323729440402254 : True := trivial
theorem tw872479138520865405 : True := trivial
theorem tw5812312609449684100 : True := trivial
theorem tw16684344177607277624 : True := trivial
theorem tw13413733117436355370 : True := trivial
theorem tw15688172546075569117 : True := trivial
theorem tw14454571958578411450 : True := trivial
theorem tw12971124776947463185 : True := trivial
theorem tw3269693614287924217 : True := trivial
theorem tw3936071799763621318 : True := trivial
theorem tw1195193663934043528 : True := trivial
theorem tw14923884007163036392 : True := trivial
theorem tw11583151060123660582 : True := trivial
theorem tw12214134854039867640 : True := trivial
theorem tw5139589434142006255 : True := trivial
theorem tw17656766251404061198 : True := trivial
theorem tw13678138593670788059 : True := trivial
theorem tw6352828451902743105 : True := trivial
theorem tw12556456511402129575 : True := trivial
theorem tw11678130103378247572 : True := trivial
theorem tw7690983457609660469 : True := trivial
theorem tw8896523894292634687 : True := trivial
theorem tw13509038323834791480 : True := trivial
theorem tw3600006292299410923 : True := trivial
theorem tw13516622038369049944 : True := trivial
theorem tw11389583511973518041 : True := trivial
theorem tw17670266018552243620 : True := trivial
theorem tw3091651249775218141 : True := trivial
theorem tw15089571124056680474 : True := trivial
theorem tw14819470525377895172 : True := trivial
theorem tw1050772042951663329 : True := trivial
theorem tw1963134401048803436 : True := trivial
theorem tw14955290184562816202 : True := trivial
theorem tw8598692823790989367 : True := trivial
theorem tw3200212019564660177 : True := trivial
theorem tw16186304066995879148 : True := trivial
theorem tw7708874160547798999 : True := trivial
theorem tw4186671074074167459 : True := trivial
theorem tw12071558147654375590 : True := trivial
theorem tw5916107541561443693 : True := trivial
theorem tw14428884847818488773 : True := trivial
theorem tw16196181902256332553 : True := trivial
theorem tw16822109747335207037 : True := trivial
theorem tw17681516322279627680 : True := trivial
theorem tw7070076370878917828 : True := trivial
theorem tw15730559867425810446 : True := trivial
theorem tw8306291469775996829 : True := trivial
theorem tw17515626903205563996 : True := trivial
theorem tw15693171249328670706 : True := trivial
theorem tw17303276941060079847 : True := trivial
theorem tw12821662553749405066 : True := trivial
theorem tw7995362448368537469 : True := trivial
theorem tw5824405592163197488 : True := trivial
theorem tw13086300628563433073 : True := trivial
theorem tw12612202700980372259 : True := trivial
theorem tw1817786956151228315 : True := trivial
theorem tw1254381743428725564 : True := trivial
theorem tw7686666598800577030 : True := trivial
theorem tw5152936849012907304 : True := trivial
theorem tw9006584116882376579 : True := trivial
theorem tw10857654067285258760 : True := trivial
theorem tw10454037405050754773 : True := trivial
theorem tw16393210782548945557 : True := trivial
theorem tw16588903486468739960 : True := trivial
theorem tw10412745667412086809 : True := trivial
theorem tw7090832255228623981 : True := trivial
theorem tw16302705421598310323 : True := trivial
theorem tw9704597987362720898 : True := trivial
theorem tw3001598624094860735 : True := trivial
theorem tw4911073478659583284 : True := trivial
theorem tw13037789474373806136 : True := trivial
theorem tw14472819055877056749 : True := trivial
theorem tw855110444503798403 : True := trivial
theorem tw9578069517094272253 : True := trivial
theorem tw14517287926952318261 : True := trivial
theorem tw2656788454239962097 : True := trivial
theorem tw16958243865122950064 : True := trivial
theorem tw3343445320678177929 : True := trivial
theorem tw1666694428299288667 : True := trivial
theorem tw744865244796547220 : True := trivial
theorem tw15583698165555649274 : True := trivial
theorem tw17067295170570645592 : True := trivial
theorem tw8643116662766533202 : True := trivial
theorem tw10383673109516279431 : True := trivial
theorem tw14210890002308233579 : True := trivial
theorem tw757079261281740938 : True := trivial
theorem tw9113340658982188547 : True := trivial
theorem tw1982079694162106894 : True := trivial
theorem tw807531904560671035 : True := trivial
theorem tw17743408960866722510 : True := trivial
theorem tw12464766053444552404 : True := trivial
theorem tw17449020081951674710 : True := trivial
theorem tw1613116972386908190 : True := trivial
theorem tw5098551885099359569 : True := trivial
theorem tw17861066769153400444 : True := trivial
theorem tw2462912638960843985 : True := trivial
theorem tw10875463905939285979 : True := trivial
theorem tw8919302590299486024 : True := trivial
theorem tw7613857476909055813 : True := trivial
theorem tw6968583824967984638 : True := trivial
theorem tw12284014389350100970 : True := trivial
theorem tw3599858809825778643 : True := trivial
theorem tw9735714214384596553 : True := trivial
theorem tw5486226609284752418 : True := trivial
theorem tw12696600883282566439 : True := trivial
theorem tw18105285910621931680 : True := trivial
theorem tw15533503492667675913 : True := trivial
theorem tw3263211703599914710 : True := trivial
theorem tw6454446336052903152 : True := trivial
theorem tw1887099378405440850 : True := trivial
theorem tw10852849658779182186 : True := trivial
theorem tw14431720936831517352 : True := trivial
theorem tw4868334931027891882 : True := trivial
theorem tw891787732878383699 : True := trivial
theorem tw17204297501091165112 : True := trivial
theorem tw1921391257341544841 : True := trivial
theorem tw4788878847521262168 : True := trivial
theorem tw1014637456484912126 : True := trivial
theorem tw14245171486683049214 : True := trivial
theorem tw7976502392129159676 : True := trivial
theorem tw13724452099449386491 : True := trivial
theorem tw8577089030196625639 : True := trivial
theorem tw8590288500278120515 : True := trivial
theorem tw12829507556594621215 : True := trivial
theorem tw4326780796455107134 : True := trivial
theorem tw5776136370200156792 : True := trivial
theorem tw18195182924450695511 : True := trivial
theorem tw14856888987745899463 : True := trivial
theorem tw12869217540446652890 : True := trivial
theorem tw428092273266315144 : True := trivial
theorem tw12550770813317053977 : True := trivial
theorem tw6766378078585498003 : True := trivial
theorem tw6498334528663615478 : True := trivial
theorem tw3810570522144960214 : True := trivial
theorem tw4170516301191304579 : True := trivial
theorem tw14139026862911339306 : True := trivial
theorem tw15201286185872193147 : True := trivial
theorem tw846297522682114974 : True := trivial
theorem tw7613945582906998725 : True := trivial
theorem tw12494888245299231016 : True := trivial
theorem tw9722632081671974098 : True := trivial
theorem tw4640724917100965312 : True := trivial
theorem tw4769821431679368130 : True := trivial
theorem tw1252854909445205041 : True := trivial
theorem tw11192643925408225281 : True := trivial
theorem tw14560573928864763818 : True := trivial
theorem tw2367325634123391141 : True := trivial
theorem tw17662344363894024548 : True := trivial
theorem tw6634307039904815820 : True := trivial
theorem tw4209717502836232480 : True := trivial
theorem tw14578271805448956485 : True := trivial
theorem tw3125960719983571848 : True := trivial
theorem tw18230178534529381785 : True := trivial
theorem tw4570111826955561243 : True := trivial
theorem tw2910385600587045654 : True := trivial
theorem tw17963964198891936676 : True := trivial
theorem tw12105171945263650130 : True := trivial
theorem tw17362494058136835672 : True := trivial
theorem tw452842511749404161 : True := trivial
theorem tw9746214513668125432 : True := trivial
theorem tw1535588207084551279 : True := trivial
theorem tw10599938827571368224 : True := trivial
theorem tw16530489862217454893 : True := trivial
theorem tw9363291351745731410 : True := trivial
theorem tw12977279227502587607 : True := trivial
theorem tw17896612028031085017 : True := trivial
theorem tw16229209127682248589 : True := trivial
theorem tw4719063310657182621 : True := trivial
theorem tw16252508478716706905 : True := trivial
theorem tw6455845175183424153 : True := trivial
theorem tw6515953530934532768 : True := trivial
theorem tw11587955951900863698 : True := trivial
theorem tw16237762584071213788 : True := trivial
theorem tw11151619158091525091 : True := trivial
theorem tw3004984022683251337 : True := trivial
theorem tw11273041486466551846 : True := trivial
theorem tw5073790198343104882 : True := trivial
theorem tw17123178472405020103 : True := trivial
theorem tw7803649310394182010 : True := trivial
theorem tw2608567993692976607 : True := trivial
theorem tw17784850919643140607 : True := trivial
theorem tw10391319463526535247 : True := trivial
theorem tw6766580051018981234 : True := trivial
theorem tw9544026089342320630 : True := trivial
theorem tw4040260094072895976 : True := trivial
theorem tw7282745182861764756 : True := trivial
theorem tw8018989035897545986 : True := trivial
theorem tw111200028466390044 : True := trivial
theorem tw8330952907988395303 : True := trivial
theorem tw1422313219903470601 : True := trivial
theorem tw9806666330580929782 : True := trivial
theorem tw2086631506510373192 : True := trivial
theorem tw13423622936843584764 : True := trivial
theorem tw1012361349325877821 : True := trivial
theorem tw1544503264643628384 : True := trivial
theorem tw4898026214463823928 : True := trivial
theorem tw17698704350827878285 : True := trivial
theorem tw16256441300576474876 : True := trivial
theorem tw14166196953294261902 : True := trivial
theorem tw12669758225909598566 : True := trivial
theorem tw5011121235533021005 : True := trivial
theorem tw15621619335703214680 : True := trivial
theorem tw11454252539852477091 : True := trivial
theorem tw3837020019201816242 : True := trivial
theorem tw2236755162388048479 : True := trivial
theorem tw11039862389202566683 : True := trivial
theorem tw17260493314774615805 : True := trivial
theorem tw7249652514872940865 : True := trivial
theorem tw9725021084223525626 : True := trivial
theorem tw2537931557510868981 : True := trivial
theorem tw7890596953891613788 : True := trivial
theorem tw4162185377826839926 : True := trivial
theorem tw17719728818120068181 : True := trivial
theorem tw1635022588487117616 : True := trivial
theorem tw16307707646766795581 : True := trivial
theorem tw15399907426655090358 : True := trivial
theorem tw7470013935711676318 : True := trivial
theorem tw10511823565363050587 : True := trivial
theorem tw8668149382578428375 : True := trivial
theorem tw15741700470354863883 : True := trivial
theorem tw8289400949097046189 : True := trivial
theorem tw5796354222422608987 : True := trivial
theorem tw3222278782482380304 : True := trivial
theorem tw11575174756993882273 : True := trivial
theorem tw5402249366112354979 : True := trivial
theorem tw17164383140453370395 : True := trivial
theorem tw3268265519342814607 : True := trivial
theorem tw17347454772498655404 : True := trivial
theorem tw14679806638718605512 : True := trivial
theorem tw16205109500356779066 : True := trivial
theorem tw10671828304227620169 : True := trivial
theorem tw3998398428148030388 : True := trivial
theorem tw3456623496861543869 : True := trivial
theorem tw3762306804915933987 : True := trivial
theorem tw18082680734076937219 : True := trivial
theorem tw11040825799340251285 : True := trivial
theorem tw13815853411582834384 : True := trivial
theorem tw5071919506433949198 : True := trivial
theorem tw9260378047223084069 : True := trivial
theorem tw6449190631224713292 : True := trivial
theorem tw3112429581023547943 : True := trivial
theorem tw2617349483901765261 : True := trivial
theorem tw5647864574477489665 : True := trivial
theorem tw333583748066197110 : True := trivial
theorem tw17637551073024348614 : True := trivial
theorem tw14333544728242365436 : True := trivial
theorem tw17971676594858020690 : True := trivial
theorem tw10751089155417173751 : True := trivial
theorem tw17430205856086898164 : True := trivial
theorem tw8569027658895312972 : True := trivial
theorem tw888132650186811988 : True := trivial
theorem tw828056024939588000 : True := trivial
theorem tw14728723275428758510 : True := trivial
theorem tw11061592194353771069 : True := trivial
theorem tw3028926083550364057 : True := trivial
theorem tw5115476493328737885 : True := trivial
theorem tw12557769604369416430 : True := trivial
theorem tw12149302876761508202 : True := trivial
theorem tw12946824338688289833 : True := trivial
theorem tw13093503161671486093 : True := trivial
theorem tw783483362715066742 : True := trivial
theorem tw6058378993454661626 : True := trivial
theorem tw4443050520305737185 : True := trivial
theorem tw4312942655851389009 : True := trivial
theorem tw7716820226725407877 : True := trivial
theorem tw7929640520542984453 : True := trivial
theorem tw7547296005191728479 : True := trivial
theorem tw3506512066687448480 : True := trivial
theorem tw9610726530385051774 : True := trivial
theorem tw6388184931127306564 : True := trivial
theorem tw8281523328739849912 : True := trivial
theorem tw16269368082590959529 : True := trivial
theorem tw13814004702073501669 : True := trivial
theorem tw17665283555074236365 : True := trivial
theorem tw3029852977388229646 : True := trivial
theorem tw12347537446847802165 : True := trivial
theorem tw13158425560686309300 : True := trivial
theorem tw2316539691658765527 : True := trivial
theorem tw13700621096757390547 : True := trivial
theorem tw4613182775407389354 : True := trivial
theorem tw1088692219920020602 : True := trivial
theorem tw9973546303253646035 : True := trivial
theorem tw15942684835789789487 : True := trivial
theorem tw2051409578822353534 : True := trivial
theorem tw15144710454662140524 : True := trivial
theorem tw4424551920762525699 : True := trivial
theorem tw500868675978126160 : True := trivial
theorem tw17512474026176034454 : True := trivial
theorem tw857469055436470443 : True := trivial
theorem tw7439575562449295702 : True := trivial
theorem tw9445451236469955387 : True := trivial
theorem tw8766236636241539760 : True := trivial
theorem tw12847644182280273618 : True := trivial
theorem tw7844069586390513008 : True := trivial
theorem tw6474043946942992101 : True := trivial
theorem tw10818889477481085253 : True := trivial
theorem tw11277574374343807151 : True := trivial
theorem tw3857263333814641470 : True := trivial
theorem tw2067723777617599883 : True := trivial
theorem tw5266742908149448401 : True := trivial
theorem tw6577878126316647860 : True := trivial
theorem tw5863258528049689039 : True := trivial
theorem tw6846200578177281708 : True := trivial
theorem tw12932903420030652473 : True := trivial
theorem tw5227809002895711924 : True := trivial
theorem tw17186005699333237546 : True := trivial
theorem tw10234915967203826555 : True := trivial
theorem tw10939691994893167182 : True := trivial
theorem tw14855157385224911753 : True := trivial
theorem tw4329306826757983850 : True := trivial
theorem tw4100293265295638779 : True := trivial
theorem tw15094949803261831281 : True := trivial
theorem tw17701328389417463424 : True := trivial
theorem tw3767311804947220896 : True := trivial
theorem tw17108682257543074861 : True := trivial
theorem tw14134379338385194387 : True := trivial
theorem tw16488607150827929282 : True := trivial
theorem tw7822013112032934038 : True := trivial
theorem tw7278507554335971580 : True := trivial
theorem tw9757074474933493440 : True := trivial
theorem tw13295704053362595847 : True := trivial
theorem tw3788772014149755174 : True := trivial
theorem tw4013537778516871869 : True := trivial
theorem tw5634151482396758240 : True := trivial
theorem tw8472697214298850164 : True := trivial
theorem tw17570509445847580414 : True := trivial
theorem tw3794220679723124481 : True := trivial
theorem tw6385529401280152062 : True := trivial
theorem tw9524518906428321964 : True := trivial
theorem tw11414119711712004833 : True := trivial
theorem tw7773504467932542270 : True := trivial
theorem tw2565351972500760935 : True := trivial
theorem tw8896352889252549814 : True := trivial
theorem tw3211687289105081006 : True := trivial
theorem tw9712136527352899355 : True := trivial
theorem tw2377308710366028375 : True := trivial
theorem tw8776770756819070316 : True := trivial
theorem tw15225332579556243176 : True := trivial
theorem tw4723787954990577340 : True := trivial
theorem tw17570709534508481193 : True := trivial
theorem tw16867096813858660809 : True := trivial
theorem tw9825859731914700964 : True := trivial
theorem tw1713156846745171867 : True := trivial
theorem tw17933470926392208243 : True := trivial
theorem tw14239432107786713131 : True := trivial
theorem tw4395496475954998127 : True := trivial
theorem tw17416127249078093707 : True := trivial
theorem tw13326868189938593150 : True := trivial
theorem tw17311274769643918242 : True := trivial
theorem tw5106123347721008290 : True := trivial
theorem tw8261031787919469916 : True := trivial
theorem tw9509447333196811905 : True := trivial
theorem tw1545086475593560577 : True := trivial
theorem tw13162651487661262736 : True := trivial
theorem tw16708981103961760564 : True := trivial
theorem tw1390109508276135513 : True := trivial
theorem tw12171577908484138354 : True := trivial
theorem tw6214469639950668122 : True := trivial
theorem tw3863403702602939814 : True := trivial
theorem tw7130589087949165531 : True := trivial
theorem tw2885147992704089249 : True := trivial
theorem tw15815952407149668801 : True := trivial
theorem tw6525817661751114472 : True := trivial
theorem tw7021976415091001641 : True := trivial
theorem tw3550807849831375056 : True := trivial
theorem tw15069271281064182630 : True := trivial
theorem tw15216479089859931547 : True := trivial
theorem tw423345284130997744 : True := trivial
theorem tw4992356995671143779 : True := trivial
theorem tw2415902012162501839 : True := trivial
theorem tw5792265106169080782 : True := trivial
theorem tw9597861255099599992 : True := trivial
theorem tw2711489104339610207 : True := trivial
theorem tw12586190556516072552 : True := trivial
theorem tw11906472874536768445 : True := trivial
theorem tw1903126291601959907 : True := trivial
theorem tw14018533915963200917 : True := trivial
theorem tw4499257904209204147 : True := trivial
theorem tw7193555501269276637 : True := trivial
theorem tw18404063521330658252 : True := trivial
theorem tw7692301277026442203 : True := trivial
theorem tw10194128795564708546 : True := trivial
theorem tw10998343915150870288 : True := trivial
theorem tw2320886540369039338 : True := trivial
theorem tw8004206274103572539 : True := trivial
theorem tw3373110491918621954 : True := trivial
theorem tw13119895379190043232 : True := trivial
theorem tw15434440284735832900 : True := trivial
theorem tw17109930996152030393 : True := trivial
theorem tw18087328562809068087 : True := trivial
theorem tw3293696948919318046 : True := trivial
theorem tw7348594602126897846 : True := trivial
theorem tw862447977868951606 : True := trivial
theorem tw13272504610945704091 : True := trivial
theorem tw824797018042769846 : True := trivial
theorem tw10580198807604790814 : True := trivial
theorem tw12072802829135307789 : True := trivial
theorem tw11024638832163780183 : True := trivial
theorem tw15083174532876359662 : True := trivial
theorem tw14658254696389335927 : True := trivial
theorem tw17628183408451194143 : True := trivial
theorem tw6707113841082798463 : True := trivial
theorem tw9578429878718019509 : True := trivial
theorem tw14899709244077398024 : True := trivial
theorem tw4302917861877037783 : True := trivial
theorem tw9747544060827109212 : True := trivial
theorem tw16429022384663243119 : True := trivial
theorem tw9437242357050131058 : True := trivial
theorem tw8185091604740117843 : True := trivial
theorem tw16145351769185666540 : True := trivial
theorem tw5246096745964282443 : True := trivial
theorem tw3236217559460173300 : True := trivial
theorem tw14468091648759818802 : True := trivial
theorem tw16912196016219973028 : True := trivial
theorem tw331587747771337591 : True := trivial
theorem tw17911201065640838737 : True := trivial
theorem tw16906536467411238026 : True := trivial
theorem tw16375469754199864689 : True := trivial
theorem tw10469515968555745039 : True := trivial
theorem tw2620492485814837118 : True := trivial
theorem tw16908780153626456763 : True := trivial
theorem tw5285785234609935064 : True := trivial
theorem tw12741526300851653767 : True := trivial
theorem tw8622160174418277736 : True := trivial
theorem tw9508293364712189505 : True := trivial
theorem tw3314143786362844604 : True := trivial
theorem tw9883050511414546368 : True := trivial
theorem tw7267163888087337239 : True := trivial
theorem tw11869342324683393730 : True := trivial
theorem tw5585719645790517573 : True := trivial
theorem tw15240623583426463711 : True := trivial
theorem tw8408514402456403777 : True := trivial
theorem tw15279137341521000952 : True := trivial
theorem tw1547390860169783007 : True := trivial
theorem tw7008622114716911220 : True := trivial
theorem tw12851234836949525663 : True := trivial
theorem tw1346022578215293949 : True := trivial
theorem tw2516017022742817472 : True := trivial
theorem tw11693106759165616088 : True := trivial
theorem tw14943911441677524827 : True := trivial
theorem tw8660049834305141905 : True := trivial
theorem tw13718649260633737024 : True := trivial
theorem tw8370555248988390076 : True := trivial
theorem tw11277597615667878183 : True := trivial
theorem tw17809232949079649038 : True := trivial
theorem tw8053913732961167717 : True := trivial
theorem tw13582292425324344769 : True := trivial
theorem tw15243534294739168615 : True := trivial
theorem tw11462241541112437924 : True := trivial
theorem tw17406136962360114138 : True := trivial
theorem tw15019234207855213703 : True := trivial
theorem tw11432402860279490204 : True := trivial
theorem tw14297971457927632359 : True := trivial
theorem tw2603282792292808943 : True := trivial
theorem tw3738894495883498167 : True := trivial
theorem tw8511326990415419460 : True := trivial
theorem tw13175226182763708026 : True := trivial
theorem tw11471956102464614933 : True := trivial
theorem tw5372875611105449904 : True := trivial
theorem tw11989984593139433840 : True := trivial
theorem tw1766193274316824492 : True := trivial
theorem tw3752056022367304142 : True := trivial
theorem tw14336544582882092262 : True := trivial
theorem tw9711862698833617823 : True := trivial
theorem tw6620434350048004 : True := trivial
theorem tw12705944875615423002 : True := trivial
theorem tw8775384921122389154 : True := trivial
theorem tw12343934877155477432 : True := trivial
theorem tw12757126508119417436 : True := trivial
theorem tw9562769462328344092 : True := trivial
theorem tw2523478847598653984 : True := trivial
theorem tw9682595657389325823 : True := trivial
theorem tw9508526790633795441 : True := trivial
theorem tw17611727573569791414 : True := trivial
theorem tw9339408515151402362 : True := trivial
theorem tw11819170096642289871 : True := trivial
theorem tw1324748791087667916 : True := trivial
theorem tw14165584387687976329 : True := trivial
theorem tw4891822661719351221 : True := trivial
theorem tw4833179351181384845 : True := trivial
theorem tw448459338275823397 : True := trivial
theorem tw14895270292469626870 : True := trivial
theorem tw8344675336782298973 : True := trivial
theorem tw15396384818603876561 : True := trivial
theorem tw416177051242630535 : True := trivial
theorem tw12738864244801774330 : True := trivial
theorem tw14021872759519490765 : True := trivial
theorem tw2046393882495617769 : True := trivial
theorem tw17485583185531914963 : True := trivial
theorem tw7022806388564383982 : True := trivial
theorem tw6220327705178566785 : True := trivial
theorem tw17314879045244329059 : True := trivial
theorem tw14178952322520976695 : True := trivial
theorem tw947276838399291496 : True := trivial
theorem tw8785817190682134681 : True := trivial
theorem tw11772964195913830049 : True := trivial
theorem tw14979938633740849765 : True := trivial
theorem tw5598441983335636414 : True := trivial
theorem tw273201369580953799 : True := trivial
theorem tw2556814553914141322 : True := trivial
theorem tw13337293482115323266 : True := trivial
theorem tw13501502787908985413 : True := trivial
theorem tw3246839028233683650 : True := trivial
theorem tw8924392036579600891 : True := trivial
theorem tw4910921440188858082 : True := trivial
theorem tw11750646167744613905 : True := trivial
theorem tw10850621001676330593 : True := trivial
theorem tw2995622967998787300 : True := trivial
theorem tw15153159077126877473 : True := trivial
theorem tw11154830654865731599 : True := trivial
theorem tw4652738160404261841 : True := trivial
theorem tw11395320378806372228 : True := trivial
theorem tw13566729865485783148 : True := trivial
theorem tw11224825812204259059 : True := trivial
theorem tw10553471711426338075 : True := trivial
theorem tw12979919090201106820 : True := trivial
theorem tw9487260019516590291 : True := trivial
theorem tw4337157586716928682 : True := trivial
theorem tw17234587430967350031 : True := trivial
theorem tw612862322836996645 : True := trivial
theorem tw18011332887955570755 : True := trivial
theorem tw6113892759573084369 : True := trivial
theorem tw7319501015663598286 : True := trivial
theorem tw8097654560655122648 : True := trivial
theorem tw14060254640080698258 : True := trivial
theorem tw15701818922362908474 : True := trivial
theorem tw14257018576560825284 : True := trivial
theorem tw4538191230965241994 : True := trivial
theorem tw15566928917628492161 : True := trivial
theorem tw584112131590315491 : True := trivial
theorem tw10043950574865488231 : True := trivial
theorem tw17461915456910197578 : True := trivial
theorem tw13183061134860383702 : True := trivial
theorem tw11177036383054605599 : True := trivial
theorem tw418608610138435605 : True := trivial
theorem tw14969715616416898430 : True := trivial
theorem tw10684981021144957211 : True := trivial
theorem tw13781542876482819989 : True := trivial
theorem tw488218634404078324 : True := trivial
theorem tw2306873549167696089 : True := trivial
theorem tw12273546716903637868 : True := trivial
theorem tw17344254963278052338 : True := trivial
theorem tw8151358987872166243 : True := trivial
theorem tw15846704840505152836 : True := trivial
theorem tw12757720458447036936 : True := trivial
theorem tw7856420140689306517 : True := trivial
theorem tw1348009686575996458 : True := trivial
theorem tw3839206501371402102 : True := trivial
theorem tw16593498308125037870 : True := trivial
theorem tw1239743038759826550 : True := trivial
theorem tw18075230132384515194 : True := trivial
theorem tw15530281825414154361 : True := trivial
theorem tw5576714124690252594 : True := trivial
theorem tw11179249921394602866 : True := trivial
theorem tw7518579229450374285 : True := trivial
theorem tw4759752924163587094 : True := trivial
theorem tw14752907821818930876 : True := trivial
theorem tw2185935427153128515 : True := trivial
theorem tw745748316474750422 : True := trivial
theorem tw8013244705931419473 : True := trivial
theorem tw10170948947761517979 : True := trivial
theorem tw16125780511175521129 : True := trivial
theorem tw13593179597827634900 : True := trivial
theorem tw17696989986258524660 : True := trivial
theorem tw16554438482525722971 : True := trivial
theorem tw16625790000389398615 : True := trivial
theorem tw3680538572021651005 : True := trivial
theorem tw1206694682578267724 : True := trivial
theorem tw1469139661183043837 : True := trivial
theorem tw4303106303303389909 : True := trivial
theorem tw4217414874291451276 : True := trivial
theorem tw18099640592841667524 : True := trivial
theorem tw17830361364027725262 : True := trivial
theorem tw13217662176923290317 : True := trivial
theorem tw17535827442545306379 : True := trivial
theorem tw8058895272353334144 : True := trivial
theorem tw3541825141892303889 : True := trivial
theorem tw17881394067367492771 : True := trivial
theorem tw2218633174628956881 : True := trivial
theorem tw6061592489118403721 : True := trivial
theorem tw15273852366172491244 : True := trivial
theorem tw4716181948101807 : True := trivial
theorem tw8269367382603917829 : True := trivial
theorem tw2366236672687842684 : True := trivial
theorem tw266292477781368812 : True := trivial
theorem tw4440197508161821537 : True := trivial
theorem tw6872408275531757542 : True := trivial
theorem tw13235901397817054834 : True := trivial
theorem tw10091234832980417260 : True := trivial
theorem tw8629152706101051812 : True := trivial
theorem tw10504543856557348713 : True := trivial
theorem tw3597285623890379148 : True := trivial
theorem tw187941002565524503 : True := trivial
theorem tw4002333041265778665 : True := trivial
theorem tw3023385222666876323 : True := trivial
theorem tw9329150127792265844 : True := trivial
theorem tw5523082835119374833 : True := trivial
theorem tw6227736768552902789 : True := trivial
theorem tw7816886789376521730 : True := trivial
theorem tw17567850324905474699 : True := trivial
theorem tw3523348777828740581 : True := trivial
theorem tw10281396178488509929 : True := trivial
theorem tw13203597883595413489 : True := trivial
theorem tw13511959964413161566 : True := trivial
theorem tw11338875618241718471 : True := trivial
theorem tw12076048789873493973 : True := trivial
theorem tw2687768774938457991 : True := trivial
theorem tw12458955589063782577 : True := trivial
theorem tw17511047464938703439 : True := trivial
theorem tw8731306006301319769 : True := trivial
theorem tw5169673773032560159 : True := trivial
theorem tw17610481187121035141 : True := trivial
theorem tw6794536074604225881 : True := trivial
theorem tw5351017473137806058 : True := trivial
theorem tw3277210607324053241 : True := trivial
theorem tw7995428538843987458 : True := trivial
theorem tw10478924771774928865 : True := trivial
theorem tw2204852077615127585 : True := trivial
theorem tw2888837374417270719 : True := trivial
theorem tw5734618986648460908 : True := trivial
theorem tw16754643870311390997 : True := trivial
theorem tw9703995961882730528 : True := trivial
theorem tw11280146832396436108 : True := trivial
end fin
local macro_rules | `(tactic| o_head (kmHook $K $as $pf $ts)) => `(tactic| o_head ((kmHook Mine.hd.heap_39) $as $pf $ts))

set_option Elab.async true in
set_option maxHeartbeats 400000000 in
theorem fin : PySem.Challenge.rw_vc0060_01.Holds := by
  w_on
  o_law
  km_head
  (case hw => w_witness2)
  k_go0
  w_top off
  all_goals (try k_fold)
  repeat' ((fail_if_success (with_reducible show wpAny _ _ (binaryOp Operator.Add (Value.ref _) (Value.ref _)) _ _ _)); (first | (k_unfold; (try dsimp only)) | (k_end; wrow_close) | walk1 | (dsimp only; walk1) | (leave1; try dsimp only)))
  k_here
  refine' kmk_add_ints ?q1 ?q2 ?q3 ?q4 ?q5 ?q6 ?_ ?q7
  (case q1 => k_asm)
  (case q2 => k_asm)
  (case q3 => kmk_list)
  (case q4 => kmk_list)
  (case q5 => assumption)
  (case q6 => exact intsDrop _ moreI)
  (case q7 => exact rowsZ)
  intro D0 us h1 F1 N1 l1 hI0
  k_lt l1
  obtain ⟨R, hRl, hI⟩ : ∃ R : List Int, R.length = 8 ∧ IntsAre us R := ⟨_, rowsN_len rfl, hI0⟩
  clear hI0
  have hA := fm_bnd (x := R.getD 0 0) 1 5 (by decide)
  have hL := fm_bnd (x := (R.getD 0 0).fdiv 5) 2 5 (by decide)
  have hT := fm_bnd (x := (R.getD 0 0).fdiv 25) 10 1000 (by decide)
  repeat' ((fail_if_success (with_reducible show wpAny _ _ (storeName _ _ (Value.int _ _)) _ _ _)); (first | (k_unfold; (try dsimp only)) | (k_end; wrow_close) | walk1 | (dsimp only; walk1) | (leave1; try dsimp only)))
  all_goals (try k_data)
  refine store_gen fun A eA => ?_
  rw [← eA] at hA
  clear eA
  (first | (k_unfold; (try dsimp only)) | (k_end; wrow_close) | walk1 | (dsimp only; walk1) | (leave1; try dsimp only))
  repeat' ((fail_if_success (with_reducible show wpAny _ _ (storeName _ _ (Value.int _ _)) _ _ _)); (first | (k_unfold; (try dsimp only)) | (k_end; wrow_close) | walk1 | (dsimp only; walk1) | (leave1; try dsimp only)))
  all_goals (try k_data)
  refine store_gen fun Ln eL => ?_
  rw [← eL] at hL
  clear eL
  (first | (k_unfold; (try dsimp only)) | (k_end; wrow_close) | walk1 | (dsimp only; walk1) | (leave1; try dsimp only))
  repeat' ((fail_if_success (with_reducible show wpAny _ _ (newList _) _ _ _)); (first | (k_unfold; (try dsimp only)) | (k_end; wrow_close) | walk1 | (dsimp only; walk1) | (leave1; try dsimp only)))
  all_goals (try k_data)
  refine list_gen fun T0 eT => ?_
  rw [← eT] at hT
  clear eT
  replace hA : 1 ≤ A ∧ A ≤ 5 := ⟨by omega, by omega⟩
  replace hL : 2 ≤ Ln ∧ Ln ≤ 6 := ⟨by omega, by omega⟩
  repeat' ((fail_if_success (with_reducible show wpAny _ _ (pyIter (Value.ref _)) _ _ _)); (first | (k_unfold; (try dsimp only)) | (k_end; wrow_close) | walk1 | (dsimp only; walk1) | (leave1; try dsimp only)))
  all_goals (try k_data)
  (with_unfolding_all refine iter_rangeUnr (n := 13) (by rfl) (by assumption) (by first | decide | rfl) (by first | decide | rfl) (by k_asm) (by k_asm) ?_)
  intro I lI
  have lI2 := lI
  k_lt lI2
  rename_i w s0 s1 mg z5 z6 z7 fa z9 z10 z11 z12 z13 z15 z16 z17 z18 z19 z20 z22 ns z24 z25 z26 z27 z28 z29 z30 z31 z32 z33 z34 z35 z36 z37 z38 z39 z40 z41 z42 z43 z44 z45 z46 z47 KX T B z52 l00 z55 z56 z57 z58 z59 z60 z61 z62 z63 z64 z65 z66 z67 z68 z69 z70 z71 z72 z80 z81 z82 z84 z85 z87 z88 now z94 z95 z96 oCell hCell z99 lam cc oc vsc tqc ctv z106 z107 hoc hvs z110 z111 st sd S dS X EV k1 k2 k3 k4 nX nE z124 z125 z126 z127 z128 z129 it itd ta tl tn z135 z136 z137 z138 z139 z140 fx1 fxd1 kst1 nf1 z145 z146 z147 z148 z149 z150 fx2 fxd2 kst2 nf2 z155 z156 z157 z158 z159 z160 gp z162 z163 z164 z165 fu z167 z168 z169 z170 su z172 z173 hz F0 N0 z178 z179 z180 z181 z182 hy tkz z185 z186
  refine rrest_weaken (news1 := [(su, listOf [_].toArray 0), (fu, listOf [_].toArray 0), (gp, _), (fx2, _), (fxd2, _), (fx1, _), (fxd1, _), (it, _), (itd, _), (EV, _), (X, _), (S, _), (dS, _), (st, _), (sd, _), (lam, _), (cc, _), (now, _), (D0, _), (s1.heap.objs.size + 1, _), (809, _), (927, _)]) (by k_subL) ?_
  obtain ⟨M, eM⟩ := fr_map F0
  refine (fun (G : ∀ (r k : Nat) (vf vs : List Value) (c1 c2 : Nat) (m1 : Str → Option Value), k + r = 13 → IntsAre vf (tabF A Ln k) → IntsAre vs (tabS A Ln k) → (∀ y, y ≠ Str.ofString "k" → m1 y = M y) →
    RangeRest _ _ _ _ _ _ _ _ _ _ I 0 13 r k m1 ((su, listOf vs.toArray c1) :: (fu, listOf vf.toArray c2) :: [(gp, _), (fx2, _), (fxd2, _), (fx1, _), (fxd1, _), (it, _), (itd, _), (EV, _), (X, _), (S, _), (dS, _), (st, _), (sd, _), (lam, _), (cc, _), (now, _), (D0, _), (s1.heap.objs.size + 1, _), (809, _), (927, _)])) => G 13 0 _ _ 0 0 _ rfl (.cons _ _ .nil) (.cons _ _ .nil) (fun y _ => (congrFun eM y).symm)) ?_
  clear F0 N0
  intro r
  induction r with
  | zero =>
    intro k vf vs c1 c2 m1 hk hf hs hm
    refine RangeRest.zero (fun h5 tk5 F5 N5 => ?_)
    obtain ⟨ov, em⟩ := map_but hm
    subst em eM
    obtain rfl : k = 13 := by omega
    repeat' ((fail_if_success (with_reducible show wpAny _ _ (pyIter (Value.ref _)) _ _ _)); (first | (k_unfold; (try dsimp only)) | (k_end; wrow_close) | walk1 | (dsimp only; walk1) | (leave1; try dsimp only)))
    all_goals (try k_data)
    rename_i y175 y199 sy y201 y202 y203 te y206 y207 y208 y209 y210 Dv wv h6 F6 N6 hIv hCv y218 y219
    refine' iter_lst ?k0 ?k1 ?k2 ?k3 ?_
    (case k0 => rfl)
    (case k1 => exact F6)
    (case k2 => exact N6)
    (case k3 => k_mem)
    intro I2 lI3
    have lI4 := lI3
    k_lt lI4
    have ch : @LT.lt Nat _ 809 s1.heap.objs.size ∧ @LT.lt Nat _ 927 s1.heap.objs.size ∧ @LT.lt Nat _ (s1.heap.objs.size + 1) D0 ∧ @LT.lt Nat _ D0 now ∧ @LT.lt Nat _ now cc ∧ @LT.lt Nat _ cc lam ∧ @LT.lt Nat _ lam sd ∧ @LT.lt Nat _ sd st ∧ @LT.lt Nat _ st dS ∧ @LT.lt Nat _ dS S ∧ @LT.lt Nat _ S X ∧ @LT.lt Nat _ X EV ∧ @LT.lt Nat _ EV itd ∧ @LT.lt Nat _ itd it ∧ @LT.lt Nat _ it fxd1 ∧ @LT.lt Nat _ fxd1 fx1 ∧ @LT.lt Nat _ fx1 fxd2 ∧ @LT.lt Nat _ fxd2 fx2 ∧ @LT.lt Nat _ fx2 gp ∧ @LT.lt Nat _ gp fu ∧ @LT.lt Nat _ fu su ∧ @LT.lt Nat _ su sy ∧ @LT.lt Nat _ sy Dv ∧ @LT.lt Nat _ Dv I2 :=
      ⟨l00.1, l00.2, Nat.lt_trans z61.1 (Nat.lt_trans z65.1 (Nat.lt_trans z72.1 l1.1)), z95.1, z110.1, z111, z127.1, z126.1, z126.2.1, z126.2.2.1, z126.2.2.2.1, z126.2.2.2.2, z137.1, z138, z147.1, z148, z157.1, z158, z163.1, z168.1, z173.1, y202.1, y219.1, lI4.1⟩
    have hof0 := allLt_ne lI3
    clear lI3 lI4
    refine lrest_weaken2 (news1 := [(sy, listOf [].toArray 0), (S, _), (X, _), (now, _), (Dv, listOf wv.toArray _), (su, _), (fu, _), (gp, _), (fx2, _), (fxd2, _), (fx1, _), (fxd1, _), (it, _), (itd, _), (EV, _), (dS, _), (st, _), (sd, _), (lam, _), (cc, _), (s1.heap.objs.size + 1, _), (809, _), (927, _)]) (by k_subL) ?_
    have hof6 : ∀ p ∈ ([(sy, listOf [].toArray 0), (S, _), (X, _), (now, _), (Dv, listOf wv.toArray _), (su, _), (fu, _), (gp, _), (fx2, _), (fxd2, _), (fx1, _), (fxd1, _), (it, _), (itd, _), (EV, _), (dS, _), (st, _), (sd, _), (lam, _), (cc, _), (s1.heap.objs.size + 1, _), (809, _), (927, _)]), p.1 ≠ I2 := subl_sub (by k_subL) (P := fun a => a ≠ I2) hof0
    clear hof0
    obtain ⟨M0, eM0⟩ := fr_map F6
    refine lrest_map (mapL_canon (M := M0) [Str.ofString "right", Str.ofString "ends", Str.ofString "spent", Str.ofString "window", Str.ofString "before", Str.ofString "here", Str.ofString "v", Str.ofString "cost", Str.ofString "let", Str.ofString "fits", Str.ofString "had", Str.ofString "slid", Str.ofString "moment", Str.ofString "one", Str.ofString "other", Str.ofString "span", Str.ofString "steps", Str.ofString "most"] (fun y _ => (congrFun eM0 y).symm)) ?_
    dsimp only [mapL, List.map]
    refine (fun (G : ∀ (vr : List Value) (nsr : List Int) (i : Nat) (t : Int) (tt : Tok) (nn : Nat) (sg : Sto) (esS : List DictEntry) (nS : Nat) (esX : List DictEntry) (nX : Nat) (refs : List Value) (cs : Nat) (stry : List (Int × Int × Int)) (tl : List (Addr × Obj)) (spent ends W b h : Int) (q1 q2 q3 q4 q5 : Tok) (o1 o2 o3 o4 o5 o6 o7 o8 o9 o10 o11 o12 : Option Value),
        IntsAre vr nsr → nsr.length + i = 7 → LI A Ln T0 (keyF (Str.ofString "ann") A Ln) i t sg spent ends W b h stry → StRep w esS esX sg t (20 * i) → StoryAre tl refs stry → stry.length = i →
        (∀ p ∈ tl, p.1 ≠ sy) → (∀ p ∈ tl, p.1 ≠ S) → (∀ p ∈ tl, p.1 ≠ X) → (∀ p ∈ tl, p.1 ≠ now) → (∀ p ∈ tl, p.1 ≠ I2) →
        ListRest _ _ _ _ _ _ _ _ _ _ _ _ vr (fun y => if y = Str.ofString "right" then some (.bool true) else if y = Str.ofString "ends" then some (.int ends q1) else if y = Str.ofString "spent" then some (.int spent q2) else if y = Str.ofString "window" then some (.int W q3) else if y = Str.ofString "before" then some (.int b q4) else if y = Str.ofString "here" then some (.int h q5) else if y = Str.ofString "v" then o1 else if y = Str.ofString "cost" then o2 else if y = Str.ofString "let" then o3 else if y = Str.ofString "fits" then o4 else if y = Str.ofString "had" then o5 else if y = Str.ofString "slid" then o6 else if y = Str.ofString "moment" then o7 else if y = Str.ofString "one" then o8 else if y = Str.ofString "other" then o9 else if y = Str.ofString "span" then o10 else if y = Str.ofString "steps" then o11 else if y = Str.ofString "most" then o12 else M0 y) ((sy, listOf refs.toArray cs) :: (S, cntO dS esS nS) :: (X, dictOf esX nX) :: (now, listOf #[.int t tt] nn) :: (Dv, listOf wv.toArray _) :: (su, _) :: (fu, _) :: (gp, _) :: (fx2, _) :: (fxd2, _) :: (fx1, _) :: (fxd1, _) :: (it, _) :: (itd, _) :: (EV, _) :: (dS, _) :: (st, _) :: (sd, _) :: (lam, _) :: (cc, _) :: (s1.heap.objs.size + 1, _) :: (809, _) :: (927, _) :: tl)) =>
      G wv (R.drop 1) 0 T0 _ _ (fun _ => none) _ _ _ _ [] 0 [] [] 0 T0 0 0 0 _ _ _ _ _ _ _ _ _ _ _ _ _ _ _ _ _ hIv (by rw [List.length_drop]; omega) (LI.start hA hL hT.1) ?rep trivial rfl (fun _ h => nomatch h) (fun _ h => nomatch h) (fun _ h => nomatch h) (fun _ h => nomatch h) (fun _ h => nomatch h)) ?_
    case rep => exact ⟨_, _, di_nil, di_nil, fun k => .inl ⟨rfl, rfl, fun _ h => by cases h⟩⟩
    clear z65 z72 z95 z110 z111 z126 z127 z137 z138 z147 z148 z157 z158 z163 z168 z173 hy z182 z186 lI lI2 l1 y202 y219 N6 F6 N5 F5 hm z68 z61 hIv hCv y218
    intro vr
    induction vr with
    | nil =>
      intro nsr i t tt nn sg esS nS esX nX refs cs stry tl spent ends W b h q1 q2 q3 q4 q5 o1 o2 o3 o4 o5 o6 o7 o8 o9 o10 o11 o12 hv hi HI HR SA hlen a1 a2 a3 a4 a5
      refine (fun h7 tk7 F7 N7 => ?_)
      obtain rfl : nsr = [] := by cases hv; rfl
      obtain rfl : i = 7 := by simpa using hi
      subst eM0
      have hTok : TokOn := trivial
      dsimp only
      have ord : @LT.lt Nat _ 1 (s1.heap.objs.size + 1) ∧ @LT.lt Nat _ (s1.heap.objs.size + 1) now ∧ @LT.lt Nat _ now cc ∧ @LT.lt Nat _ cc lam ∧ @LT.lt Nat _ lam sd ∧ @LT.lt Nat _ sd st ∧ @LT.lt Nat _ st dS ∧ @LT.lt Nat _ dS S ∧ @LT.lt Nat _ S X ∧ @LT.lt Nat _ X EV := by
        clear F7 N7
        refine ⟨?_, ?_, ?_, ?_, ?_, ?_, ?_, ?_, ?_, ?_⟩ <;> omega
      have ord2 : @LT.lt Nat _ X fx1 ∧ @LT.lt Nat _ X fxd1 ∧ @LT.lt Nat _ X it ∧ @LT.lt Nat _ X itd := by
        refine ⟨?_, ?_, ?_, ?_⟩ <;> omega
      have ord3 : @LT.lt Nat _ X fx2 ∧ @LT.lt Nat _ X fxd2 ∧ @LT.lt Nat _ X it ∧ @LT.lt Nat _ X itd := by
        refine ⟨?_, ?_, ?_, ?_⟩ <;> omega
      have hidE : List.lookup 917 (Mine.hd.heap_39 w.params) = some (tup1 (Str.ofString "early") 1677) := by kernel_rfl
      have hnmE : (Str.ofString "early").length ≤ 5 := by decide +kernel
      have hidF : List.lookup 916 (Mine.hd.heap_39 w.params) = some (tup1 (Str.ofString "fresh") 1675) := by kernel_rfl
      have hnmF : (Str.ofString "fresh").length ≤ 5 := by decide +kernel
      have htt : 10 ≤ t ∧ t ≤ 2000 := by
        have z1 := HI.t0; have z2 := HI.t1
        have z3 : ((7 : Nat) : Int) * (2 * Ln - 1) ≤ 7 * 11 := Int.mul_le_mul (by omega) (by omega) (by omega) (by omega)
        omega
      have hco1 : (1 : Int) ≤ 1 ∧ (1 : Int) ≤ 6 := by omega
      obtain ⟨fk1, fk2, fk3⟩ := fresh_keys hA hL HI.tk
      obtain ⟨hop, hFI⟩ := FI.start (t := t) hA hL fk1 fk2 fk3 (trio hA hL)
      have hCB := HI.cb
      repeat' ((fail_if_success (with_reducible show wpAny _ _ (storeName _ _ (Value.bool _)) _ _ _)); (first | (k_unfold; (try dsimp only)) | (k_end; wrow_close) | walk1 | (dsimp only; walk1) | (leave1; try dsimp only)))
      refine stoB_gen fun r4 er4 => ?_
      obtain rfl : r4 = true := er4.trans hop
      clear er4
      (first | (k_unfold; (try dsimp only)) | (k_end; wrow_close) | walk1 | (dsimp only; walk1) | (leave1; try dsimp only))
      repeat' ((fail_if_success (with_reducible show wpAny _ _ (setItem _ _ _) _ _ _)); (first | (k_unfold; (try dsimp only)) | (k_end; wrow_close) | walk1 | (dsimp only; walk1) | (leave1; try dsimp only)))
      refine set_gen fun t2 et2 => ?_
      have ht2 : t2 = t + (Ln - 1) := et2
      clear et2
      repeat' ((fail_if_success (with_reducible show wpAny _ _ (pyIter (Value.ref _)) _ _ _)); (first | (k_unfold; (try dsimp only)) | (k_end; wrow_close) | walk1 | (dsimp only; walk1) | (leave1; try dsimp only)))
      rename_i v252 v253 v254 v255 v256 v257 v258 RE v260 v261 v262 v263 v264 v267 v268 v269 v270 v271 v272 v273 v274 v275 v276 v277 v278 v279 v280 v281 v282 v283 v284 HRg FR NR v288
      (with_unfolding_all refine iter_rangeUnr (n := 7) (by rfl) HRg (by first | decide | rfl) (by first | decide | rfl) FR (news_now0 NR) ?_)
      intro I4 lI4
      have hof4 := allLt_ne lI4
      have hsI : @LT.lt Nat _ su I4 := lI4 (su, _) (by k_mem)
      refine rrest_weaken (news1 := (S, _) :: (X, _) :: (now, listOf #[Value.int (t2 + ((0 : Nat) : Int)) _] _) :: (su, _) :: (fu, _) :: (fx2, _) :: (fxd2, _) :: (fx1, _) :: (fxd1, _) :: (it, _) :: (itd, _) :: (EV, _) :: (dS, _) :: (st, _) :: (sd, _) :: (lam, _) :: (cc, _) :: (s1.heap.objs.size + 1, _) :: (809, _) :: [(927, _)]) (by k_subL) ?_
      have hof5 : ∀ p ∈ ((S, _) :: (X, _) :: (now, listOf #[Value.int (t2 + ((0 : Nat) : Int)) _] _) :: (su, _) :: (fu, _) :: (fx2, _) :: (fxd2, _) :: (fx1, _) :: (fxd1, _) :: (it, _) :: (itd, _) :: (EV, _) :: (dS, _) :: (st, _) :: (sd, _) :: (lam, _) :: (cc, _) :: (s1.heap.objs.size + 1, _) :: (809, _) :: [(927, _)]), p.1 ≠ I4 := subl_sub (by k_subL) (P := fun a => a ≠ I4) hof4
      clear lI4 hof4
      obtain ⟨M1, eM1⟩ := fr_map FR
      refine rrest_map (mapL_canon (M := M1) [Str.ofString "right", Str.ofString "early", Str.ofString "fresh", Str.ofString "slid", Str.ofString "span", Str.ofString "takes", Str.ofString "steps", Str.ofString "most"] (fun y _ => (congrFun eM1 y).symm)) ?_
      dsimp only [mapL, List.map_cons, List.map_nil]
      rw [← ht2] at hFI
      refine (fun (G : ∀ (r k : Nat) (tt2 : Tok) (nn2 : Nat) (sg5 : Sto) (esS2 : List DictEntry) (nS2 : Nat) (esX2 : List DictEntry) (nX2 : Nat) (ea fr sl : Int) (qa qb qc : Tok) (p1 p2 p3 p4 : Option Value),
          k + r = 7 → FI A Ln t2 (keyF (Str.ofString "early") A Ln) (keyF (Str.ofString "fresh") A Ln) k sg5 ea fr sl → StRep w esS2 esX2 sg5 (t2 + (k : Int)) (150 + 20 * k) → CB sg5 (20 + 6 * k) →
          RangeRest _ _ _ _ _ _ _ _ _ _ I4 1 7 r k (fun y => if y = Str.ofString "right" then some (Value.bool true) else if y = Str.ofString "early" then some (Value.int ea qa) else if y = Str.ofString "fresh" then some (Value.int fr qb) else if y = Str.ofString "slid" then some (Value.int sl qc) else if y = Str.ofString "span" then p1 else if y = Str.ofString "takes" then p2 else if y = Str.ofString "steps" then p3 else if y = Str.ofString "most" then p4 else M1 y) ((S, cntO dS esS2 nS2) :: (X, dictOf esX2 nX2) :: (now, listOf #[Value.int (t2 + (k : Int)) tt2] nn2) :: (su, _) :: (fu, _) :: (fx2, _) :: (fxd2, _) :: (fx1, _) :: (fxd1, _) :: (it, _) :: (itd, _) :: (EV, _) :: (dS, _) :: (st, _) :: (sd, _) :: (lam, _) :: (cc, _) :: (s1.heap.objs.size + 1, _) :: (809, _) :: [(927, _)])) =>
        G 7 0 _ _ _ _ _ _ _ 0 0 0 _ _ _ _ _ _ _ rfl hFI (StRep.mono (StRep.later RE (by omega)) (by omega)) ((CB.ups hCB (by omega) (by omega)).mono (by omega))) ?_
      clear FR NR F7 N7 HRg
      intro r
      induction r with
      | zero =>
        intro k tt2 nn2 sg5 esS2 nS2 esX2 nX2 ea fr sl qa qb qc p1 p2 p3 p4 hk5 hFI5 HR5 hCB5
        refine RangeRest.zero (fun h10 tk10 F10 N10 => ?_)
        rw [eM1] at F10
        dsimp only
        repeat' ((fail_if_success (with_reducible show GoodW _ _ _ _ _ _ _ ∧ _)); (first | (k_unfold; (try dsimp only)) | (k_end; wrow_close) | walk1 | (dsimp only; walk1) | (leave1; try dsimp only)))
        refine ⟨?_, ?_⟩
        · exact goodW_bool F10 z13 (raisesW_false allW_false_nil) post_ok rfl
        · (first | (k_unfold; (try dsimp only)) | (k_end; wrow_close) | walk1 | (dsimp only; walk1) | (leave1; try dsimp only))
      | succ r ih5 =>
        intro k tt2 nn2 sg5 esS2 nS2 esX2 nX2 ea fr sl qa qb qc p1 p2 p3 p4 hk5 hFI5 HR5 hCB5
        refine RangeRest.succ (fun tsp h10 tk10 F10 N10 => ?_)
        rw [eM1] at F10
        have hk7 : k ≤ 6 := by omega
        have c1 : CB sg5 1000 := hCB5.mono (by omega)
        have c2 : CB (fTake A Ln sg5 (t2 + (k : Int)) (keyF (Str.ofString "early") A Ln)) 1000 := (CB.fTake hCB5 hA).mono (by omega)
        have c3 : CB (fTake A Ln (fTake A Ln sg5 (t2 + (k : Int)) (keyF (Str.ofString "early") A Ln)) (t2 + (k : Int)) (keyF (Str.ofString "fresh") A Ln)) 1000 := (CB.fTake (CB.fTake hCB5 hA) hA).mono (by omega)
        have htk : 10 ≤ t2 + (k : Int) ∧ t2 + (k : Int) ≤ 5000 := by omega
        have HT := hFI5.turn (trio hA hL) hA hL
        repeat' ((fail_if_success (with_reducible show wpAny _ _ (newList _) _ _ _)); (first | (k_unfold; (try dsimp only)) | (k_end; wrow_close) | walk1 | (dsimp only; walk1) | (leave1; try dsimp only)))
        rename StRep _ _ _ _ _ _ => HR6
        refine list3_gen fun ra rb rc ea1 eb1 ec1 => ?_
        have na : 0 ≤ ra := by rw [ea1]; exact fRest_nn
        have nb : 0 ≤ rb := by rw [eb1]; exact fRest_nn
        have nc : 0 ≤ rc := by rw [ec1]; exact sRest_nn
        rw [← ea1, ← eb1, ← ec1] at HT
        clear ea1 eb1 ec1 hFI5 HR5
        obtain ⟨hF6, hTe, hTf, hTs⟩ := HT
        repeat' ((fail_if_success (with_reducible show wpAny _ _ (exec (Stmt.Assign [Expr.Name (PySem.Str.ofString "steps") _] _ _) _) _ _ _)); (first | (k_unfold; (try dsimp only)) | (k_end; wrow_close) | walk1 | (dsimp only; walk1) | (leave1; try dsimp only)))
        repeat' ((fail_if_success (with_reducible show wpAny _ _ (storeName _ _ (Value.int _ _)) _ _ _)); (first | (k_unfold; (try dsimp only)) | (k_end; wrow_close) | walk1 | (dsimp only; walk1) | (leave1; try dsimp only)))
        refine sto_gen fun sp esp => ?_
        have hsp : sp = (t2 + (k : Int)) / Ln - t2 / Ln := by
          rw [← Int.fdiv_eq_ediv_of_nonneg (t2 + (k : Int)) (by omega : 0 ≤ Ln), ← Int.fdiv_eq_ediv_of_nonneg t2 (by omega : 0 ≤ Ln)]; exact esp
        clear esp
        have hsp2 : sp ≤ 14 := by
          rw [hsp]
          have z1 := div_lt (t := t2 + (k : Int)) hL rfl
          have z2 := div_lt (t := t2) hL rfl
          have z3 : (t2 + (k : Int)) / Ln ≤ (t2 + 14 * Ln) / Ln := Int.ediv_le_ediv (by omega) (by omega)
          rw [Int.add_mul_ediv_right _ _ (by omega)] at z3
          omega
        rw [← hsp] at hTs
        clear hsp
        repeat' ((fail_if_success (with_reducible show wpAny _ _ (exec (Stmt.If _ _ _ _) _) _ _ _)); (first | (k_unfold; (try dsimp only)) | (k_end; wrow_close) | walk1 | (dsimp only; walk1) | (leave1; try dsimp only)))
        rename Fr _ _ _ _ => F8
        rename News _ _ _ _ => N8
        obtain ⟨m8, em8⟩ := fr_map F8
        obtain ⟨r8, er8⟩ := news_all N8
        refine nam_join (ghostOf s1.heap [(813, 809), (931, 927)]) s1.heap.objs.size (fun m => ∃ q, m = fun y => if y = Str.ofString "most" then some (Value.int (most A Ln sp (t2 + (k : Int))) q) else m8 y) r8 ?_ ?_
        · subst em8 er8
          repeat' (first | (k_unfold; (try dsimp only)) | (k_end; wrow_close) | walk1 | (dsimp only; walk1) | (leave1; try dsimp only))
          · rename 0 < sp => hw
            have e9 : most A Ln sp (t2 + (k : Int)) = sms A Ln (sp - 1).toNat + A - (ful A Ln (sp - 1).toNat * (Ln - (t2 + (k : Int)).fmod Ln)).fdiv Ln := by
              unfold most lft
              rw [if_pos hw, Int.fdiv_eq_ediv_of_nonneg _ (by omega : 0 ≤ Ln), Int.fmod_eq_emod_of_nonneg _ (by omega : 0 ≤ Ln)]
            exact ⟨rfl, _, _, _, rfl, by k_asm, by k_asm, _, by rw [e9]; rfl⟩
          · rename ¬ 0 < sp => hw
            have e9 : most A Ln sp (t2 + (k : Int)) = A := by unfold most; rw [if_neg hw]
            exact ⟨rfl, _, _, _, rfl, by k_asm, by k_asm, _, by rw [e9]; exact map_keep1 rfl⟩
        · rintro h9 tk9 m9 F9 N9 ⟨qm, rfl⟩
          clear F8 N8
          subst em8 er8
          dsimp only
          repeat' ((fail_if_success (with_reducible show wpAny _ _ (compareOp CmpOp.NotIn _ _) _ _ _)); (first | (k_unfold; (try dsimp only)) | (k_end; wrow_close) | walk1 | (dsimp only; walk1) | (leave1; try dsimp only)))
          repeat' ((fail_if_success (with_reducible show wpAny _ _ (truthy (Value.bool _)) _ _ _)); (first | (k_unfold; (try dsimp only)) | (k_end; wrow_close) | walk1 | (dsimp only; walk1) | (leave1; try dsimp only)))
          refine tru_gen fun r0 er0 => ?_
          obtain rfl : r0 = true := er0.trans (not_any3 na nb nc)
          clear er0
          (first | (k_unfold; (try dsimp only)) | (k_end; wrow_close) | walk1 | (dsimp only; walk1) | (leave1; try dsimp only))
          repeat' ((fail_if_success (with_reducible show wpAny _ _ (storeName _ _ (Value.bool _)) _ _ _)); (first | (k_unfold; (try dsimp only)) | (k_end; wrow_close) | walk1 | (dsimp only; walk1) | (leave1; try dsimp only)))
          refine stoB_gen fun r1 er1 => ?_
          obtain rfl : r1 = true := er1.trans (decide_eq_true hTs)
          clear er1
          (first | (k_unfold; (try dsimp only)) | (k_end; wrow_close) | walk1 | (dsimp only; walk1) | (leave1; try dsimp only))
          repeat' ((fail_if_success (with_reducible show wpAny _ _ (storeName _ _ (Value.bool _)) _ _ _)); (first | (k_unfold; (try dsimp only)) | (k_end; wrow_close) | walk1 | (dsimp only; walk1) | (leave1; try dsimp only)))
          refine stoB_gen fun r2 er2 => ?_
          have e2 : fr + rb = A * (1 + (k : Int) + Ln - 1).fdiv Ln := by
            rw [hTf, Int.fdiv_eq_ediv_of_nonneg _ (by omega : 0 ≤ Ln), show ((k + 1 : Nat) : Int) = 1 + (k : Int) by omega]
          obtain rfl : r2 = true := er2.trans (decide_eq_true e2)
          clear er2
          (first | (k_unfold; (try dsimp only)) | (k_end; wrow_close) | walk1 | (dsimp only; walk1) | (leave1; try dsimp only))
          repeat' ((fail_if_success (with_reducible show wpAny _ _ (storeName _ _ (Value.bool _)) _ _ _)); (first | (k_unfold; (try dsimp only)) | (k_end; wrow_close) | walk1 | (dsimp only; walk1) | (leave1; try dsimp only)))
          refine stoB_gen fun r3 er3 => ?_
          have e3 : ea + ra = A - 1 + A * (1 + (k : Int) + Ln - 2).fdiv Ln := by
            rw [hTe, Int.fdiv_eq_ediv_of_nonneg _ (by omega : 0 ≤ Ln), show ((k + 1 : Nat) : Int) = 1 + (k : Int) by omega]
          obtain rfl : r3 = true := er3.trans (decide_eq_true e3)
          clear er3
          (first | (k_unfold; (try dsimp only)) | (k_end; wrow_close) | walk1 | (dsimp only; walk1) | (leave1; try dsimp only))
          repeat' ((fail_if_success (with_reducible show wpAny _ _ (setItem _ _ _) _ _ _)); (first | (k_unfold; (try dsimp only)) | (k_end; wrow_close) | walk1 | (dsimp only; walk1) | (leave1; try dsimp only)))
          refine set_gen fun t3 et3 => ?_
          have ht3 : t3 = t2 + ((k + 1 : Nat) : Int) := by
            have e4 : t3 = t2 + (k : Int) + 1 := et3
            omega
          subst ht3
          clear et3
          repeat' ((fail_if_success (with_reducible show UnrEnd _ _ _ _ _ _ _)); (first | (k_unfold; (try dsimp only)) | (k_end; wrow_close) | walk1 | (dsimp only; walk1) | (leave1; try dsimp only)))
          refine' UnrEnd.intro ?qF ?qN ((S, cntO dS _ _) :: (X, dictOf _ _) :: (now, listOf #[Value.int (t2 + ((k + 1 : Nat) : Int)) _] nn2) :: (su, _) :: (fu, _) :: (fx2, _) :: (fxd2, _) :: (fx1, _) :: (fxd1, _) :: (it, _) :: (itd, _) :: (EV, _) :: (dS, _) :: (st, _) :: (sd, _) :: (lam, _) :: (cc, _) :: (s1.heap.objs.size + 1, _) :: (809, _) :: [(927, _)]) ?qS ?qO ?qR
          (case qF => k_asm)
          (case qN => k_asm)
          (case qS => exact SubL.mem (by k_subL))
          (case qO => exact off_fst hof5 rfl)
          refine rrest_map (mapL_canon (M := M1) [Str.ofString "right", Str.ofString "early", Str.ofString "fresh", Str.ofString "slid", Str.ofString "span", Str.ofString "takes", Str.ofString "steps", Str.ofString "most"] ?_) (ih5 (k + 1) _ _ _ _ _ _ _ _ _ _ _ _ _ _ _ _ _ (by omega) hF6 (StRep.mono (StRep.later HR6 (by omega)) (by omega)) ((CB.sTake (CB.fTake (CB.fTake hCB5 hA) hA) hA hL).mono (by omega)))
          intro y hy
          simp only [List.mem_cons, not_or] at hy
          obtain ⟨g1, g2, g3, g4, g5, g6, g7, g8, -⟩ := hy
          rw [eM1]
          simp only [if_neg g1, if_neg g2, if_neg g3, if_neg g4, if_neg g5, if_neg g6, if_neg g7, if_neg g8]
    | cons v vr ih =>
      intro nsr i t tt nn sg esS nS esX nX refs cs stry tl spent ends W b h q1 q2 q3 q4 q5 o1 o2 o3 o4 o5 o6 o7 o8 o9 o10 o11 o12 hv hi HI HR SA hlen a1 a2 a3 a4 a5
      obtain ⟨x, tv, nsr2, rfl, rfl, hv2⟩ : ∃ x tv nsr2, v = Value.int x tv ∧ nsr = x :: nsr2 ∧ IntsAre vr nsr2 := by
        cases hv with
        | cons n t r => exact ⟨_, _, _, rfl, rfl, r⟩
      clear hv
      refine ListRest.succ (fun itx h7 tk7 hc7 F7 N7 => ?_)
      rw [eM0] at F7
      have hTok : TokOn := trivial
      have ord : @LT.lt Nat _ 1 (s1.heap.objs.size + 1) ∧ @LT.lt Nat _ (s1.heap.objs.size + 1) now ∧ @LT.lt Nat _ now cc ∧ @LT.lt Nat _ cc lam ∧ @LT.lt Nat _ lam sd ∧ @LT.lt Nat _ sd st ∧ @LT.lt Nat _ st dS ∧ @LT.lt Nat _ dS S ∧ @LT.lt Nat _ S X ∧ @LT.lt Nat _ X EV := by
        clear ih F7 N7
        refine ⟨?_, ?_, ?_, ?_, ?_, ?_, ?_, ?_, ?_, ?_⟩ <;> omega
      have ord2 : @LT.lt Nat _ X fx1 ∧ @LT.lt Nat _ X fxd1 ∧ @LT.lt Nat _ X it ∧ @LT.lt Nat _ X itd := by
        refine ⟨?_, ?_, ?_, ?_⟩ <;> omega
      have ord3 : @LT.lt Nat _ X fx2 ∧ @LT.lt Nat _ X fxd2 ∧ @LT.lt Nat _ X it ∧ @LT.lt Nat _ X itd := by
        refine ⟨?_, ?_, ?_, ?_⟩ <;> omega
      have hid1 : List.lookup 915 (Mine.hd.heap_39 w.params) = some (tup1 (Str.ofString "ann") 1673) := by kernel_rfl
      have hnm1 : (Str.ofString "ann").length ≤ 5 := by decide +kernel
      have hi7 : i + nsr2.length = 6 := by rw [List.length_cons] at hi; omega
      repeat' ((fail_if_success (with_reducible show wpAny _ _ (setItem _ _ _) _ _ _)); (first | (k_unfold; (try dsimp only)) | (k_end; wrow_close) | walk1 | (dsimp only; walk1) | (leave1; try dsimp only)))
      refine set_gen fun t2 et2 => ?_
      have ht2 : t ≤ t2 ∧ t2 ≤ t + (2 * Ln - 1) := by
        have z := gap_bnd hL (x.fmod 8).toNat
        rw [et2]
        show t ≤ t + _ ∧ t + _ ≤ _
        omega
      clear et2
      repeat' ((fail_if_success (with_reducible show wpAny _ _ (storeName _ _ (Value.int _ _)) _ _ _)); (first | (k_unfold; (try dsimp only)) | (k_end; wrow_close) | walk1 | (dsimp only; walk1) | (leave1; try dsimp only)))
      refine sto_gen fun cost ec => ?_
      have hco : 1 ≤ cost ∧ cost ≤ A + 1 := by
        have z := fm_bnd2 (x := x.fdiv 8) 1 (A + 1) (by omega)
        rw [ec]; omega
      have hco6 : 1 ≤ cost ∧ cost ≤ 6 := by omega
      clear ec
      have ht0 : 10 ≤ t2 ∧ t2 ≤ 5000 := by
        have z1 := HI.t0; have z2 := HI.t1
        have z3 : (i : Int) * (2 * Ln - 1) ≤ 6 * 11 := Int.mul_le_mul (by omega) (by omega) (by omega) (by omega)
        omega
      have HR2 := HR.later ht2.1
      clear HR
      repeat' ((fail_if_success (with_reducible show wpAny _ _ (exec (Stmt.If _ _ _ _) _) _ _ _)); (first | (k_unfold; (try dsimp only)) | (k_end; wrow_close) | walk1 | (dsimp only; walk1) | (leave1; try dsimp only)))
      rename Fr _ _ _ _ => F8
      rename News _ _ _ _ => N8
      obtain ⟨m8, em8⟩ := fr_map F8
      obtain ⟨r8, er8⟩ := news_cut4 N8
      refine sto_join w (ghostOf s1.heap [(813, 809), (931, 927)]) s1.heap.objs.size m8 S dS X [(I2, itx), (sy, listOf refs.toArray cs)] r8 sg t2 (20 * i) ?_ ?_
      · clear ih hof6 SA hv2
        subst em8 er8
        repeat' (first | (k_unfold; (try dsimp only)) | (k_end; wrow_close) | walk1 | (dsimp only; walk1) | (leave1; try dsimp only))
        all_goals exact ⟨rfl, _, _, _, _, _, _, rfl, by k_asm, news_of (by k_asm) (SubL.mem (by dsimp only [List.cons_append, List.nil_append]; k_subL)), by k_asm⟩
      · intro h9 tk9 esS9 nS9 esX9 nX9 F9 N9 HR9
        clear F8 N8 HR2 F7 N7
        subst em8 er8
        dsimp only [List.cons_append, List.nil_append] at N9
        dsimp only
        have hcb0 := HI.cb
        repeat' ((fail_if_success (with_reducible show wpAny _ _ (newList _) _ _ _)); (first | (k_unfold; (try dsimp only)) | (k_end; wrow_close) | walk1 | (dsimp only; walk1) | (leave1; try dsimp only)))
        refine list2_gen fun b0 b1 eb0 eb1 => ?_
        have Hh := HI.hits (keys_ann hA hL) hA hL ht2.1 hco
        have E0 := eb0.trans Hh.l0
        have E1 := eb1.trans Hh.l1
        rw [← E0, ← E1] at Hh
        rename StRep _ _ _ _ _ _ => HR10
        rw [← eb1, curK_eq hL] at HR10
        clear eb0 eb1 E0 E1
        repeat' ((fail_if_success (with_reducible show wpAny _ _ (exec (Stmt.If _ _ _ _) _) _ _ _)); (first | (k_unfold; (try dsimp only)) | (k_end; wrow_close) | walk1 | (dsimp only; walk1) | (leave1; try dsimp only)))
        rename Fr _ _ _ _ => F8
        rename News _ _ _ _ => N8
        obtain ⟨m8, em8⟩ := fr_map F8
        obtain ⟨r8, er8⟩ := news_all N8
        refine nam_join (ghostOf s1.heap [(813, 809), (931, 927)]) s1.heap.objs.size (fun m => ∃ q q', m = fun y => if y = Str.ofString "spent" then some (Value.int (opn ends t2 0 spent) q) else if y = Str.ofString "ends" then some (Value.int (opn ends t2 (t2 + Ln) ends) q') else m8 y) r8 ?_ ?_
        · subst em8 er8
          repeat' (first | (k_unfold; (try dsimp only)) | (k_end; wrow_close) | walk1 | (dsimp only; walk1) | (leave1; try dsimp only))
          · rename ends ≤ _ => he
            exact ⟨rfl, _, _, _, rfl, by k_asm, by k_asm, _, _, by unfold opn; have he2 : ends ≤ t2 := he; rw [if_pos he2, if_pos he2]; rfl⟩
          · rename ¬ ends ≤ _ => he
            exact ⟨rfl, _, _, _, rfl, by k_asm, by k_asm, _, _, by unfold opn; have he2 : ¬ ends ≤ t2 := he; rw [if_neg he2, if_neg he2]; exact map_keep2 rfl rfl⟩
        · rintro h9 tk9 m9 F9 N9 ⟨q2a, q1a, rfl⟩
          clear F8 N8
          subst em8 er8
          dsimp only
          repeat' ((fail_if_success (with_reducible show wpAny _ _ (exec (Stmt.If _ _ _ _) _) _ _ _)); (first | (k_unfold; (try dsimp only)) | (k_end; wrow_close) | walk1 | (dsimp only; walk1) | (leave1; try dsimp only)))
          rename Fr _ _ _ _ => F8
          rename News _ _ _ _ => N8
          obtain ⟨m8, em8⟩ := fr_map F8
          obtain ⟨r8, er8⟩ := news_all N8
          have ed : t2.fdiv Ln = t2 / Ln := Int.fdiv_eq_ediv_of_nonneg _ (by omega)
          have eW : W ≤ t2 / Ln := Int.le_trans HI.sb.wt (Int.ediv_le_ediv (by omega) ht2.1)
          refine nam_join (ghostOf s1.heap [(813, 809), (931, 927)]) s1.heap.objs.size (fun m => ∃ q q' q3, m = fun y => if y = Str.ofString "window" then some (Value.int (t2 / Ln) q) else if y = Str.ofString "here" then some (Value.int (rollH W (t2 / Ln) h) q') else if y = Str.ofString "before" then some (Value.int (rollB W (t2 / Ln) b h) q3) else m8 y) r8 ?_ ?_
          · subst em8 er8
            repeat' (first | (k_unfold; (try dsimp only)) | (k_end; wrow_close) | walk1 | (dsimp only; walk1) | (leave1; try dsimp only))
            · rename W < _ => hw1
              rename _ = W + 1 => hw3
              have hw2 : W < t2.fdiv Ln := hw1
              have hw4 : t2.fdiv Ln = W + 1 := hw3
              rw [ed] at hw2 hw4
              exact ⟨rfl, _, _, _, rfl, by k_asm, by k_asm, _, _, _, by unfold rollB rollH; rw [if_pos hw2, if_pos hw2, if_pos hw4, ← ed]; rfl⟩
            · rename W < _ => hw1
              rename ¬ _ = W + 1 => hw3
              have hw2 : W < t2.fdiv Ln := hw1
              have hw4 : ¬ t2.fdiv Ln = W + 1 := hw3
              rw [ed] at hw2 hw4
              exact ⟨rfl, _, _, _, rfl, by k_asm, by k_asm, _, _, _, by unfold rollB rollH; rw [if_pos hw2, if_pos hw2, if_neg hw4, ← ed]; rfl⟩
            · rename ¬ W < _ => hw1
              have hw2 : ¬ W < t2.fdiv Ln := hw1
              rw [ed] at hw2
              have hw5 : t2 / Ln = W := by omega
              exact ⟨rfl, _, _, _, rfl, by k_asm, by k_asm, _, _, _, by unfold rollB rollH; rw [if_neg hw2, if_neg hw2, hw5]; exact map_keep3 rfl rfl rfl⟩
          · rintro h9 tk9 m9 F9 N9 ⟨q3a, q5a, q4a, rfl⟩
            clear F8 N8
            subst em8 er8
            dsimp only
            have hSB := HI.sb.roll hA hL ht2.1
            have hrb : 0 ≤ rollB W (t2 / Ln) b h ∧ rollB W (t2 / Ln) b h ≤ A := ⟨hSB.b0, hSB.bA⟩
            repeat' ((fail_if_success (with_reducible show wpAny _ _ (storeName _ _ (Value.bool _)) _ _ _)); (first | (k_unfold; (try dsimp only)) | (k_end; wrow_close) | walk1 | (dsimp only; walk1) | (leave1; try dsimp only)))
            refine stoB_gen fun ft eft => ?_
            have hft : ft = b1 := by
              have e9 := Hh.e1
              rw [show t2 % Ln = t2.fmod Ln from (Int.fmod_eq_emod_of_nonneg _ (by omega)).symm] at e9
              exact eft.trans e9
            subst hft
            clear eft
            clear hrb hSB
            repeat' ((fail_if_success (with_reducible show wpAny _ _ (exec (Stmt.If _ _ _ _) _) _ _ _)); (first | (k_unfold; (try dsimp only)) | (k_end; wrow_close) | walk1 | (dsimp only; walk1) | (leave1; try dsimp only)))
            rename Fr _ _ _ _ => F8
            rename News _ _ _ _ => N8
            obtain ⟨m8, em8⟩ := fr_map F8
            obtain ⟨r8, er8⟩ := news_all N8
            refine nam_join (ghostOf s1.heap [(813, 809), (931, 927)]) s1.heap.objs.size (fun m => ∃ q, m = fun y => if y = Str.ofString "here" then some (Value.int (if ft then rollH W (t2 / Ln) h + cost else rollH W (t2 / Ln) h) q) else m8 y) r8 ?_ ?_
            · subst em8 er8
              repeat' (first | (k_unfold; (try dsimp only)) | (k_end; wrow_close) | walk1 | (dsimp only; walk1) | (leave1; try dsimp only))
              · rename ft = true => hb
                exact ⟨rfl, _, _, _, rfl, by k_asm, by k_asm, _, by rw [hb]; rfl⟩
              · rename ft = false => hb
                exact ⟨rfl, _, _, _, rfl, by k_asm, by k_asm, _, by rw [hb]; exact map_keep1 rfl⟩
            · rintro h9 tk9 m9 F9 N9 ⟨q5b, rfl⟩
              clear F8 N8
              subst em8 er8
              dsimp only
              repeat' ((fail_if_success (with_reducible show wpAny _ _ (eval (Expr.IfExp _ _ _ _) _) _ _ _)); (first | (k_unfold; (try dsimp only)) | (k_end; wrow_close) | walk1 | (dsimp only; walk1) | (leave1; try dsimp only)))
              rename_i ll x289 x290 x291 x292 x293 x294 x297 x298 x301 x302 x306 x310 x311 tq8
              have hrl : refs.length ≤ 1000 := by rw [SA.len, hlen]; omega
              rename Fr _ _ _ _ => F8
              rename News _ _ _ _ => N8
              obtain ⟨m8, em8⟩ := fr_map F8
              obtain ⟨r8, er8⟩ := news_all N8
              refine exp_join (ghostOf s1.heap [(813, 809), (931, 927)]) s1.heap.objs.size (fun v => ∃ q, v = Value.int (if b0 then cost else 0) q) m8 r8 ?_ ?_
              · subst em8 er8
                repeat' (first | (k_unfold; (try dsimp only)) | (k_end; wrow_close) | walk1 | (dsimp only; walk1) | (leave1; try dsimp only))
                · rename b0 = true => hb
                  exact ⟨⟨_, by rw [hb]; rfl⟩, _, _, rfl, by k_asm, by k_asm⟩
                · rename b0 = false => hb
                  exact ⟨⟨_, by rw [hb]; rfl⟩, _, _, rfl, by k_asm, by k_asm⟩
              · rintro v9 h9 tk9 ⟨qeb0, rfl⟩ F9 N9
                clear F8 N8
                subst em8 er8
                repeat' ((fail_if_success (with_reducible show wpAny _ _ (eval (Expr.IfExp _ _ _ _) _) _ _ _)); (first | (k_unfold; (try dsimp only)) | (k_end; wrow_close) | walk1 | (dsimp only; walk1) | (leave1; try dsimp only)))
                rename Fr _ _ _ _ => F8
                rename News _ _ _ _ => N8
                obtain ⟨m8, em8⟩ := fr_map F8
                obtain ⟨r8, er8⟩ := news_all N8
                refine exp_join (ghostOf s1.heap [(813, 809), (931, 927)]) s1.heap.objs.size (fun v => ∃ q, v = Value.int (if ft then cost else 0) q) m8 r8 ?_ ?_
                · subst em8 er8
                  repeat' (first | (k_unfold; (try dsimp only)) | (k_end; wrow_close) | walk1 | (dsimp only; walk1) | (leave1; try dsimp only))
                  · rename ft = true => hb
                    exact ⟨⟨_, by rw [hb]; rfl⟩, _, _, rfl, by k_asm, by k_asm⟩
                  · rename ft = false => hb
                    exact ⟨⟨_, by rw [hb]; rfl⟩, _, _, rfl, by k_asm, by k_asm⟩
                · rintro v9 h9 tk9 ⟨qeft, rfl⟩ F9 N9
                  clear F8 N8
                  subst em8 er8
                  repeat' ((fail_if_success (with_reducible show wpAny _ _ (call (Value.type _) [Value.ref _]) _ _ _)); (first | (k_unfold; (try dsimp only)) | (k_end; wrow_close) | walk1 | (dsimp only; walk1) | (leave1; try dsimp only)))
                  rename Fr _ _ _ _ => F8
                  rename News _ _ _ _ => N8
                  refine' krv_reversed F8 N8 (News.isList N8 (by k_mem)) ?_
                  intro I3 h9 F9 N9 lI3
                  have hof3 := allLt_ne lI3
                  clear F8 N8
                  dsimp only
                  rename_i Tn w324 lTn w326 w328 w329 w330 w331
                  refine' iter_revTurns ?jh F9 N9 hof3 ?jm ?jc ?jd ?_
                  (case jh => rfl)
                  (case jm => k_mem)
                  (case jc => rfl)
                  (case jd => rfl)
                  refine irest_weaken (news1 := (ll, _) :: (I2, itx) :: (sy, listOf (refs ++ [Value.ref Tn]).toArray (cs + 1)) :: (S, _) :: (X, _) :: (now, _) :: (Dv, _) :: (su, _) :: (fu, _) :: (gp, _) :: (fx2, _) :: (fxd2, _) :: (fx1, _) :: (fxd1, _) :: (it, _) :: (itd, _) :: (EV, _) :: (dS, _) :: (st, _) :: (sd, _) :: (lam, _) :: (cc, _) :: (s1.heap.objs.size + 1, _) :: (809, _) :: (927, _) :: (Tn, tup3 t2 (if b0 = true then cost else 0) (if ft = true then cost else 0) tq8 qeb0 qeft) :: tl) (by k_subL) ?_
                  have hof4 : ∀ p ∈ ((ll, _) :: (I2, itx) :: (sy, listOf (refs ++ [Value.ref Tn]).toArray (cs + 1)) :: (S, _) :: (X, _) :: (now, _) :: (Dv, _) :: (su, _) :: (fu, _) :: (gp, _) :: (fx2, _) :: (fxd2, _) :: (fx1, _) :: (fxd1, _) :: (it, _) :: (itd, _) :: (EV, _) :: (dS, _) :: (st, _) :: (sd, _) :: (lam, _) :: (cc, _) :: (s1.heap.objs.size + 1, _) :: (809, _) :: (927, _) :: (Tn, tup3 t2 (if b0 = true then cost else 0) (if ft = true then cost else 0) tq8 qeb0 qeft) :: tl), p.1 ≠ I3 := subl_sub (by k_subL) (P := fun a => a ≠ I3) hof3
                  clear hof3 lI3 N9
                  obtain ⟨M, eM⟩ := fr_map F9
                  refine irest_map (mapL_canon (M := M) [Str.ofString "right", Str.ofString "had", Str.ofString "slid", Str.ofString "moment", Str.ofString "one", Str.ofString "other", Str.ofString "span", Str.ofString "steps", Str.ofString "most"] (fun y _ => (congrFun eM y).symm)) ?_
                  dsimp only [mapL, List.map_cons, List.map_nil]
                  have HT := HI.turn (keys_ann hA hL) hA hL ht2.1 ht2.2 (by omega) hco Hh
                  refine (fun (G : ∀ (vr : List Value) (sr : List (Int × Int × Int)) (H Sl : Int) (qa qb : Tok) (p1 p2 p3 p4 p5 p6 : Option Value),
                      StoryAre ((Tn, tup3 t2 (if b0 = true then cost else 0) (if ft = true then cost else 0) tq8 qeb0 qeft) :: tl) vr sr → sufs (Chk A Ln t2 T0) H Sl sr →
                      ItemsRest _ _ _ _ _ _ _ _ _ _ _ _ (vr.map .val) (fun y => if y = Str.ofString "right" then some (Value.bool true) else if y = Str.ofString "had" then some (Value.int H qa) else if y = Str.ofString "slid" then some (Value.int Sl qb) else if y = Str.ofString "moment" then p1 else if y = Str.ofString "one" then p2 else if y = Str.ofString "other" then p3 else if y = Str.ofString "span" then p4 else if y = Str.ofString "steps" then p5 else if y = Str.ofString "most" then p6 else M y) ((ll, _) :: (I2, itx) :: (sy, listOf (refs ++ [Value.ref Tn]).toArray (cs + 1)) :: (S, _) :: (X, _) :: (now, _) :: (Dv, _) :: (su, _) :: (fu, _) :: (gp, _) :: (fx2, _) :: (fxd2, _) :: (fx1, _) :: (fxd1, _) :: (it, _) :: (itd, _) :: (EV, _) :: (dS, _) :: (st, _) :: (sd, _) :: (lam, _) :: (cc, _) :: (s1.heap.objs.size + 1, _) :: (809, _) :: (927, _) :: (Tn, tup3 t2 (if b0 = true then cost else 0) (if ft = true then cost else 0) tq8 qeb0 qeft) :: tl)) =>
                    G (refs ++ [Value.ref Tn]).reverse (stry ++ [(t2, if b0 = true then cost else 0, if ft = true then cost else 0)]).reverse 0 0 _ _ _ _ _ _ _ _ (StoryAre.rev (StoryAre.snoc SA)) HT.2) ?_
                  clear F9
                  intro vr
                  induction vr with
                  | nil =>
                    intro sr H Sl qa qb p1 p2 p3 p4 p5 p6 hsr hsu
                    refine (fun h10 tk10 F10 N10 => ?_)
                    subst eM
                    dsimp only
                    repeat' ((fail_if_success (with_reducible show wpAny _ _ (storeName _ _ (Value.bool _)) _ _ _)); (first | (k_unfold; (try dsimp only)) | (k_end; wrow_close) | walk1 | (dsimp only; walk1) | (leave1; try dsimp only)))
                    refine stoB_gen fun r3 er3 => ?_
                    obtain rfl : r3 = true := er3.trans (by rw [Hh.e0]; exact beq_self_eq_true b0)
                    clear er3
                    repeat' ((fail_if_success (with_reducible show UnrEnd _ _ _ _ _ _ _)); (first | (k_unfold; (try dsimp only)) | (k_end; wrow_close) | walk1 | (dsimp only; walk1) | (leave1; try dsimp only)))
                    refine' UnrEnd.intro ?eF ?eN ((sy, listOf (refs ++ [Value.ref Tn]).toArray (cs + 1)) :: (S, cntO dS _ _) :: (X, dictOf _ _) :: (now, listOf #[Value.int t2 _] nn) :: (Dv, listOf wv.toArray _) :: (su, _) :: (fu, _) :: (gp, _) :: (fx2, _) :: (fxd2, _) :: (fx1, _) :: (fxd1, _) :: (it, _) :: (itd, _) :: (EV, _) :: (dS, _) :: (st, _) :: (sd, _) :: (lam, _) :: (cc, _) :: (s1.heap.objs.size + 1, _) :: (809, _) :: (927, _) :: (Tn, tup3 t2 (if b0 = true then cost else 0) (if ft = true then cost else 0) tq8 qeb0 qeft) :: tl) ?eS ?eO ⟨?eK, ?eR⟩
                    (case eF => k_asm)
                    (case eN => k_asm)
                    (case eS => exact SubL.mem (by k_subL))
                    (case eO => exact off_fst2 (f := [(sy, _), (S, _), (X, _), (now, _), (Dv, _), (su, _), (fu, _), (gp, _), (fx2, _), (fxd2, _), (fx1, _), (fxd1, _), (it, _), (itd, _), (EV, _), (dS, _), (st, _), (sd, _), (lam, _), (cc, _), (s1.heap.objs.size + 1, _), (809, _), (927, _)]) hof6 rfl (List.forall_mem_cons.mpr ⟨Nat.ne_of_gt lTn.2.1, a5⟩))
                    (case eK => k_mem)
                    refine lrest_map (mapL_canon (M := M0) [Str.ofString "right", Str.ofString "ends", Str.ofString "spent", Str.ofString "window", Str.ofString "before", Str.ofString "here", Str.ofString "v", Str.ofString "cost", Str.ofString "let", Str.ofString "fits", Str.ofString "had", Str.ofString "slid", Str.ofString "moment", Str.ofString "one", Str.ofString "other", Str.ofString "span", Str.ofString "steps", Str.ofString "most"] ?_) (ih nsr2 (i + 1) t2 _ _ _ _ _ _ _ _ _ _ _ _ _ _ _ _ _ _ _ _ _ _ _ _ _ _ _ _ _ _ _ _ _ hv2 (len7 hi7) HT.1 (StRep.mono HR10 le20) (StoryAre.snoc SA) (by rw [List.length_append, hlen]; rfl) (List.forall_mem_cons.mpr ⟨Nat.ne_of_gt lTn.2.2.1, a1⟩) (List.forall_mem_cons.mpr ⟨Nat.ne_of_gt lTn.2.2.2.1, a2⟩) (List.forall_mem_cons.mpr ⟨Nat.ne_of_gt lTn.2.2.2.2.1, a3⟩) (List.forall_mem_cons.mpr ⟨Nat.ne_of_gt lTn.2.2.2.2.2.1, a4⟩) (List.forall_mem_cons.mpr ⟨Nat.ne_of_gt lTn.2.1, a5⟩))
                    intro y hy
                    simp only [List.mem_cons, not_or] at hy
                    obtain ⟨g1, g2, g3, g4, g5, g6, g7, g8, g9, g10, g11, g12, g13, g14, g15, g16, g17, g18, -⟩ := hy
                    rw [eM0]
                    simp only [if_neg g1, if_neg g2, if_neg g3, if_neg g4, if_neg g5, if_neg g6, if_neg g7, if_neg g8, if_neg g9, if_neg g10, if_neg g11, if_neg g12, if_neg g13, if_neg g14, if_neg g15, if_neg g16, if_neg g17, if_neg g18]
                  | cons v0 vr ih2 =>
                    intro sr H Sl qa qb p1 p2 p3 p4 p5 p6 hsr hsu
                    obtain ⟨mo, on, ot, sr2, rfl⟩ : ∃ mo on ot sr2, sr = (mo, on, ot) :: sr2 := by
                      cases sr with
                      | nil => exact hsr.elim
                      | cons p r => exact ⟨p.1, p.2.1, p.2.2, r, rfl⟩
                    obtain ⟨⟨T, u1, u2, u3, rfl, hTm⟩, hsr⟩ := hsr
                    obtain ⟨hck, hsu⟩ := hsu
                    refine irest_succ (fun itr h10 tk10 hcr F10 N10 => ?_)
                    have hTu : IsTup h10 T #[Value.int mo u1, Value.int on u2, Value.int ot u3] := News.isTup N10 (by
                      rcases List.mem_cons.mp hTm with e | e
                      · rw [e]; simp only [List.mem_cons]; repeat' (first | exact .inl rfl | exact .inl trivial | refine .inr ?_)
                      · simp only [List.mem_cons]; repeat' (first | exact .inr e | refine .inr ?_))
                    rw [eM] at F10
                    have hfm : 0 ≤ t2.fmod Ln ∧ t2.fmod Ln < Ln := by
                      rw [Int.fmod_eq_emod_of_nonneg _ (by omega)]
                      exact ⟨Int.emod_nonneg _ (by omega), Int.emod_lt_of_pos _ (by omega)⟩
                    repeat' ((fail_if_success (with_reducible show wpAny _ _ (exec (Stmt.Assign [Expr.Name (PySem.Str.ofString "steps") _] _ _) _) _ _ _)); (first | (k_unfold; (try dsimp only)) | (k_end; wrow_close) | walk1 | (dsimp only; walk1) | (leave1; try dsimp only)))
                    repeat' ((fail_if_success (with_reducible show wpAny _ _ (storeName _ _ (Value.int _ _)) _ _ _)); (first | (k_unfold; (try dsimp only)) | (k_end; wrow_close) | walk1 | (dsimp only; walk1) | (leave1; try dsimp only)))
                    refine sto_gen fun sp esp => ?_
                    have hsp : sp = t2 / Ln - mo / Ln := by
                      rw [← Int.fdiv_eq_ediv_of_nonneg t2 (by omega : 0 ≤ Ln), ← Int.fdiv_eq_ediv_of_nonneg mo (by omega : 0 ≤ Ln)]; exact esp
                    clear esp
                    obtain ⟨hc1, hc2, hc3, hc4, hc5⟩ := hck
                    rw [← hsp] at hc3 hc4
                    have hsp2 : sp ≤ 14 := hc3
                    clear hsp
                    repeat' ((fail_if_success (with_reducible show wpAny _ _ (exec (Stmt.If _ _ _ _) _) _ _ _)); (first | (k_unfold; (try dsimp only)) | (k_end; wrow_close) | walk1 | (dsimp only; walk1) | (leave1; try dsimp only)))
                    rename Fr _ _ _ _ => F8
                    rename News _ _ _ _ => N8
                    obtain ⟨m8, em8⟩ := fr_map F8
                    obtain ⟨r8, er8⟩ := news_all N8
                    refine nam_join (ghostOf s1.heap [(813, 809), (931, 927)]) s1.heap.objs.size (fun m => ∃ q, m = fun y => if y = Str.ofString "most" then some (Value.int (most A Ln sp t2) q) else m8 y) r8 ?_ ?_
                    · subst em8 er8
                      repeat' (first | (k_unfold; (try dsimp only)) | (k_end; wrow_close) | walk1 | (dsimp only; walk1) | (leave1; try dsimp only))
                      · rename 0 < sp => hw
                        have e9 : most A Ln sp t2 = sms A Ln (sp - 1).toNat + A - (ful A Ln (sp - 1).toNat * (Ln - t2.fmod Ln)).fdiv Ln := by
                          unfold most lft
                          rw [if_pos hw, Int.fdiv_eq_ediv_of_nonneg _ (by omega : 0 ≤ Ln), Int.fmod_eq_emod_of_nonneg _ (by omega : 0 ≤ Ln)]
                        exact ⟨rfl, _, _, _, rfl, by k_asm, by k_asm, _, by rw [e9]; rfl⟩
                      · rename ¬ 0 < sp => hw
                        have e9 : most A Ln sp t2 = A := by unfold most; rw [if_neg hw]
                        exact ⟨rfl, _, _, _, rfl, by k_asm, by k_asm, _, by rw [e9]; exact map_keep1 rfl⟩
                    · rintro h9 tk9 m9 F9 N9 ⟨qm, rfl⟩
                      clear F8 N8
                      subst em8 er8
                      dsimp only
                      repeat' ((fail_if_success (with_reducible show wpAny _ _ (storeName _ _ (Value.bool _)) _ _ _)); (first | (k_unfold; (try dsimp only)) | (k_end; wrow_close) | walk1 | (dsimp only; walk1) | (leave1; try dsimp only)))
                      refine stoB_gen fun r1 er1 => ?_
                      obtain rfl : r1 = true := er1.trans (decide_eq_true hc4)
                      clear er1
                      (first | (k_unfold; (try dsimp only)) | (k_end; wrow_close) | walk1 | (dsimp only; walk1) | (leave1; try dsimp only))
                      repeat' ((fail_if_success (with_reducible show wpAny _ _ (storeName _ _ (Value.bool _)) _ _ _)); (first | (k_unfold; (try dsimp only)) | (k_end; wrow_close) | walk1 | (dsimp only; walk1) | (leave1; try dsimp only)))
                      refine stoB_gen fun r2 er2 => ?_
                      have hle : H + on ≤ if A - 1 + A * (t2 - mo + 1 + Ln - 2).fdiv Ln > A * (t2 - mo + 1 + Ln - 1).fdiv Ln then A - 1 + A * (t2 - mo + 1 + Ln - 2).fdiv Ln else A * (t2 - mo + 1 + Ln - 1).fdiv Ln := by
                        rw [Int.fdiv_eq_ediv_of_nonneg _ (by omega : 0 ≤ Ln), Int.fdiv_eq_ediv_of_nonneg _ (by omega : 0 ≤ Ln)]
                        clear er2
                        generalize A * ((t2 - mo + 1 + Ln - 1) / Ln) = u1 at hc5 ⊢
                        generalize A * ((t2 - mo + 1 + Ln - 2) / Ln) = u2 at hc5 ⊢
                        split <;> omega
                      obtain rfl : r2 = true := er2.trans (decide_eq_true hle)
                      clear er2 hle
                      repeat' ((fail_if_success (with_reducible show UnrEndW _ _ _ _ _ _)); (first | (k_unfold; (try dsimp only)) | (k_end; wrow_close) | walk1 | (dsimp only; walk1) | (leave1; try dsimp only)))
                      refine' UnrEndW.intro ?iF ?iN ((ll, _) :: (I2, itx) :: (sy, listOf (refs ++ [Value.ref Tn]).toArray (cs + 1)) :: (S, _) :: (X, _) :: (now, _) :: (Dv, _) :: (su, _) :: (fu, _) :: (gp, _) :: (fx2, _) :: (fxd2, _) :: (fx1, _) :: (fxd1, _) :: (it, _) :: (itd, _) :: (EV, _) :: (dS, _) :: (st, _) :: (sd, _) :: (lam, _) :: (cc, _) :: (s1.heap.objs.size + 1, _) :: (809, _) :: (927, _) :: (Tn, tup3 t2 (if b0 = true then cost else 0) (if ft = true then cost else 0) tq8 qeb0 qeft) :: tl) ?iI ?iS ?iO ?iR
                      (case iF => k_asm)
                      (case iN => k_asm)
                      (case iI => exact ⟨by k_mem, trivial⟩)
                      (case iS => k_subL)
                      (case iO => exact offW_of hof4)
                      case iR =>
                        refine ⟨⟨by k_mem, trivial⟩, irest_map (mapL_canon (M := M) [Str.ofString "right", Str.ofString "had", Str.ofString "slid", Str.ofString "moment", Str.ofString "one", Str.ofString "other", Str.ofString "span", Str.ofString "steps", Str.ofString "most"] ?_) (ih2 sr2 _ _ _ _ _ _ _ _ _ _ hsr hsu)⟩
                        intro y hy
                        simp only [List.mem_cons, not_or] at hy
                        obtain ⟨g1, g2, g3, g4, g5, g6, g7, g8, g9, -⟩ := hy
                        rw [eM]
                        simp only [if_neg g1, if_neg g2, if_neg g3, if_neg g4, if_neg g5, if_neg g6, if_neg g7, if_neg g8, if_neg g9]
  | succ r ih =>
    intro k vf vs c1 c2 m1 hk hf hs hm
    refine RangeRest.succ (fun t1 h1 tk1 F1 N1 => ?_)
    rw [map_turn hm] at F1
    subst eM
    repeat' ((fail_if_success (with_reducible show UnrEnd _ _ _ _ _ _ _)); (first | (k_unfold; (try dsimp only)) | (k_end; wrow_close) | walk1 | (dsimp only; walk1) | (leave1; try dsimp only)))
    (first | (k_unfold; (try dsimp only)) | (k_end; wrow_close) | walk1 | (dsimp only; walk1) | (leave1; try dsimp only))
    exact ih (k + 1) _ _ _ _ _ (by omega) (by assumption) (by assumption) (fun y hy => if_neg hy)


end Mine
theorem PySem.Challenge.cw_vc0060_01_holds : PySem.Challenge.rw_vc0060_01.Holds :=
  Mine.fin
