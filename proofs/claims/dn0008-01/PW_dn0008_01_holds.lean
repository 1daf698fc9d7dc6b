import PyProof.Rows.All
import Wide.All
import OpenK.AllK
import Wide.FinOn
import Lean
import PySem.Challenge.RW_dn0008_01
set_option Elab.async false
section
open PySem PySem.W PyProof.Rows
set_option Elab.async false
set_option maxRecDepth 100000
set_option maxHeartbeats 8000000
namespace Mine
open_top lawTop for PySem.Challenge.rw_dn0008_01
end Mine
end
section
open Lean PySem PySem.W PyProof.Rows PySem.Calls PySem.Spec PySem.Builtin PySem.Builtin.ObjectAttr
set_option Elab.async false
set_option maxRecDepth 100000
set_option maxHeartbeats 4000000
namespace Mine
section
variable {prog : Program} {w : World} {A : Around} {E : Value → Shared → Prop} {s : Shared} {K : Frag} {x C L : Addr} {h₀ : Heap} {m : Str → Option Value} {ox : Obj} {od : Option Obj} {name : Str} {v : Value} {news : List (Addr × Obj)}

noncomputable def excGet (K : Frag) (C : Addr) : Bool := findIn K (.ref C) "__getattribute__" == some (some (.builtin "BaseException.__getattribute__")) && findIn K (.ref C) "__getattr__" == some none && mroIn K C (.type "BaseException") == some true
theorem excGet_of (h : excGet K C = true) : findIn K (.ref C) "__getattribute__" = some (some (.builtin "BaseException.__getattribute__")) ∧ findIn K (.ref C) "__getattr__" = some none ∧ mroIn K C (.type "BaseException") = some true := by
  unfold excGet at h
  simp only [Bool.and_eq_true, beq_iff_eq] at h
  exact ⟨h.1.1, h.1.2, h.2⟩
theorem ega_bind (self : Value) : bindSpecial (.builtin "BaseException.__getattribute__") self = pure (.builtin "BaseException.__getattribute__", [self]) := F.attr_Exception.ga.bind self
theorem ega_kind : builtinKind "BaseException.__getattribute__" = some .slot := by decide +kernel
theorem ega_split : splitId "BaseException.__getattribute__" = some ("BaseException", "__getattribute__") := by decide +kernel

/-- an attribute of an own exception's own dict -/
theorem get_valueE {expr : Bool} {Q : Value → Shared → Prop} (X : K.In s.heap) (I : InstAt s.heap x ox C od) (hg : excGet K C = true)
    (hf : findObj K C od name = some (.value v)) (hh : handedIn v = true) (h : Q v { s with toks := s.toks + 1 }) : wpAny (model prog w) A (getAttr (.ref x) name expr) Q E s := by
  obtain ⟨g1, g2, g3⟩ := excGet_of hg
  obtain ⟨hp, g, d, t, os⟩ := s
  have L0 := I.type (M := model prog w)
  have L1 := looks_findIn (M := model prog w) X g1
  have L2 := looks_findIn (M := model prog w) X g2
  have L3 : Looks (model prog w) hp (isInstance (.ref x) (.type "BaseException")) true := L0.andThen (looks_mroIn X g3)
  have L4 := looks_find (M := model prog w) X I hf
  have hx0 : (expr && onTheHeap (Value.builtin "BaseException.__getattribute__")) = false := by cases expr <;> rfl
  have hx1 : (onTheHeap (Value.ref C) && Value.builtin "BaseException.__getattribute__" == Value.builtin "object.__getattribute__") = false := by
    rw [show (Value.builtin "BaseException.__getattribute__" == Value.builtin "object.__getattribute__") = false from by decide +kernel]; rfl
  unfold getAttr getAttrBy
  refine wpAny_bind (wpAny_mkText (wpAny_holding (wpAny_bind (L0.at (wpAny_bind (L1.at ?_))))))
  dsimp only
  rw [hx1]
  simp only [Bool.false_eq_true, if_false]
  unfold getAttrByItsOwn hookBefore
  refine wpAny_bind ?_
  show wpAny _ _ (typeLookup (.ref C) "__getattr__") _ _ _
  refine L2.at ?_
  refine wpAny_bind (wpAny_attempt (wpAny_holding ?_))
  unfold callGetattribute
  rw [hx0]
  simp only [Bool.false_eq_true, if_false]
  unfold boundAndCalled
  rw [ega_bind]
  refine wpAny_bind (wpAny_pure ?_)
  refine wpAny_call (codeAny_call_builtin F.attr_Exception.ga.plain F.entry_bexc_ga (@check_slot (model prog w) _ _ _ "BaseException.__getattribute__" "BaseException" "__getattribute__" (.ref x) [.str name t] [] _ ega_kind ega_split L3 (F.args_bexc_ga _ _) ?_))
  refine wpAny_bind (wpAny_pure ?_)
  dsimp only
  refine wpAny_bind (wpAny_pure (wpAny_bind (L0.at (wpAny_bind (L4.at ?_)))))
  refine wpAny_pure ?_
  show wpAny _ _ (handedOut v) _ _ _
  rw [handedOut_of hh]; exact wpAny_pure h

/-- a method of an own exception -/
theorem method_fnE {f : Addr} {pl : Sem Bool} {Q : Value × List Value → Shared → Prop} (X : K.In s.heap) (I : InstAt s.heap x ox C od) (hg : excGet K C = true)
    (hf : findIn K (.ref C) name = some (some (.ref f))) (ht : typeIn K (.ref f) = some (.type "function")) (hs : shadowIn od name = some false) (h : Q (.ref f, [.ref x]) s) :
    wpAny (model prog w) A (getMethod (.ref x) name pl) Q E s := by
  obtain ⟨hga, hk, _⟩ := excGet_of hg
  have hcan : Manifest.canonical "BaseException.__getattribute__" = "object.__getattribute__" := by decide +kernel
  unfold getMethod specialOf
  refine wpAny_bind (wpAny_bind (I.type.here ((looks_findIn X hga).here ?_)))
  dsimp only
  rw [hcan, if_neg (by decide)]
  refine wpAny_bind (wpAny_bind (I.type.here ((looks_findIn X hk).here ?_)))
  refine wpAny_bind (wpAny_bind (I.type.here ((looks_findIn X hf).here (wpAny_bind ((looks_typeIn X ht).here ?_)))))
  rw [if_neg (by decide +kernel)]
  refine wpAny_bind (wpAny_loadPart I.at_ ?_)
  have hd := I.dict
  cases e : ox.dict with
  | none => exact wpAny_bind (wpAny_rule (wpAny_pure h))
  | some dx =>
    cases od with
    | none => rw [e] at hd; exact hd.elim
    | some o =>
      rw [e] at hd
      obtain ⟨r, a, b⟩ := Option.map_eq_some_iff.mp hs
      refine wpAny_bind (wpAny_bind (wpAny_loadPart hd ?_))
      rw [nsLook_of a]
      refine wpAny_pure ?_
      rw [b]
      exact wpAny_bind (wpAny_rule (wpAny_pure h))

noncomputable def refV (v : Value) : Bool := match v with
  | .ref _ => true
  | _ => false
noncomputable def onlyExc (l : List Value) : Bool := decide (l.dropWhile refV = [.type "Exception", .type "BaseException", .type "object"])
theorem onlyExc_is : ∀ {l : List Value}, onlyExc l = true → (∀ self, refuseLoop self "__setattr__" l = pure ()) ∧ l.contains (.type "object") = true ∧ l.contains (.type "BaseException") = true ∧ l.isEmpty = false
  | [], e => nomatch of_decide_eq_true e
  | v :: r, e => by
    have e1 := of_decide_eq_true e
    rw [List.dropWhile_cons] at e1
    cases hv : refV v with
    | false =>
      rw [hv, if_neg Bool.false_ne_true] at e1
      rw [e1]
      exact ⟨fun self => F.store_Exception.passes self, by decide +kernel, by decide +kernel, rfl⟩
    | true =>
      rw [hv, if_pos rfl] at e1
      obtain ⟨a, b, c', _⟩ := onlyExc_is (l := r) (decide_eq_true e1)
      obtain ⟨c, rfl⟩ : ∃ c, v = .ref c := by cases v <;> first | exact ⟨_, rfl⟩ | exact nomatch hv
      exact ⟨fun self => by rw [refuseLoop_ref]; exact a self, by rw [List.contains_cons, b, Bool.or_true], by rw [List.contains_cons, c', Bool.or_true], rfl⟩
noncomputable def excOver (K : Frag) (C : Addr) : Bool := (clsIn K C).any fun cd => onlyExc cd.mro

theorem osa_openE {R : Result → Shared → Prop} {tk : Tok} {r : Option Value} (X : K.In s.heap) (I : InstAt s.heap x ox C od) (hp : excOver K C = true) (ht : takerIn K C name = some r)
    (h : ∀ b, wpAny (model prog w) A.in1 (match r with | some a => setByDescriptor a (.ref x) v | none => storeInOwnDict (.ref x) (.ref C) (.str name tk) name v b)
      (fun fin s' => match fin with | .done f => R (.ok f) s' | .again c' => c'.quiet = true ∧ codeAny (model prog w) A c' R s') (fun e s' => R (.error e) s') s) :
    codeAny (model prog w) A (.call (.builtin "object.__setattr__") ⟨[.ref x, .str name tk, v], []⟩) R s := by
  have SF := PySem.F.store_object
  obtain ⟨cd, hc, ho⟩ := any_some hp
  obtain ⟨o1, o2, o3, ne⟩ := onlyExc_is ho
  have sub : Looks (model prog w) s.heap (isInstance (.ref x) (.type "object")) true := I.type.andThen (looks_mroIn X (by unfold mroIn; rw [hc, Option.bind_some, if_neg (by rw [ne]; decide), o2]))
  refine codeAny_call_builtin SF.slot.plain SF.entry (@check_slot (model prog w) _ _ s "object.__setattr__" "object" "__setattr__" (.ref x) [.str name tk, v] [] _ SF.kind SF.split sub (SF.args (.ref x) (.str name tk) v) ?_)
  obtain ⟨attr, ha, hr⟩ := Option.bind_eq_some_iff.mp ht
  have hm : Looks (model prog w) s.heap (mroOf (.ref C)) cd.mro := (looks_clsIn X hc).andThen .now
  have L3 : Looks (model prog w) s.heap (storeTaker? attr) r := by
    cases attr with
    | none => cases hr; exact .now
    | some a =>
      obtain ⟨b, hb, rfl⟩ := Option.map_eq_some_iff.mp hr
      refine (looks_takesIn X hb).andThen ?_
      cases b <;> exact .now
  rw [osa_eq, refuse_eq]
  refine wpAny_bind (wpAny_bind (I.type.here (wpAny_bind (hm.here ?_))))
  rw [o1]
  refine wpAny_pure (wpAny_bind (I.type.here (wpAny_bind ((looks_findIn X ha).here (wpAny_bind (L3.here ?_))))))
  exact h _

theorem freed_with {c : Value} {d d' : Option Addr} {dt : Data} {sl : Array (Option Value)} (h : (⟨c, d, dt, sl⟩ : Obj).isFreed = false) : (⟨c, d', dt, sl⟩ : Obj).isFreed = false := by
  cases dt <;> first | exact h | rfl

theorem set_dictE {Q : Unit → Shared → Prop} {dx : Addr} {es es' : List DictEntry} {n n' : Nat} {news' : List (Addr × Obj)} (F : Fr h₀ L s.heap m) (X₀ : K.In h₀) (N : News h₀ L s.heap news) (I : InstAt s.heap x ox C (some (dictOf es n))) (hd : ox.dict = some dx)
    (hs : findIn K (.ref C) "__setattr__" = some (some (.builtin "object.__setattr__"))) (hp : excOver K C = true) (ht : takerIn K C name = some none) (hh : hasDictIn K C = true) (hl : (getL name es).isSome = true)
    (e : (putL name (PyData.keyHash w.params name) (.str name (s.toks + 1)) v es, putN name es n) = (es', n')) (U : Upd dx (dictOf es n) (dictOf es' n') news news') (hz : es'.length ≤ 1000)
    (h : ∀ h', Fr h₀ L h' m → News h₀ L h' news' → Q () { s with heap := h', toks := s.toks + 2 }) :
    wpAny (model prog w) A (setAttr (.ref x) name v) Q E s := by
  obtain ⟨pre, post, rfl, rfl, a, b⟩ := U.split
  obtain ⟨e1, e2⟩ := Prod.mk.inj e
  have X := X₀.keeps F.keep
  obtain ⟨hh', g, dr, t, os⟩ := s
  refine set_plain X I hs (osa_openE (s := ⟨hh', g, dr, t + 1, os⟩) X I hp ht fun b' => ?_)
  obtain ⟨cd, hc, hd'⟩ := any_some hh
  obtain ⟨U1, U2⟩ := news_upd (f := Obj.putName name (PyData.keyHash w.params name) (.str name (t + 1)) v) (o' := dictOf es' n') F N a b (by rw [putName_dict, e1, e2]) rfl
  have D := (N (dx, dictOf es n) (by simp)).1
  have D' := (U2 (dx, dictOf es' n') (by simp)).1
  obtain ⟨hx, hcl, hn, -⟩ := I
  obtain ⟨oc, odi, oda, osl⟩ := ox
  dsimp only at hcl hd
  subst hcl hd
  refine wpAny_bind (wpAny_pure (wpAny_bind (wpAny_bind (wpAny_loadPart hx (wpAny_bind ((looks_clsIn X hc).at ?_))))))
  rw [hd']
  refine wpAny_pure (a := some dx) (wpAny_bind (wpAny_pure (wpAny_bind ?_)))
  unfold nsSet
  refine wpAny_bind (wpAny_bind (wpAny_askSetting (wpAny_pure (wpAny_bind (wpAny_mkText (wpAny_bind (wpAny_loadPart D ?_)))))))
  dsimp only
  have c : (!es.toArray.any (·.key.isStr name) && es.toArray.any (·.refKey)) = false := by
    rw [← Array.any_toList, ← Array.any_toList]
    unfold getL at hl
    split at hl
    · rename_i en he
      rw [List.any_eq_true.mpr ⟨en, List.mem_of_find?_eq_some he, List.find?_some he⟩]; rfl
    · split at hl
      · cases hl
      · rename_i z; rw [Bool.not_eq_true] at z; rw [z, Bool.and_false]
  rw [aRefKeyMayBeTheName_at, c]
  refine wpAny_updatePart D ?_
  refine wpAny_bind (wpAny_lookBehind D' (by exact pastItsLine_dict (by rw [List.size_toArray, sizeLine_eq]; omega)) ?_)
  exact wpAny_pure (h _ U1 U2)

theorem set_newE {Q : Unit → Shared → Prop} {news' : Addr → List (Addr × Obj)} (F : Fr h₀ L s.heap m) (X₀ : K.In h₀) (N : News h₀ L s.heap news) (I : InstAt s.heap x ox C none)
    (hs : findIn K (.ref C) "__setattr__" = some (some (.builtin "object.__setattr__"))) (hp : excOver K C = true) (ht : takerIn K C name = some none) (hh : hasDictIn K C = true)
    (U : ∀ d, Upd x ox { ox with dict := some d } news (news' d))
    (h : ∀ d h', Fr h₀ L h' m → News h₀ L h' ((d, dictOf [⟨PyData.keyHash w.params name, .str name (s.toks + 1), v⟩] 1) :: news' d) → (∀ p ∈ news' d, p.1 < d) → Q () { s with heap := h', toks := s.toks + 2 }) :
    wpAny (model prog w) A (setAttr (.ref x) name v) Q E s := by
  obtain ⟨pre, post, rfl, e2, a, b⟩ := (U s.heap.objs.size).split
  have X := X₀.keeps F.keep
  obtain ⟨hh', g, dr, t, os⟩ := s
  refine set_plain X I hs (osa_openE (s := ⟨hh', g, dr, t + 1, os⟩) X I hp ht fun b' => ?_)
  obtain ⟨cd, hc, hd'⟩ := any_some hh
  dsimp only at e2 h
  have lt : ∀ p ∈ pre ++ (x, ox) :: post, p.1 < hh'.objs.size := fun p hp => Heap.lt_size (N p hp).1
  have hx := I.at_
  have hcl := I.cls
  have hn := I.no
  have hdd := I.dict
  have hnd : ox.dict = none := by
    cases e : ox.dict with
    | none => rfl
    | some d => rw [e] at hdd; exact hdd.elim
  obtain ⟨oc, odi, oda, osl⟩ := ox
  dsimp only at hcl hnd
  subst hcl hnd
  have F1 := F.push emptyDict
  have N1 := N.push F emptyDict
  have hfree : ({ cls := .ref C, dict := some hh'.objs.size, data := oda, slots := osl } : Obj).isFreed = false := freed_with (Heap.get?_some_iff.mp hx).2
  have N1' : News h₀ L (hh'.push emptyDict) (((hh'.objs.size, emptyDict) :: pre) ++ (x, (⟨.ref C, none, oda, osl⟩ : Obj)) :: post) := N1
  obtain ⟨F2, N2⟩ := news_upd (f := fun o => { o with dict := some hh'.objs.size }) F1 N1' (by
    intro p hp
    rcases List.mem_cons.mp hp with rfl | hp
    · exact Nat.ne_of_gt (Heap.lt_size hx)
    · exact a p hp) b rfl hfree
  have hx1 : (hh'.push emptyDict).get? x = some ⟨.ref C, none, oda, osl⟩ := Heap.get?_push_of_some _ hx
  have N2' : News h₀ L ((hh'.push emptyDict).update x fun o => { o with dict := some hh'.objs.size }) ([] ++ (hh'.objs.size, dictOf [] 0) :: (pre ++ (x, (⟨.ref C, some hh'.objs.size, oda, osl⟩ : Obj)) :: post)) := N2
  have D2 := (N2' (hh'.objs.size, dictOf [] 0) (.head _)).1
  have lt' : ∀ p ∈ pre ++ (x, (⟨.ref C, some hh'.objs.size, oda, osl⟩ : Obj)) :: post, p.1 < hh'.objs.size := by
    intro p hp
    rcases List.mem_append.mp hp with hp | hp
    · exact lt p (List.mem_append_left _ hp)
    · rcases List.mem_cons.mp hp with rfl | hp
      · exact Heap.lt_size hx
      · exact lt p (List.mem_append_right _ (.tail _ hp))
  obtain ⟨F3, N3⟩ := news_upd (f := Obj.putName name (PyData.keyHash w.params name) (.str name (t + 1)) v) (o' := dictOf [⟨PyData.keyHash w.params name, .str name (t + 1), v⟩] 1) F2 N2' (fun p hp => nomatch hp) (fun p hp => Nat.ne_of_lt (lt' p hp)) (by rw [putName_dict]; rfl) rfl
  have D3 := (N3 _ (.head _)).1
  refine wpAny_bind (wpAny_pure (wpAny_bind (wpAny_bind (wpAny_loadPart hx (wpAny_bind ((looks_clsIn X hc).at ?_))))))
  rw [hd']
  dsimp only
  rw [if_neg (by decide), if_neg (by simp [typeHasDict])]
  split
  · cases hn
  refine wpAny_bind (wpAny_alloc' (wpAny_bind (wpAny_update' hx1 ?_)))
  refine wpAny_pure (a := some hh'.objs.size) ?_
  dsimp only
  unfold storeInDict newKeyGuard
  refine wpAny_bind (wpAny_pure (wpAny_bind ?_))
  unfold nsSet
  refine wpAny_bind (wpAny_bind (wpAny_askSetting (wpAny_pure (wpAny_bind (wpAny_mkText (wpAny_bind (wpAny_loadPart D2 ?_)))))))
  dsimp only
  have c : (!(#[] : Array DictEntry).any (·.key.isStr name) && (#[] : Array DictEntry).any (·.refKey)) = false := by simp
  rw [aRefKeyMayBeTheName_at, c]
  refine wpAny_updatePart D2 ?_
  refine wpAny_bind (wpAny_lookBehind D3 (by exact pastItsLine_dict (by rw [List.size_toArray, sizeLine_eq]; simp)) ?_)
  refine wpAny_pure (h hh'.objs.size _ F3 ?_ ?_)
  · rw [e2]; exact N3
  · rw [e2]; exact lt'
end
section
open Builtin Sem
variable {prog : Program} {w : World} {A : Around} {h : Heap} {g : Array GenState} {d : Drawn} {t : Nat} {os : OsState}
variable {nm q : Str} {C N : Addr} {bs bm : List Value} {hdct : Bool} {sn : List Str} {sub : List Value} {ab : Bool} {col : Option Bool} {dd : Option Addr} {k0 k1 k2 k3 k5 : Option Value}

theorem exc_newE {R : Result → Shared → Prop} {rest : List Value} (hC : h.get? C = some (excClassObj nm q C N bs bm hdct sn sub ab col dd k0 k1 k2 k3 k5 "Exception.__new__"))
    (hcB : (Value.ref C :: bm).contains (.type "Exception") = true) (hcA : (Value.ref C :: bm).contains (.type "AttributeError") = false) (hcN : (Value.ref C :: bm).contains (.type "NameError") = false)
    (hq : R (.ok (.ret (.ref (h.objs.size + 1)))) ⟨(h.push { cls := .type "tuple", data := .seq rest.toArray }).push
      { cls := .ref C, data := .fields #[.ref h.objs.size, .none, .none, .none, .bool false, .none] }, g, d, t, os⟩) (hrest : rest.length ≤ sizeLine := by size_fits) :
    codeAny (model prog w) A (.builtin "Exception.__new__" ⟨.ref C :: rest, []⟩) R ⟨h, g, d, t, os⟩ := by
  have Fn := F.excBase_Exception
  have hends := Fn.ends
  refine codeAny_builtinAt Fn.entry ?_
  unfold Builtin.«BaseException.__new__»
  refine _root_.PySem.wpAt_bind ?_
  show _root_.PySem.wpAt _ _ _ (stack >>= _) _ _ _
  refine _root_.PySem.wpAt_bind (_root_.PySem.wpAt_stack fun p below => _root_.PySem.wpAt_of_wpAny ?_)
  wp_walk
  refine _root_.PySem.wpAt_of_wpAny ?_
  rw [Fn.owner]
  repeat (first | with_reducible refine wpAny_madeHere_exc Fn.canon hC ?_ | with_reducible refine wpAny_loadPart_at hC ?_ | (with_reducible refine wpAny_isSubtype_exc hC ?_; first | rw [hcB] | rw [hcA] | rw [hcN]) | wp_step)
  show R _ _
  rw [Heap.size_push]
  exact hq

theorem check_newE {M : Model} {E : Value → Shared → Prop} {rest : List Value} {Q : Unit → Shared → Prop} (hC : h.get? C = some (excClassObj nm q C N bs bm hdct sn sub ab col dd k0 k1 k2 k3 k5 "Exception.__new__"))
    (hcB : (Value.ref C :: bm).contains (.type "Exception") = true)
    (hq : Q () ⟨h, g, d, t, os⟩) : wpAny M A (checkBuiltinCall "Exception.__new__" ⟨.ref C :: rest, []⟩) Q E ⟨h, g, d, t, os⟩ := by
  have Fn := F.excBase_Exception
  have hstar := Fn.noStar
  simp only [checkBuiltinCall, Fn.newKind, Fn.newSplit, Fn.newRow]
  repeat (first | refine wpAny_loadPart_at hC ?_ | (refine wpAny_isSubtype_exc hC ?_; rw [hcB]) | refine wpAny_staticBase_exc hC ?_ | refine wpAny_madeBy_exc hC ?_ | simp only [bne_self_eq_false, Bool.false_eq_true, if_false] | wp_step)
  exact hq

noncomputable abbrev exc0 (C t0 : Addr) : Obj := { cls := .ref C, data := .fields #[.ref t0, .none, .none, .none, .bool false, .none] }

theorem make_coreE {R : Result → Shared → Prop} {rest : List Value} {fI : Addr} (hC : h.get? C = some (excClassObj nm q C N bs bm hdct sn sub ab col dd k0 k1 k2 k3 k5 "Exception.__new__"))
    (hcB : (Value.ref C :: bm).contains (.type "Exception") = true) (hcA : (Value.ref C :: bm).contains (.type "AttributeError") = false) (hcN : (Value.ref C :: bm).contains (.type "NameError") = false)
    (hi : Looks (model prog w) h (typeLookup (.ref C) "__init__") (some (.ref fI)))
    (hb : ∀ self, Looks (model prog w) h (bindSpecial (.ref fI) self) (.ref fI, [self]))
    (hrest : rest.length ≤ sizeLine)
    (hq : codeAny (model prog w) (A.under (.builtin "type.__call__" ⟨.ref C :: rest, []⟩)) (.call (.ref fI) ⟨.ref (h.objs.size + 1) :: rest, []⟩) (InitBack (h.objs.size + 1) R)
      ⟨(h.push { cls := .type "tuple", data := .seq rest.toArray }).push (exc0 C h.objs.size), g, d, t, os⟩) :
    codeAny (model prog w) A (.call (.ref C) ⟨rest, []⟩) R ⟨h, g, d, t, os⟩ := by
  have Fn := F.excBase_Exception
  have f1 := tc_lookup
  have f2 := tc_bind (.ref C)
  have hT : (⟨h, g, d, t, os⟩ : Shared).TypeIs (.ref C) "type" := ⟨_, hC, rfl⟩
  refine codeAny_of_tree ?_
  show wpAny _ _ (callAny (.ref C) _) _ _ _
  repeat (any_goals (first | assumption | with_reducible refine wpAny_loadPart_at hC ?_ | wp_step))
  refine ⟨rfl, ?_⟩
  refine codeAny_call_builtin_at (Code.quiet_builtin _ (by decide +kernel)) entry_typeCall (wpAny_check_type_call_sub hC ?_)
  repeat (first | with_reducible refine wpAny_loadPart_at hC ?_ | with_reducible refine wpAny_madeBy_exc hC ?_ | wp_step)
  refine codeAny_call_builtin_code (Code.quiet_builtin _ Fn.quiet) (check_newE hC hcB ?_)
  refine exc_newE hC hcB hcA hcN ?_ hrest
  show wpAny _ _ _ _ _ _
  have k : ∀ b o, h.get? b = some o → ((h.push { cls := .type "tuple", data := .seq rest.toArray }).push (exc0 C h.objs.size)).get? b = some o := fun b o e => Heap.get?_push_of_some _ (Heap.get?_push_of_some _ e)
  have hC₁ := k _ _ hC
  have hget : ((h.push { cls := .type "tuple", data := .seq rest.toArray }).push { cls := .ref C, data := .fields #[.ref h.objs.size, .none, .none, .none, .bool false, .none] }).get? (h.objs.size + 1) = some { cls := .ref C, data := .fields #[.ref h.objs.size, .none, .none, .none, .bool false, .none] } := by heap_get
  have hcC : (Value.ref C :: bm).contains (.ref C) = true := by simp
  have i1 := hi.keeps k
  have b1 := (hb (.ref (h.objs.size + 1))).keeps k
  unfold isInstance
  show wpAny _ _ _ _ _ ⟨(h.push { cls := .type "tuple", data := .seq rest.toArray }).push { cls := .ref C, data := .fields #[.ref h.objs.size, .none, .none, .none, .bool false, .none] }, g, d, t, os⟩
  repeat (first | with_reducible refine wpAny_loadPart_at hget ?_ | (with_reducible refine wpAny_isSubtype_exc hC₁ ?_; rw [hcC]) | wp_step | dsimp only)
  show wpAny _ _ (typeLookup (.ref C) _) _ _ _
  refine i1.at ?_
  refine wpAny_holding (wpAny_bind (b1.at (wpAny_bind (wpAny_call ?_))))
  refine codeAny_mono hq fun r s' z => ?_
  rcases r with e | (v | _ | _ | _) <;> first | exact z | exact z.elim | skip
  obtain ⟨rfl, z⟩ := z
  wp_walk
  exact z
end
end Mine
end
section
open Lean PySem PySem.W PyProof.Rows PySem.Calls PySem.Spec PySem.Builtin PySem.Builtin.ObjectAttr
set_option Elab.async false
set_option maxRecDepth 100000
set_option maxHeartbeats 4000000
namespace Mine
section
variable {prog : Program} {w : World} {A₀ A : Around} {s : Shared} {base h₀ : Heap} {outer : List Env} {L : Addr} {m mg mb : Str → Option Value} {env : Env} {news : List (Addr × Obj)} {K : Frag} {p : Program} {loose : List Str} {mean : ExcName → Option Value}
  {R : Result → Shared → Prop} {name qual : Str} {params : Arguments} {body : List Stmt} {scope : Scope} {dV kV doc pm cdv ct oc : Value} {an od : Option Addr} {osl : Array (Option Value)} {f cc : Addr} {args : Args}

/-- enter a def with *rest that closes over __class__ (super() may stand in it) -/
theorem super_rest {vs : List Value} {g₁ : Addr → Option (List (Str × Value))} {binds : Addr → List (Str × Value)}
    (B : Below A₀ base outer h₀) (F : Fr h₀ L s.heap m) (X₀ : K.In h₀) (N : News h₀ L s.heap news) (T : Top p loose mean mg mb h₀) (hA : A.frames = some (env :: outer)) (hf : env.frame = some L) (hke : env.scope.kind = .function)
    (ho : K.lookup f = some ⟨oc, od, .func (ksFn name qual params body scope dV kV doc pm an cdv ct cc), osl⟩) (hcd : codeIn K cdv qual = true) (hroom : A.depth < recursionLimit)
    (hv : args.pos.drop (params.posonlyargs.length + params.args.length) = vs)
    (hp : peek1 K ⟨prog, w.params⟩ (bindArgs (ksFn name qual params body scope dV kV doc pm an cdv ct cc) args) = some (({ cls := .type "tuple", data := .seq vs.toArray } : Obj), g₁))
    (hg : ∀ D, g₁ D = some (binds D)) (hloc : ∀ D, ∀ y ∈ binds D, scope.names.lookup y.1 = some .local)
    (h : ∀ D g L' h₁, (∀ p ∈ news, p.1 < D) → Fr h₀ L g m → Fr g L' h₁ (fun y => (binds D).reverse.lookup y) → News g L' h₁ ((D, ({ cls := .type "tuple", data := .seq vs.toArray } : Obj)) :: news) → Below A base (env :: outer) g → K.In g → Top p loose mean mg mb g →
      _root_.PySem.wpAt (model prog w) (A.deeper (ksEnv qual scope L' f cdv cc)) (.func body (ksEnv qual scope L' f cdv cc)) (execs body (ksEnv qual scope L' f cdv cc))
        (fun fl s' => LeaveK h₀ L m g R (match fl with | .ret v => v | _ => .none) s')
        (fun e s' => wpAny (model prog w) (A.deeper (ksEnv qual scope L' f cdv cc)) (leaving (ksEnv qual scope L' f cdv cc) e) (fun _ s'' => R (.error e) s'') (fun e' s'' => R (.error e') s'') s')
        { s with heap := h₁, toks := s.toks + (binds D).length })
    (hcell : ∀ x ∈ scope.names, x.2 ≠ .cell) (hco : scope.isCoroutine = false) (hgen : scope.isGenerator = false) (hk : scope.kind = .function) : codeAny (model prog w) A (.call (.ref f) args) R s := by
  have _ := hv
  refine codeAny_call_function (fd := ksFn name qual params body scope dV kV doc pm an cdv ct cc) (body := body) hroom ((X₀.keeps F.keep) _ _ ho) rfl hco hgen rfl (codeRec_of (X₀.keeps F.keep) hcd) ?_
  refine wp_of_peek1 (o := ({ cls := .type "tuple", data := .seq vs.toArray } : Obj)) F N (X₀.keeps F.keep) rfl (r := binds) (fun D h' F' N' l => ?_) _ g₁ hp hg
  obtain ⟨hh, gg, dd, tt, os⟩ := s
  obtain ⟨FG, BG, st, lv⟩ := groundX (R := R) (s := ⟨h', gg, dd, tt, os⟩) B F' N' hA hf hke
  refine wpAny_newFunctionEnv hcell (hloc D) (fun h₁ hns hsb => ⟨(T.nolimit.keeps F'.keep).fresh _ hsb, ks_codeAny_funcAt ?_⟩) hk
  have hk₁ : ∀ b o, h'.get? b = some o → h₁.get? b = some o := fun b o e => hsb.extBut b o (Nat.ne_of_lt (Heap.lt_size e)) (Heap.get?_push_of_some _ e)
  exact ks_wpAt_mono (h D _ h'.objs.size h₁ l FG ⟨hns, fun b o e => hk₁ b o (of_hideAll _ e), Nat.le_of_eq (hideAll_size _ _)⟩
    (fun p hp => ⟨hk₁ _ _ (N' p hp).1, Nat.ne_of_lt (Heap.lt_size (N' p hp).1), hideAll_none _ (List.mem_map_of_mem hp)⟩) BG (X₀.keeps st) (T.keeps st)) (fun fl s' hl => lv _ _ hl) fun _ _ y => y
end

section
variable {prog : Program} {w : World} {A : Around} {E : Value → Shared → Prop} {s : Shared} {K : Frag} {x C L : Addr} {h₀ : Heap} {m : Str → Option Value} {ox : Obj} {od : Option Obj} {name : Str} {v : Value} {news : List (Addr × Obj)}
variable {nm q : Str} {N' : Addr} {bs bm : List Value} {hdct : Bool} {sn : List Str} {sub : List Value} {ab : Bool} {col : Option Bool} {dd : Option Addr} {k0 k1 k2 k3 k5 : Option Value}

theorem call_clsE {Q : Value → Shared → Prop} {pos : List Value} {fI : Addr} (F : Fr h₀ L s.heap m) (X₀ : K.In h₀) (N : News h₀ L s.heap news)
    (hC : K.lookup C = some (excClassObj nm q C N' bs bm hdct sn sub ab col dd k0 k1 k2 k3 k5 "Exception.__new__"))
    (hcs : ((Value.ref C :: bm).contains (.type "Exception") && !(Value.ref C :: bm).contains (.type "AttributeError") && !(Value.ref C :: bm).contains (.type "NameError")) = true)
    (hi : findIn K (.ref C) "__init__" = some (some (.ref fI))) (hf : isFn K (.ref fI) = true) (hrest : pos.length ≤ sizeLine)
    (h : ∀ x t0 h', Fr h₀ L h' m → News h₀ L h' ((x, exc0 C t0) :: (t0, ({ cls := .type "tuple", data := .seq pos.toArray } : Obj)) :: news) → (∀ p ∈ news, p.1 < t0) → t0 < x →
      codeAny (model prog w) (A.under (.builtin "type.__call__" ⟨.ref C :: pos, []⟩)) (.call (.ref fI) ⟨.ref x :: pos, []⟩) (InitBack x fun r s' => match r with | .ok (.ret v) => Q v s' | .ok _ => False | .error e => E e s') { s with heap := h' }) :
    wpAny (model prog w) A (call (.ref C) pos) Q E s := by
  simp only [Bool.and_eq_true, Bool.not_eq_true'] at hcs
  have X := X₀.keeps F.keep
  obtain ⟨hh, g, d, t, os⟩ := s
  refine wpAny_call (make_coreE (X _ _ hC) hcs.1.1 hcs.1.2 hcs.2 (looks_findIn X hi) (fun self => bind_fn X self (beq_iff_eq.mp hf)) hrest ?_)
  have N1 := (N.push F ({ cls := .type "tuple", data := .seq pos.toArray } : Obj)).push (F.push _) (exc0 C hh.objs.size)
  rw [Heap.size_push] at N1
  exact h _ hh.objs.size _ ((F.push _).push _) N1 (fun p hp => Heap.lt_size (N p hp).1) (Nat.lt_succ_self _)


theorem check_initE {M : Model} {h : Heap} {g : Array GenState} {d : Drawn} {t : Nat} {os : OsState} {e : Addr} {oe : Obj} {rest : List Value} {Q : Unit → Shared → Prop}
    (hC : h.get? C = some (excClassObj nm q C N' bs bm hdct sn sub ab col dd k0 k1 k2 k3 k5 "Exception.__new__")) (hcB : (Value.ref C :: bm).contains (.type "Exception") = true)
    (he : h.get? e = some oe) (hcls : oe.cls = .ref C) (hq : Q () ⟨h, g, d, t, os⟩) :
    wpAny M A (checkBuiltinCall "Exception.__init__" ⟨.ref e :: rest, []⟩) Q E ⟨h, g, d, t, os⟩ := by
  have Fn := _root_.PySem.F.excBase_Exception
  have hshort := Fn.noStar
  simp only [checkBuiltinCall, Fn.initKind, Fn.initSplit, Fn.initRow]
  repeat (first | (with_reducible refine wpAny_loadPart_at he ?_; rw [hcls]) | with_reducible refine wpAny_loadPart_at hC ?_ | (with_reducible refine wpAny_isSubtype_exc hC ?_; rw [hcB]) | wp_step)
  refine wpAny_onRaise ?_
  rw [show ∀ (a b : String) (n : Nat), Bind.check ⟨.positional, "*", "Exception", .self, [⟨"args", .varPos, false⟩]⟩ a b n (List.map (fun x => x.fst) ({ pos := Value.ref e :: rest } : Args).kw) = pure () from
    fun a b n => check_star_args _ _ _ _ _ _]
  exact wpAny_pure hq

/-- «Exception.__init__(self, msg)» -/
theorem exc_init {Q : Value → Shared → Prop} {d : Option Addr} {t0 : Addr} {a1 a2 a3 a4 a5 : Value} {sl : Array (Option Value)} {news' : Addr → List (Addr × Obj)}
    (F : Fr h₀ L s.heap m) (X₀ : K.In h₀) (N : News h₀ L s.heap news)
    (hC : K.lookup C = some (excClassObj nm q C N' bs bm hdct sn sub ab col dd k0 k1 k2 k3 k5 "Exception.__new__")) (hcB : (Value.ref C :: bm).contains (.type "Exception") = true)
    (U : ∀ t1, Upd x ⟨.ref C, d, .fields #[.ref t0, a1, a2, a3, a4, a5], sl⟩ ⟨.ref C, d, .fields #[.ref t1, a1, a2, a3, a4, a5], sl⟩ news (news' t1))
    (h : ∀ t1 h', Fr h₀ L h' m → News h₀ L h' ((t1, ({ cls := .type "tuple", data := .seq #[v] } : Obj)) :: news' t1) → (∀ p ∈ news' t1, p.1 < t1) → Q .none { s with heap := h' }) :
    wpAny (model prog w) A (call (.builtin "Exception.__init__") [.ref x, v]) Q E s := by
  have Fn := _root_.PySem.F.excBase_Exception
  have X := X₀.keeps F.keep
  obtain ⟨pre, post, rfl, e2, a, b⟩ := (U s.heap.objs.size).split
  obtain ⟨hh, g, dr, t, os⟩ := s
  dsimp only at e2 h
  have hx := (N (x, (⟨.ref C, d, .fields #[.ref t0, a1, a2, a3, a4, a5], sl⟩ : Obj)) (by simp)).1
  dsimp only at hx
  have lt : ∀ p ∈ pre ++ (x, (⟨.ref C, d, .fields #[.ref t0, a1, a2, a3, a4, a5], sl⟩ : Obj)) :: post, p.1 < hh.objs.size := fun p hp => Heap.lt_size (N p hp).1
  have F1 := F.push ({ cls := .type "tuple", data := .seq #[v] } : Obj)
  have N1 : News h₀ L (hh.push ({ cls := .type "tuple", data := .seq #[v] } : Obj)) (((hh.objs.size, ({ cls := .type "tuple", data := .seq #[v] } : Obj)) :: pre) ++ (x, (⟨.ref C, d, .fields #[.ref t0, a1, a2, a3, a4, a5], sl⟩ : Obj)) :: post) := N.push F ({ cls := .type "tuple", data := .seq #[v] } : Obj)
  have hx1 : (hh.push ({ cls := .type "tuple", data := .seq #[v] } : Obj)).get? x = some ⟨.ref C, d, .fields #[.ref t0, a1, a2, a3, a4, a5], sl⟩ := Heap.get?_push_of_some _ hx
  obtain ⟨F2, N2⟩ := news_upd (f := Obj.mapFields (·.setIfInBounds 0 (.ref hh.objs.size))) (o' := ⟨.ref C, d, .fields #[.ref hh.objs.size, a1, a2, a3, a4, a5], sl⟩) F1 N1 (by
    intro p hp
    rcases List.mem_cons.mp hp with rfl | hp
    · exact Nat.ne_of_gt (Heap.lt_size hx)
    · exact a p hp) b rfl rfl
  refine wpAny_call (codeAny_call_builtin Fn.init.plain Fn.initEntry (check_initE (X _ _ hC) hcB hx rfl ?_))
  unfold Builtin.«BaseException.__init__»
  dsimp only
  refine wpAny_bind (wpAny_newObj_type ?_ (by show (#[v] : Array Value).size ≤ sizeLine; rw [sizeLine_eq]; simp))
  unfold BaseException.bexcPut
  refine wpAny_bind (wpAny_bind (wpAny_field hx1 rfl (x := .ref t0) rfl (wpAny_bind (wpAny_setField hx1 rfl (by simp) ?_))))
  dsimp only
  refine wpAny_letGo ?_
  refine wpAny_pure (h hh.objs.size _ F2 ?_ ?_)
  · rw [e2]; exact N2
  · rw [e2]
    intro p hp
    rcases List.mem_append.mp hp with hp | hp
    · exact lt p (List.mem_append_left _ hp)
    · rcases List.mem_cons.mp hp with rfl | hp
      · exact Heap.lt_size hx
      · exact lt p (List.mem_append_right _ (.tail _ hp))
end

section
variable {prog : Program} {w : World} {A : Around} {E : Value → Shared → Prop} {s : Shared} {K : Frag} {x C L : Addr} {h₀ : Heap} {m : Str → Option Value} {ox : Obj} {od : Option Obj} {name : Str} {v : Value} {news : List (Addr × Obj)}

theorem gs_set_entry : entryFor table "getset_descriptor.__set__" = some Builtin.«getset_descriptor.__set__» := entryFor_of_tree (by kernel_rfl)
theorem gs_set_args (a b c : Value) : argsOk "getset_descriptor.__set__" ⟨[a, b, c], []⟩ := by unfold argsOk; kernel_rfl
theorem args_set_entry : entryFor table "BaseException.args#set" = some Builtin.«BaseException.args#set» := entryFor_of_tree (by kernel_rfl)

theorem isExc_of (X : K.In s.heap) (I : InstAt s.heap x ox C od) (hg : excGet K C = true) {M : Model} : Looks M s.heap (isInstance (.ref x) (.type "BaseException")) true :=
  I.type.andThen (looks_mroIn X (excGet_of hg).2.2)

/-- the args of an own exception -/
theorem get_argsE {expr : Bool} {vs : Array Value} {t0 : Addr} {Q : Value → Shared → Prop} (X : K.In s.heap) (I : InstAt s.heap x ox C od) (hg : excGet K C = true)
    (hf : findObj K C od "args" = some (.bind (.builtin "getset_descriptor.__get__") (.builtin "BaseException.args"))) (hd : ox.data = .fields vs) (h0 : vs[0]? = some (.ref t0))
    (h : Q (.ref t0) { s with toks := s.toks + 1 }) : wpAny (model prog w) A (getAttr (.ref x) "args" expr) Q E s := by
  obtain ⟨g1, g2, g3⟩ := excGet_of hg
  have L3 := isExc_of (M := model prog w) X I hg
  obtain ⟨hp, g, d, t, os⟩ := s
  have hx := I.at_
  have L0 := I.type (M := model prog w)
  have L1 := looks_findIn (M := model prog w) X g1
  have L2 := looks_findIn (M := model prog w) X g2
  have L4 := looks_find (M := model prog w) X I hf
  dsimp only at hx L3
  have hx0 : (expr && onTheHeap (Value.builtin "BaseException.__getattribute__")) = false := by cases expr <;> rfl
  have hx1 : (onTheHeap (Value.ref C) && Value.builtin "BaseException.__getattribute__" == Value.builtin "object.__getattribute__") = false := by
    rw [show (Value.builtin "BaseException.__getattribute__" == Value.builtin "object.__getattribute__") = false from by decide +kernel]; rfl
  have hnd : (Value.ref t0 == doubtfulMember) = false := by first | rfl | decide | simp [doubtfulMember, rawInt]
  have hT5 : (⟨hp, g, d, t + 1, os⟩ : Shared).TypeIs (.builtin "BaseException.args") "getset_descriptor" := _root_.PySem.F.typeOf_bexc_args
  unfold getAttr getAttrBy
  refine wpAny_bind (wpAny_mkText (wpAny_holding (wpAny_bind (L0.at (wpAny_bind (L1.at ?_))))))
  dsimp only
  rw [hx1]
  simp only [Bool.false_eq_true, if_false]
  unfold getAttrByItsOwn hookBefore
  refine wpAny_bind ?_
  show wpAny _ _ (typeLookup (.ref C) "__getattr__") _ _ _
  refine L2.at ?_
  refine wpAny_bind (wpAny_attempt (wpAny_holding ?_))
  unfold callGetattribute
  rw [hx0]
  simp only [Bool.false_eq_true, if_false]
  unfold boundAndCalled
  rw [ega_bind]
  refine wpAny_bind (wpAny_pure ?_)
  refine wpAny_call (codeAny_call_builtin _root_.PySem.F.attr_Exception.ga.plain _root_.PySem.F.entry_bexc_ga (@check_slot (model prog w) _ _ _ "BaseException.__getattribute__" "BaseException" "__getattribute__" (.ref x) [.str "args" t] [] _ ega_kind ega_split L3 (_root_.PySem.F.args_bexc_ga _ _) ?_))
  refine wpAny_bind (wpAny_pure ?_)
  dsimp only
  refine wpAny_bind (wpAny_pure (wpAny_bind (L0.at (wpAny_bind (L4.at ?_)))))
  dsimp only
  unfold bindTo
  dsimp only
  refine wpAny_bind (wpAny_holding (wpAny_call ?_))
  refine codeAny_call_builtin _root_.PySem.F.slot_gs_get.plain _root_.PySem.F.entry_gs_get (_root_.PySem.F.slot_gs_get.check _ _ _ _ _ _ _ _ hT5 (_root_.PySem.F.args_gs_get _ _ _) ?_)
  have L3' : Looks (model prog w) hp (isInstance (.ref x) (.type (".".intercalate ("BaseException.args".cutAt '.').dropLast))) true := by rw [_root_.PySem.F.owner_bexc_args]; exact L3
  repeat (first | with_reducible refine Looks.at L3' ?_ | wp_step)
  refine ⟨Code.quiet_builtin _ (by decide +kernel), codeAny_builtin _root_.PySem.F.entry_bexc_args ?_⟩
  unfold Builtin.«BaseException.args»
  repeat (any_goals (first | assumption | with_reducible refine wpAny_field hx hd h0 ?_ | wp_step))

/-- «self.args = t» of an own exception, t a tuple -/
theorem set_argsE {Q : Unit → Shared → Prop} {d : Option Addr} {t0 t1 : Addr} {a1 a2 a3 a4 a5 : Value} {sl : Array (Option Value)} {its : Array Value} {news' : List (Addr × Obj)} (F : Fr h₀ L s.heap m) (X₀ : K.In h₀) (N : News h₀ L s.heap news)
    (I : InstAt s.heap x ⟨.ref C, d, .fields #[.ref t0, a1, a2, a3, a4, a5], sl⟩ C od) (hg : excGet K C = true)
    (hs : findIn K (.ref C) "__setattr__" = some (some (.builtin "object.__setattr__"))) (hp : excOver K C = true) (ht : takerIn K C "args" = some (some (.builtin "BaseException.args")))
    (h1 : (t1, ({ cls := .type "tuple", data := .seq its } : Obj)) ∈ news)
    (U : Upd x ⟨.ref C, d, .fields #[.ref t0, a1, a2, a3, a4, a5], sl⟩ ⟨.ref C, d, .fields #[.ref t1, a1, a2, a3, a4, a5], sl⟩ news news')
    (h : ∀ h', Fr h₀ L h' m → News h₀ L h' news' → Q () { s with heap := h', toks := s.toks + 1 }) :
    wpAny (model prog w) A (setAttr (.ref x) "args" (.ref t1)) Q E s := by
  obtain ⟨pre, post, rfl, rfl, a, b⟩ := U.split
  have X := X₀.keeps F.keep
  have L3 := isExc_of (M := model prog w) X I hg
  obtain ⟨hh, g, dr, t, os⟩ := s
  have hx := I.at_
  dsimp only at hx L3 h
  obtain ⟨F2, N2⟩ := news_upd (f := Obj.mapFields (·.setIfInBounds 0 (.ref t1))) (o' := ⟨.ref C, d, .fields #[.ref t1, a1, a2, a3, a4, a5], sl⟩) F N a b rfl rfl
  have h1' := (N _ h1).1
  have T5 : Looks (model prog w) hh (typeOf (.builtin "BaseException.args")) (.type "getset_descriptor") := Looks.of_pure _root_.PySem.F.typeOf_bexc_args
  have hT5 : (⟨hh, g, dr, t + 1, os⟩ : Shared).TypeIs (.builtin "BaseException.args") "getset_descriptor" := _root_.PySem.F.typeOf_bexc_args
  have S := _root_.PySem.F.slot_gs_set
  have L3' : Looks (model prog w) hh (isInstance (.ref x) (.type (".".intercalate ("BaseException.args".cutAt '.').dropLast))) true := by rw [_root_.PySem.F.owner_bexc_args]; exact L3
  refine set_plain X I hs (osa_openE (s := ⟨hh, g, dr, t + 1, os⟩) X I hp ht fun b' => ?_)
  dsimp only
  unfold setByDescriptor
  refine wpAny_bind (wpAny_rule (wpAny_bind (wpAny_holding (wpAny_bind (wpAny_bind (T5.at ((Looks.of_pure S.lookup).at (wpAny_holding ?_))))))))
  rw [S.bind]
  refine wpAny_bind (wpAny_pure (wpAny_bind (wpAny_call ?_)))
  refine codeAny_call_builtin S.plain gs_set_entry (S.check _ _ _ _ _ _ _ _ hT5 (gs_set_args _ _ _) ?_)
  unfold Builtin.«getset_descriptor.__set__» Getset_descriptor.descrSet Getset_descriptor.descrStoreThrough Getset_descriptor.descrCheckInstance Getset_descriptor.descrNameAndClass
  have L3'' : Looks (model prog w) hh (isInstance (.ref x) (.type (Getset_descriptor.descrOwnerAndName "BaseException.args").fst)) true := L3'
  repeat (first | with_reducible refine Looks.at L3'' ?_ | wp_step)
  refine ⟨Code.quiet_builtin _ (by decide +kernel), codeAny_builtin args_set_entry ?_⟩
  unfold Builtin.«BaseException.args#set»
  dsimp only
  refine wpAny_bind (call_tuple_same (items := its) ⟨_, h1', rfl, _, rfl⟩ ?_)
  unfold BaseException.bexcPut
  refine wpAny_bind (wpAny_bind (wpAny_field hx rfl (x := .ref t0) rfl (wpAny_bind (wpAny_setField hx rfl (by simp) ?_))))
  dsimp only
  refine wpAny_letGo ?_
  refine wpAny_pure ?_
  dsimp only
  refine wpAny_pure (wpAny_pure ?_)
  exact h _ F2 N2
end
end Mine
end
section
open Lean PySem PySem.W PyProof.Rows PySem.Calls PySem.Spec PySem.Builtin PySem.Builtin.ObjectAttr
set_option Elab.async false
set_option maxRecDepth 100000
set_option maxHeartbeats 4000000
namespace Mine

theorem kx_get (P : Params) : excGet (lawTop.heap_39 P) 189 = true := by kernel_rfl
theorem kx_over (P : Params) : excOver (lawTop.heap_39 P) 189 = true := by kernel_rfl
theorem kx_takerArgs (P : Params) : takerIn (lawTop.heap_39 P) 189 "args" = some (some (.builtin "BaseException.args")) := by kernel_rfl
theorem kx_hasDict (P : Params) : hasDictIn (lawTop.heap_39 P) 189 = true := by kernel_rfl
theorem kx_setattr (P : Params) : findIn (lawTop.heap_39 P) (.ref 189) "__setattr__" = some (some (.builtin "object.__setattr__")) := by kernel_rfl
theorem kx_cls (P : Params) : ∃ q bs hdct sn sub ab col dd k0 k1 k2 k3 k5, (lawTop.heap_39 P).lookup 189 = some (excClassObj (PySem.Str.ofString "ParsingError") q 189 188 bs [.ref 46, .type "Exception", .type "BaseException", .type "object"] hdct sn sub ab col dd k0 k1 k2 k3 k5 "Exception.__new__") :=
  ⟨_, _, _, _, _, _, _, _, _, _, _, _, _, rfl⟩
theorem kx_init (P : Params) : findIn (lawTop.heap_39 P) (.ref 189) "__init__" = some (some (.ref 162)) := by kernel_rfl
theorem kx_fn162 (P : Params) : isFn (lawTop.heap_39 P) (.ref 162) = true := by kernel_rfl
theorem kx_argsGet (P : Params) : specialIn (lawTop.heap_39 P) (.builtin "BaseException.args") "__get__" = some (some (.builtin "getset_descriptor.__get__")) := by kernel_rfl
theorem kx_argsTakes (P : Params) : takesIn (lawTop.heap_39 P) (.builtin "BaseException.args") = some true := by kernel_rfl
theorem kx_argsFind (P : Params) : findIn (lawTop.heap_39 P) (.ref 189) "args" = some (some (.builtin "BaseException.args")) := by kernel_rfl
theorem kx_clsSome (P : Params) : (clsIn (lawTop.heap_39 P) 189).isSome = true := by kernel_rfl

theorem InstAt.of_newsE {h₀ h : Heap} {L x C dx : Addr} {news : List (Addr × Obj)} {od : Obj} {vs : Array Value} {sl : Array (Option Value)} (N : News h₀ L h news) (h1 : (x, (⟨.ref C, some dx, .fields vs, sl⟩ : Obj)) ∈ news) (h2 : (dx, od) ∈ news) :
    InstAt h x ⟨.ref C, some dx, .fields vs, sl⟩ C (some od) := ⟨(N _ h1).1, rfl, rfl, (N _ h2).1⟩
theorem InstAt.of_newsE0 {h₀ h : Heap} {L x C : Addr} {news : List (Addr × Obj)} {vs : Array Value} {sl : Array (Option Value)} (N : News h₀ L h news) (h1 : (x, (⟨.ref C, none, .fields vs, sl⟩ : Obj)) ∈ news) :
    InstAt h x ⟨.ref C, none, .fields vs, sl⟩ C none := ⟨(N _ h1).1, rfl, rfl, trivial⟩

section
variable {prog : Program} {w : World} {A : Around} {E : Value → Shared → Prop} {s : Shared} {x L : Addr} {h₀ : Heap} {m : Str → Option Value} {ox : Obj} {od : Option Obj} {name : Str} {v : Value} {news news' : List (Addr × Obj)} {es es' : List DictEntry} {n n' : Nat}
theorem x_own {expr : Bool} {Q : Value → Shared → Prop} {attr : Option Value} (F : Fr h₀ L s.heap m) (X₀ : (lawTop.heap_39 w.params).In h₀) (I : InstAt s.heap x ox 189 (some (dictOf es n)))
    (ha : findIn (lawTop.heap_39 w.params) (.ref 189) name = some attr) (hn : noGet (lawTop.heap_39 w.params) attr = true) (hl : getL name es = some (some v)) (hv : handedIn v = true) (h : Q v { s with toks := s.toks + 1 }) :
    wpAny (model prog w) A (getAttr (.ref x) name expr) Q E s :=
  get_valueE (X₀.keeps F.keep) I (kx_get _) (findObj_own (kx_hasDict _) ha hn hl) hv h
theorem x_args {expr : Bool} {vs : Array Value} {t0 : Addr} {o : Obj} {Q : Value → Shared → Prop} (F : Fr h₀ L s.heap m) (X₀ : (lawTop.heap_39 w.params).In h₀) (I : InstAt s.heap x ox 189 (some o)) (hd : ox.data = .fields vs) (h0 : vs[0]? = some (.ref t0))
    (h : Q (.ref t0) { s with toks := s.toks + 1 }) : wpAny (model prog w) A (getAttr (.ref x) (PySem.Str.ofString "args") expr) Q E s :=
  get_argsE (X₀.keeps F.keep) I (kx_get _) (findObj_data (kx_clsSome _) (kx_argsFind _) (kx_argsGet _) (kx_argsTakes _)) hd h0 h
theorem x_method {f : Addr} {pl : Sem Bool} {Q : Value × List Value → Shared → Prop} (F : Fr h₀ L s.heap m) (X₀ : (lawTop.heap_39 w.params).In h₀) (I : InstAt s.heap x ox 189 (some (dictOf es n)))
    (hf : findIn (lawTop.heap_39 w.params) (.ref 189) name = some (some (.ref f))) (ht : isFn (lawTop.heap_39 w.params) (.ref f) = true) (hl : getL name es = some none) (h : Q (.ref f, [.ref x]) s) :
    wpAny (model prog w) A (getMethod (.ref x) name pl) Q E s :=
  method_fnE (X₀.keeps F.keep) I (kx_get _) hf (beq_iff_eq.mp ht) (by show (lookIn name (dictOf es n)).map _ = _; rw [lookIn_dict, hl]; rfl) h
theorem x_set {Q : Unit → Shared → Prop} {dx : Addr} (F : Fr h₀ L s.heap m) (X₀ : (lawTop.heap_39 w.params).In h₀) (N : News h₀ L s.heap news) (I : InstAt s.heap x ox 189 (some (dictOf es n))) (hd : ox.dict = some dx)
    (ht : takerIn (lawTop.heap_39 w.params) 189 name = some none) (hl : (getL name es).isSome = true)
    (e : (putL name (PyData.keyHash w.params name) (.str name (s.toks + 1)) v es, putN name es n) = (es', n')) (U : Upd dx (dictOf es n) (dictOf es' n') news news') (hz : es'.length ≤ 1000)
    (h : ∀ h', Fr h₀ L h' m → News h₀ L h' news' → Q () { s with heap := h', toks := s.toks + 2 }) : wpAny (model prog w) A (setAttr (.ref x) name v) Q E s :=
  set_dictE F X₀ N I hd (kx_setattr _) (kx_over _) ht (kx_hasDict _) hl e U hz h
theorem x_new {Q : Unit → Shared → Prop} {news' : Addr → List (Addr × Obj)} (F : Fr h₀ L s.heap m) (X₀ : (lawTop.heap_39 w.params).In h₀) (N : News h₀ L s.heap news) (I : InstAt s.heap x ox 189 none)
    (ht : takerIn (lawTop.heap_39 w.params) 189 name = some none) (U : ∀ d, Upd x ox { ox with dict := some d } news (news' d))
    (h : ∀ d h', Fr h₀ L h' m → News h₀ L h' ((d, dictOf [⟨PyData.keyHash w.params name, .str name (s.toks + 1), v⟩] 1) :: news' d) → (∀ p ∈ news' d, p.1 < d) → Q () { s with heap := h', toks := s.toks + 2 }) :
    wpAny (model prog w) A (setAttr (.ref x) name v) Q E s :=
  set_newE F X₀ N I (kx_setattr _) (kx_over _) ht (kx_hasDict _) U h
theorem x_setArgs {Q : Unit → Shared → Prop} {d : Option Addr} {t0 t1 : Addr} {a1 a2 a3 a4 a5 : Value} {sl : Array (Option Value)} {its : Array Value} (F : Fr h₀ L s.heap m) (X₀ : (lawTop.heap_39 w.params).In h₀) (N : News h₀ L s.heap news)
    (I : InstAt s.heap x ⟨.ref 189, d, .fields #[.ref t0, a1, a2, a3, a4, a5], sl⟩ 189 od)
    (h1 : (t1, ({ cls := .type "tuple", data := .seq its } : Obj)) ∈ news)
    (U : Upd x ⟨.ref 189, d, .fields #[.ref t0, a1, a2, a3, a4, a5], sl⟩ ⟨.ref 189, d, .fields #[.ref t1, a1, a2, a3, a4, a5], sl⟩ news news')
    (h : ∀ h', Fr h₀ L h' m → News h₀ L h' news' → Q () { s with heap := h', toks := s.toks + 1 }) :
    wpAny (model prog w) A (setAttr (.ref x) (PySem.Str.ofString "args") (.ref t1)) Q E s :=
  set_argsE F X₀ N I (kx_get _) (kx_setattr _) (kx_over _) (kx_takerArgs _) h1 U h
theorem x_excInit {Q : Value → Shared → Prop} {d : Option Addr} {t0 : Addr} {a1 a2 a3 a4 a5 : Value} {sl : Array (Option Value)} {news' : Addr → List (Addr × Obj)}
    (F : Fr h₀ L s.heap m) (X₀ : (lawTop.heap_39 w.params).In h₀) (N : News h₀ L s.heap news)
    (U : ∀ t1, Upd x ⟨.ref 189, d, .fields #[.ref t0, a1, a2, a3, a4, a5], sl⟩ ⟨.ref 189, d, .fields #[.ref t1, a1, a2, a3, a4, a5], sl⟩ news (news' t1))
    (h : ∀ t1 h', Fr h₀ L h' m → News h₀ L h' ((t1, ({ cls := .type "tuple", data := .seq #[v] } : Obj)) :: news' t1) → (∀ p ∈ news' t1, p.1 < t1) → Q .none { s with heap := h' }) :
    wpAny (model prog w) A (call (.builtin "Exception.__init__") [.ref x, v]) Q E s := by
  obtain ⟨_, _, _, _, _, _, _, _, _, _, _, _, _, hC⟩ := kx_cls w.params
  exact exc_init F X₀ N hC (by decide +kernel) U h
theorem x_call {Q : Value → Shared → Prop} {pos : List Value} (F : Fr h₀ L s.heap m) (X₀ : (lawTop.heap_39 w.params).In h₀) (N : News h₀ L s.heap news) (hrest : pos.length ≤ sizeLine)
    (h : ∀ x t0 h', Fr h₀ L h' m → News h₀ L h' ((x, exc0 189 t0) :: (t0, ({ cls := .type "tuple", data := .seq pos.toArray } : Obj)) :: news) → (∀ p ∈ news, p.1 < t0) → t0 < x →
      codeAny (model prog w) (A.under (.builtin "type.__call__" ⟨.ref 189 :: pos, []⟩)) (.call (.ref 162) ⟨.ref x :: pos, []⟩) (InitBack x fun r s' => match r with | .ok (.ret v) => Q v s' | .ok _ => False | .error e => E e s') { s with heap := h' }) :
    wpAny (model prog w) A (call (.ref 189) pos) Q E s := by
  obtain ⟨_, _, _, _, _, _, _, _, _, _, _, _, _, hC⟩ := kx_cls w.params
  exact call_clsE F X₀ N hC (by decide +kernel) (kx_init _) (kx_fn162 _) hrest h
end
end Mine
end
section
open Lean PySem PySem.W PyProof.Rows PySem.Calls PySem.Spec PySem.Builtin PySem.Builtin.ObjectAttr
set_option Elab.async false
set_option maxRecDepth 100000
set_option maxHeartbeats 4000000
namespace Mine
noncomputable def padT (a : Int) : PySem.Str := intSpecTextOf (PySem.Str.ofString "2d") a
theorem padT_le {a : Int} (h1 : -100 ≤ a) (h2 : a < 1100) (F : IntSpecFactsW (PySem.Str.ofString "2d") 2 a) : (padT a).length ≤ 5 := by
  unfold padT
  have D := F.digits
  have e4 := D.lt10000
  by_cases h : 0 ≤ a
  · rw [F.lenNonneg h]; have := e4 (by omega); omega
  · rw [F.lenNeg (by omega)]; have := D.lt1000 (by omega); omega
theorem offLt {own : List (Addr × Obj)} {t x : Addr} (h : ∀ p ∈ own, p.1 < t) (h2 : @LE.le Nat _ t x) : ∀ p ∈ own, p.1 ≠ x := fun p hp => Nat.ne_of_lt (Nat.lt_of_lt_of_le (h p hp) h2)
theorem meta_exc : typeOf (.type "Exception") = pure (.type "type") := by kernel_rfl
section
variable {prog : Program} {w : World} {A : Around} {E : Value → Shared → Prop} {s : Shared} {L : Addr} {h₀ : Heap} {m mg mb : PySem.Str → Option Value} {p : Program} {loose : List PySem.Str} {mean : ExcName → Option Value}
theorem x_fmt {a : Int} {t : Tok} {Q : Value → Shared → Prop} (F : Fr h₀ L s.heap m) (T : Top p loose mean mg mb h₀) (h1 : -100 ≤ a) (h2 : a < 1100)
    (h : (padT a).length ≤ 5 → Q (.str (padT a) (s.toks + 1)) { s with toks := s.toks + 1 + 1 }) : wpAny (model prog w) A (formatField (.int a t) (PySem.Str.ofString "2d")) Q E s := by
  refine formatField_int_specOf (T.nodigits.imp fun mc h => ⟨h.1.keeps F.keep, h.2⟩) (lt_digitLimit_of_lt (by omega)) (by decide) (fun W hW hF => ?_)
  have e : W = 2 := hW.trans (by decide)
  subst e
  exact h (padT_le h1 h2 hF)
end

section
variable {M : Model} {A : Around} {E : Value → Shared → Prop} {s : Shared} {K : Frag} {env : Env} {pos apos p : Pos} {name : PySem.Str} {Q : Value → Shared → Prop} {h₀ : Heap} {L : Addr} {news : List (Addr × Obj)} {o e : PySem.Expr} {q g : Addr} {self : Value}
theorem methodCall_star
    (h : wpAny M A (eval o env) (fun ov s₁ => wpAny M A (getAttr ov name true) (fun f s₂ => wpAny M A (callWith pos f [] (backTo pos (starEach [.Starred e p] env)) []) Q E s₂) E s₁) E s)
    (he : eval (.Call (.Attribute o name apos) [.Starred e p] [] pos) env = (do
      let ov ← eval o env
      standAt apos.atName
      let (f, first) ← holding [ov] (do pure (← getAttr ov name true, ([] : List Value)))
      callWith pos f first (backTo pos (starEach [.Starred e p] env)) []) := by rfl) :
    wpAny M A (eval (.Call (.Attribute o name apos) [.Starred e p] [] pos) env) Q E s := by
  rw [he]
  refine wpAny_bind (wpAny_mono h (fun ov s₁ h₁ => wpAny_bind (wpAny_standAt (wpAny_bind (wpAny_holding (wpAny_bind (wpAny_mono h₁ (fun fx s₂ h₂ => wpAny_pure ?_) fun _ _ x => x)))))) fun _ _ x => x)
  exact h₂
theorem callWith_SM (_X : K.In h₀) (_N : News h₀ L s.heap news) (_q : (q, methodObj (.ref g) self) ∈ news) (hf : fnIn K g = true)
    (h : wpAny M A (eval e env) (fun v s₁ => StarOf M A E v (fun vs s₂ => MethP K q g self s₂.heap ∧ wpAny M A (call (.ref q) vs) Q E s₂) s₁) E s)
    (he : starEach [.Starred e p] env = [(true, eval e env)] := by rfl) :
    wpAny M A (callWith pos (.ref q) [] (backTo pos (starEach [.Starred e p] env)) []) Q E s := by
  rw [he]
  exact ks_call rfl (keeps_M hf) (ks_lone h)
end
section
variable {prog : Program} {w : World} {A : Around} {E : Value → Shared → Prop} {s : Shared} {x L : Addr} {h₀ : Heap} {m : PySem.Str → Option Value} {ox : Obj} {name : PySem.Str} {news : List (Addr × Obj)} {es : List DictEntry} {n : Nat}
theorem x_bound {expr : Bool} {f : Addr} {Q : Value → Shared → Prop} (F : Fr h₀ L s.heap m) (X₀ : (lawTop.heap_39 w.params).In h₀) (N : News h₀ L s.heap news) (I : InstAt s.heap x ox 189 (some (dictOf es n)))
    (ha : findIn (lawTop.heap_39 w.params) (.ref 189) name = some (some (.ref f))) (hf : isFn (lawTop.heap_39 w.params) (.ref f) = true)
    (hgf : specialIn (lawTop.heap_39 w.params) (.ref f) "__get__" = some (some (.builtin "function.__get__"))) (ht : takesIn (lawTop.heap_39 w.params) (.ref f) = some false) (hc : copiedNames.contains name = false) (hl : getL name es = some none)
    (h : ∀ q h', Fr h₀ L h' m → News h₀ L h' ((q, methodObj (.ref f) (.ref x)) :: news) → (∀ p ∈ news, p.1 < q) → Q (.ref q) { s with heap := h', toks := s.toks + 1 }) : wpAny (model prog w) A (getAttr (.ref x) name expr) Q E s := by
  have X := X₀.keeps F.keep
  have hff : findObj (lawTop.heap_39 w.params) 189 (some (dictOf es n)) name = some (.bind (.builtin "function.__get__") (.ref f)) := findObj_fn (kx_hasDict _) ha hgf ht hc (by show lookIn name (dictOf es n) = _; rw [lookIn_dict, hl])
  have hg := kx_get w.params
  obtain ⟨g1, g2, g3⟩ := excGet_of hg
  have L3 := isExc_of (M := model prog w) X I hg
  have nx := fun h' => h s.heap.objs.size h'
  obtain ⟨hp, g, d, t, os⟩ := s
  have hx := I.at_
  have L0 := I.type (M := model prog w)
  have L1 := looks_findIn (M := model prog w) X g1
  have L2 := looks_findIn (M := model prog w) X g2
  have L4 := looks_find (M := model prog w) X I hff
  dsimp only at hx L3
  have hx0 : (expr && onTheHeap (Value.builtin "BaseException.__getattribute__")) = false := by cases expr <;> rfl
  have hx1 : (onTheHeap (Value.ref 189) && Value.builtin "BaseException.__getattribute__" == Value.builtin "object.__getattribute__") = false := by
    rw [show (Value.builtin "BaseException.__getattribute__" == Value.builtin "object.__getattribute__") = false from by decide +kernel]; rfl
  unfold getAttr getAttrBy
  refine wpAny_bind (wpAny_mkText (wpAny_holding (wpAny_bind (L0.at (wpAny_bind (L1.at ?_))))))
  dsimp only
  rw [hx1]
  simp only [Bool.false_eq_true, if_false]
  unfold getAttrByItsOwn hookBefore
  refine wpAny_bind ?_
  show wpAny _ _ (typeLookup (.ref 189) "__getattr__") _ _ _
  refine L2.at ?_
  refine wpAny_bind (wpAny_attempt (wpAny_holding ?_))
  unfold callGetattribute
  rw [hx0]
  simp only [Bool.false_eq_true, if_false]
  unfold boundAndCalled
  rw [ega_bind]
  refine wpAny_bind (wpAny_pure ?_)
  refine wpAny_call (codeAny_call_builtin _root_.PySem.F.attr_Exception.ga.plain _root_.PySem.F.entry_bexc_ga (@check_slot (model prog w) _ _ _ "BaseException.__getattribute__" "BaseException" "__getattribute__" (.ref x) [.str name t] [] _ ega_kind ega_split L3 (_root_.PySem.F.args_bexc_ga _ _) ?_))
  refine wpAny_bind (wpAny_pure ?_)
  dsimp only
  refine wpAny_bind (wpAny_pure (wpAny_bind (L0.at (wpAny_bind (L4.at ?_)))))
  dsimp only
  unfold bindTo
  dsimp only
  refine wpAny_bind (wpAny_holding (wpAny_call ?_))
  refine fn_get (s := ⟨hp, g, d, t + 1, os⟩) X (beq_iff_eq.mp hf) ?_
  refine wpAny_pure ?_
  dsimp only
  refine handed_on rfl ?_
  exact nx _ (F.push _) (N.push F _) fun p hp => Heap.lt_size (N p hp).1
end
end Mine
end
section
open Lean PySem PySem.W PyProof.Rows PySem.Calls PySem.Spec
set_option Elab.async false
set_option maxRecDepth 100000
set_option maxHeartbeats 4000000
namespace Mine
noncomputable abbrev LO : List PySem.Str := looseW lawTop.view_39 [PySem.Str.ofString "Error", PySem.Str.ofString "ABC", PySem.Str.ofString "AbstractContextManager", PySem.Str.ofString "ParsingError"]
noncomputable abbrev ent (P : Params) (n : String) (t : Nat) (v : Value) : DictEntry := { hash := PyData.keyHash P (PySem.Str.ofString n), key := .str (PySem.Str.ofString n) t, val := v }
noncomputable abbrev tupO (vs : List Value) : Obj := { cls := .type "tuple", data := .seq vs.toArray }
noncomputable abbrev excF (d : Addr) (fl : Array Value) : Obj := { cls := .ref 189, dict := some d, data := .fields fl }
noncomputable abbrev fdict (P : Params) (k1 k2 k3 : Nat) (ms so : PySem.Str) (tm ts : Nat) (e : Addr) : Obj := dictOf [ent P "message" k1 (.str ms tm), ent P "source" k2 (.str so ts), ent P "errors" k3 (.ref e)] 3
/-- what one pair adds to the words -/
noncomputable def lineT (n : Int) (l : PySem.Str) : PySem.Str := PySem.Str.ofString "\n\t[line " ++ padT n ++ PySem.Str.ofString "]: " ++ PySem.reprText l
noncomputable def headT (so : PySem.Str) : PySem.Str := PySem.Str.ofString "Source contains parsing errors: " ++ PySem.reprText so
end Mine
namespace Mine
theorem newsSub {h₀ h : Heap} {L : Addr} {big small : List (Addr × Obj)} (N : News h₀ L h big) (hs : ∀ p ∈ small, p ∈ big) : News h₀ L h small := fun p hp => N p (hs p hp)
noncomputable abbrev exFl (t : Addr) : Array Value := #[.ref t, .none, .none, .none, .bool false, .none]
theorem allLt_all {d : Addr} : ∀ {l : List (Addr × Obj)}, AllLt d l → ∀ p ∈ l, p.1 < d
  | [], _, _, hp => (nomatch hp)
  | q :: r, h, p, hp => by
    rcases List.mem_cons.mp hp with rfl | hp
    · exact h.1
    · exact allLt_all h.2 p hp
theorem ne_p0 {a b : Nat} { q : Prop} (h : b < a ∧ q) : a ≠ b := Nat.ne_of_gt h.1
theorem ne_q0 {a b : Nat} { q : Prop} (h : a < b ∧ q) : a ≠ b := Nat.ne_of_lt h.1
theorem ne_p1 {a b : Nat} {p0 q : Prop} (h : p0 ∧ b < a ∧ q) : a ≠ b := Nat.ne_of_gt h.2.1
theorem ne_q1 {a b : Nat} {p0 q : Prop} (h : p0 ∧ a < b ∧ q) : a ≠ b := Nat.ne_of_lt h.2.1
theorem ne_p2 {a b : Nat} {p0 p1 q : Prop} (h : p0 ∧ p1 ∧ b < a ∧ q) : a ≠ b := Nat.ne_of_gt h.2.2.1
theorem ne_q2 {a b : Nat} {p0 p1 q : Prop} (h : p0 ∧ p1 ∧ a < b ∧ q) : a ≠ b := Nat.ne_of_lt h.2.2.1
theorem ne_p3 {a b : Nat} {p0 p1 p2 q : Prop} (h : p0 ∧ p1 ∧ p2 ∧ b < a ∧ q) : a ≠ b := Nat.ne_of_gt h.2.2.2.1
theorem ne_q3 {a b : Nat} {p0 p1 p2 q : Prop} (h : p0 ∧ p1 ∧ p2 ∧ a < b ∧ q) : a ≠ b := Nat.ne_of_lt h.2.2.2.1
theorem ne_p4 {a b : Nat} {p0 p1 p2 p3 q : Prop} (h : p0 ∧ p1 ∧ p2 ∧ p3 ∧ b < a ∧ q) : a ≠ b := Nat.ne_of_gt h.2.2.2.2.1
theorem ne_q4 {a b : Nat} {p0 p1 p2 p3 q : Prop} (h : p0 ∧ p1 ∧ p2 ∧ p3 ∧ a < b ∧ q) : a ≠ b := Nat.ne_of_lt h.2.2.2.2.1
theorem ne_p5 {a b : Nat} {p0 p1 p2 p3 p4 q : Prop} (h : p0 ∧ p1 ∧ p2 ∧ p3 ∧ p4 ∧ b < a ∧ q) : a ≠ b := Nat.ne_of_gt h.2.2.2.2.2.1
theorem ne_q5 {a b : Nat} {p0 p1 p2 p3 p4 q : Prop} (h : p0 ∧ p1 ∧ p2 ∧ p3 ∧ p4 ∧ a < b ∧ q) : a ≠ b := Nat.ne_of_lt h.2.2.2.2.2.1
theorem ne_p6 {a b : Nat} {p0 p1 p2 p3 p4 p5 q : Prop} (h : p0 ∧ p1 ∧ p2 ∧ p3 ∧ p4 ∧ p5 ∧ b < a ∧ q) : a ≠ b := Nat.ne_of_gt h.2.2.2.2.2.2.1
theorem ne_q6 {a b : Nat} {p0 p1 p2 p3 p4 p5 q : Prop} (h : p0 ∧ p1 ∧ p2 ∧ p3 ∧ p4 ∧ p5 ∧ a < b ∧ q) : a ≠ b := Nat.ne_of_lt h.2.2.2.2.2.2.1
theorem ne_p7 {a b : Nat} {p0 p1 p2 p3 p4 p5 p6 q : Prop} (h : p0 ∧ p1 ∧ p2 ∧ p3 ∧ p4 ∧ p5 ∧ p6 ∧ b < a ∧ q) : a ≠ b := Nat.ne_of_gt h.2.2.2.2.2.2.2.1
theorem ne_q7 {a b : Nat} {p0 p1 p2 p3 p4 p5 p6 q : Prop} (h : p0 ∧ p1 ∧ p2 ∧ p3 ∧ p4 ∧ p5 ∧ p6 ∧ a < b ∧ q) : a ≠ b := Nat.ne_of_lt h.2.2.2.2.2.2.2.1
theorem ne_p8 {a b : Nat} {p0 p1 p2 p3 p4 p5 p6 p7 q : Prop} (h : p0 ∧ p1 ∧ p2 ∧ p3 ∧ p4 ∧ p5 ∧ p6 ∧ p7 ∧ b < a ∧ q) : a ≠ b := Nat.ne_of_gt h.2.2.2.2.2.2.2.2.1
theorem ne_q8 {a b : Nat} {p0 p1 p2 p3 p4 p5 p6 p7 q : Prop} (h : p0 ∧ p1 ∧ p2 ∧ p3 ∧ p4 ∧ p5 ∧ p6 ∧ p7 ∧ a < b ∧ q) : a ≠ b := Nat.ne_of_lt h.2.2.2.2.2.2.2.2.1
theorem ne_p9 {a b : Nat} {p0 p1 p2 p3 p4 p5 p6 p7 p8 q : Prop} (h : p0 ∧ p1 ∧ p2 ∧ p3 ∧ p4 ∧ p5 ∧ p6 ∧ p7 ∧ p8 ∧ b < a ∧ q) : a ≠ b := Nat.ne_of_gt h.2.2.2.2.2.2.2.2.2.1
theorem ne_q9 {a b : Nat} {p0 p1 p2 p3 p4 p5 p6 p7 p8 q : Prop} (h : p0 ∧ p1 ∧ p2 ∧ p3 ∧ p4 ∧ p5 ∧ p6 ∧ p7 ∧ p8 ∧ a < b ∧ q) : a ≠ b := Nat.ne_of_lt h.2.2.2.2.2.2.2.2.2.1
theorem ne_p10 {a b : Nat} {p0 p1 p2 p3 p4 p5 p6 p7 p8 p9 q : Prop} (h : p0 ∧ p1 ∧ p2 ∧ p3 ∧ p4 ∧ p5 ∧ p6 ∧ p7 ∧ p8 ∧ p9 ∧ b < a ∧ q) : a ≠ b := Nat.ne_of_gt h.2.2.2.2.2.2.2.2.2.2.1
theorem ne_q10 {a b : Nat} {p0 p1 p2 p3 p4 p5 p6 p7 p8 p9 q : Prop} (h : p0 ∧ p1 ∧ p2 ∧ p3 ∧ p4 ∧ p5 ∧ p6 ∧ p7 ∧ p8 ∧ p9 ∧ a < b ∧ q) : a ≠ b := Nat.ne_of_lt h.2.2.2.2.2.2.2.2.2.2.1
theorem ne_p11 {a b : Nat} {p0 p1 p2 p3 p4 p5 p6 p7 p8 p9 p10 q : Prop} (h : p0 ∧ p1 ∧ p2 ∧ p3 ∧ p4 ∧ p5 ∧ p6 ∧ p7 ∧ p8 ∧ p9 ∧ p10 ∧ b < a ∧ q) : a ≠ b := Nat.ne_of_gt h.2.2.2.2.2.2.2.2.2.2.2.1
theorem ne_q11 {a b : Nat} {p0 p1 p2 p3 p4 p5 p6 p7 p8 p9 p10 q : Prop} (h : p0 ∧ p1 ∧ p2 ∧ p3 ∧ p4 ∧ p5 ∧ p6 ∧ p7 ∧ p8 ∧ p9 ∧ p10 ∧ a < b ∧ q) : a ≠ b := Nat.ne_of_lt h.2.2.2.2.2.2.2.2.2.2.2.1
theorem ne_p12 {a b : Nat} {p0 p1 p2 p3 p4 p5 p6 p7 p8 p9 p10 p11 q : Prop} (h : p0 ∧ p1 ∧ p2 ∧ p3 ∧ p4 ∧ p5 ∧ p6 ∧ p7 ∧ p8 ∧ p9 ∧ p10 ∧ p11 ∧ b < a ∧ q) : a ≠ b := Nat.ne_of_gt h.2.2.2.2.2.2.2.2.2.2.2.2.1
theorem ne_q12 {a b : Nat} {p0 p1 p2 p3 p4 p5 p6 p7 p8 p9 p10 p11 q : Prop} (h : p0 ∧ p1 ∧ p2 ∧ p3 ∧ p4 ∧ p5 ∧ p6 ∧ p7 ∧ p8 ∧ p9 ∧ p10 ∧ p11 ∧ a < b ∧ q) : a ≠ b := Nat.ne_of_lt h.2.2.2.2.2.2.2.2.2.2.2.2.1
theorem ne_p13 {a b : Nat} {p0 p1 p2 p3 p4 p5 p6 p7 p8 p9 p10 p11 p12 q : Prop} (h : p0 ∧ p1 ∧ p2 ∧ p3 ∧ p4 ∧ p5 ∧ p6 ∧ p7 ∧ p8 ∧ p9 ∧ p10 ∧ p11 ∧ p12 ∧ b < a ∧ q) : a ≠ b := Nat.ne_of_gt h.2.2.2.2.2.2.2.2.2.2.2.2.2.1
theorem ne_q13 {a b : Nat} {p0 p1 p2 p3 p4 p5 p6 p7 p8 p9 p10 p11 p12 q : Prop} (h : p0 ∧ p1 ∧ p2 ∧ p3 ∧ p4 ∧ p5 ∧ p6 ∧ p7 ∧ p8 ∧ p9 ∧ p10 ∧ p11 ∧ p12 ∧ a < b ∧ q) : a ≠ b := Nat.ne_of_lt h.2.2.2.2.2.2.2.2.2.2.2.2.2.1
theorem ne_p14 {a b : Nat} {p0 p1 p2 p3 p4 p5 p6 p7 p8 p9 p10 p11 p12 p13 q : Prop} (h : p0 ∧ p1 ∧ p2 ∧ p3 ∧ p4 ∧ p5 ∧ p6 ∧ p7 ∧ p8 ∧ p9 ∧ p10 ∧ p11 ∧ p12 ∧ p13 ∧ b < a ∧ q) : a ≠ b := Nat.ne_of_gt h.2.2.2.2.2.2.2.2.2.2.2.2.2.2.1
theorem ne_q14 {a b : Nat} {p0 p1 p2 p3 p4 p5 p6 p7 p8 p9 p10 p11 p12 p13 q : Prop} (h : p0 ∧ p1 ∧ p2 ∧ p3 ∧ p4 ∧ p5 ∧ p6 ∧ p7 ∧ p8 ∧ p9 ∧ p10 ∧ p11 ∧ p12 ∧ p13 ∧ a < b ∧ q) : a ≠ b := Nat.ne_of_lt h.2.2.2.2.2.2.2.2.2.2.2.2.2.2.1
theorem gen_QE {α : Type} {M : Model} {A : Around} {t : Sem α} {Q : α → Shared → Prop} {E : Value → Shared → Prop} {s : Shared} (h : ∀ (Q' : α → Shared → Prop) (E' : Value → Shared → Prop), Q = Q' → E = E' → wpAny M A t Q' E' s) : wpAny M A t Q E s := h Q E rfl rfl
theorem gen_toks {α : Type} {M : Model} {A : Around} {t : Sem α} {Q : α → Shared → Prop} {E : Value → Shared → Prop} {hp : Heap} {g : Array GenState} {d : Drawn} {k : Nat} {os : OsState} (h : ∀ k, wpAny M A t Q E ⟨hp, g, d, k, os⟩) : wpAny M A t Q E ⟨hp, g, d, k, os⟩ := h k
theorem norm_s {α : Type} {M : Model} {A : Around} {t : Sem α} {Q : α → Shared → Prop} {E : Value → Shared → Prop} {s s' : Shared} (e : s = s') (h : wpAny M A t Q E s') : wpAny M A t Q E s := e ▸ h
theorem ne_r {a b : Nat} (h : b < a) : a ≠ b := Nat.ne_of_gt h
theorem ne_s {a b : Nat} (h : a < b) : a ≠ b := Nat.ne_of_lt h
end Mine
end
section
open PySem PySem.W PyProof.Rows PySem.Calls PySem.Spec
set_option Elab.async false
set_option maxRecDepth 100000
set_option maxHeartbeats 4000000
namespace Mine
/-- a fault: its object, dict, args tuple, errors list; its told list; its source; its pairs -/
structure FT where
  x : Nat
  d : Nat
  t : Nat
  e : Nat
  u : Nat
  so : PySem.Str
  ps : List (Int × PySem.Str)
abbrev Ledger := List (Addr × Obj)
noncomputable def msgT (so : PySem.Str) (ps : List (Int × PySem.Str)) : PySem.Str := ps.foldl (fun a p => a ++ lineT p.1 p.2) (headT so)
noncomputable def fileT (k : Nat) : PySem.Str := PySem.Str.ofString "file " ++ PySem.Str.ofString (toString (k : Int))
inductive PairsIn (nx : Ledger) : List Value → List (Int × PySem.Str) → Prop where
  | nil : PairsIn nx [] []
  | cons {a : Nat} {p : Int × PySem.Str} {t1 t2 : Nat} {vs : List Value} {ps : List (Int × PySem.Str)} : (a, tupO [.int p.1 t1, .str p.2 t2]) ∈ nx → PairsIn nx vs ps → PairsIn nx (.ref a :: vs) (p :: ps)
structure OkPair (p : Int × PySem.Str) : Prop where
  lo : -100 ≤ p.1
  hi : p.1 < 1100
  rp : (PySem.reprText p.2).length ≤ 20
  ok : PyData.strOk p.2 = true
  rk : PyData.strOk (PySem.reprText p.2) = true
inductive FaultIn (P : Params) (nx : Ledger) (f : FT) : Prop
  | mk (fl : Array Value) (k1 k2 k3 tm ts ts' en : Nat) (ev : List Value) (h0 : fl[0]? = some (.ref f.t)) (h1 : (f.x, excF f.d fl) ∈ nx) (h2 : (f.d, fdict P k1 k2 k3 (msgT f.so f.ps) f.so tm ts f.e) ∈ nx) (h3 : (f.t, tupO [.str f.so ts']) ∈ nx) (h4 : (f.e, W.listOf (List.toArray ev) en) ∈ nx) (h5 : PairsIn nx ev f.ps) : FaultIn P nx f
inductive ToldIn (nx : Ledger) (f : FT) : Prop
  | mk (un : Nat) (uv : List Value) (h1 : (f.u, W.listOf (List.toArray uv) un) ∈ nx) (h2 : PairsIn nx uv f.ps) : ToldIn nx f
def Func (nx : Ledger) : Prop := ∀ a o o', (a, o) ∈ nx → (a, o') ∈ nx → o = o'
theorem Func.of {h₀ h : Heap} {L : Addr} {nx : Ledger} (N : News h₀ L h nx) : Func nx := fun a o o' h1 h2 => by
  have e1 := (N _ h1).1
  have e2 := (N _ h2).1
  exact Option.some.inj (e1.symm.trans e2)
theorem PairsIn.length {nx : Ledger} {vs : List Value} {ps : List (Int × PySem.Str)} (h : PairsIn nx vs ps) : vs.length = ps.length := by
  induction h with
  | nil => rfl
  | cons _ _ ih => simp [ih]
theorem PairsIn.mono {nx nx' : Ledger} {vs : List Value} {ps : List (Int × PySem.Str)} (h : PairsIn nx vs ps) (hs : ∀ a vs, (a, tupO vs) ∈ nx → (a, tupO vs) ∈ nx') : PairsIn nx' vs ps := by
  induction h with
  | nil => exact .nil
  | cons hm _ ih => exact .cons (hs _ _ hm) ih
theorem PairsIn.append {nx : Ledger} {vs ws : List Value} {ps qs : List (Int × PySem.Str)} (h : PairsIn nx vs ps) (h' : PairsIn nx ws qs) : PairsIn nx (vs ++ ws) (ps ++ qs) := by
  induction h with
  | nil => exact h'
  | cons hm _ ih => exact .cons hm ih
theorem PairsIn.snoc {nx : Ledger} {vs : List Value} {ps : List (Int × PySem.Str)} {a : Nat} {n : Int} {l : PySem.Str} {t1 t2 : Nat} (h : PairsIn nx vs ps) (hm : (a, tupO [.int n t1, .str l t2]) ∈ nx) : PairsIn nx (vs ++ [.ref a]) (ps ++ [(n, l)]) :=
  h.append (.cons (p := (n, l)) hm .nil)

/-- what stays when the objects at C (lists and dicts) change -/
structure Keep (nx nx' : Ledger) (C : List Nat) : Prop where
  stay : ∀ p ∈ nx, p.1 ∉ C → p ∈ nx'
  soft : ∀ c ∈ C, ∃ o, (c, o) ∈ nx ∧ (o.cls = .type "list" ∨ o.cls = .type "dict")
theorem Keep.other {nx nx' : Ledger} {C : List Nat} (K : Keep nx nx' C) (F : Func nx) {a : Nat} {o : Obj} (h : (a, o) ∈ nx) (h1 : o.cls ≠ .type "list") (h2 : o.cls ≠ .type "dict") : (a, o) ∈ nx' := by
  refine K.stay _ h fun hc => ?_
  obtain ⟨o', h', hs⟩ := K.soft _ hc
  have e := F _ _ _ h h'
  subst e
  exact hs.elim h1 h2
theorem Keep.tup {nx nx' : Ledger} {C : List Nat} (K : Keep nx nx' C) (F : Func nx) : ∀ a vs, (a, tupO vs) ∈ nx → (a, tupO vs) ∈ nx' := fun a vs h => K.other F h (by simp) (by simp)
theorem FaultIn.keep {P : Params} {nx nx' : Ledger} {C : List Nat} {f : FT} (K : Keep nx nx' C) (F : Func nx) (h : FaultIn P nx f) (hd : f.d ∉ C) (he : f.e ∉ C) : FaultIn P nx' f := by
  obtain ⟨fl, k1, k2, k3, tm, ts, ts', en, ev, h0, h1, h2, h3, h4, h5⟩ := h
  exact ⟨fl, k1, k2, k3, tm, ts, ts', en, ev, h0, K.other F h1 (by simp) (by simp), K.stay _ h2 hd, K.tup F _ _ h3, K.stay _ h4 he, h5.mono (K.tup F)⟩
theorem ToldIn.keep {nx nx' : Ledger} {C : List Nat} {f : FT} (K : Keep nx nx' C) (F : Func nx) (h : ToldIn nx f) (hu : f.u ∉ C) : ToldIn nx' f := by
  obtain ⟨un, uv, h1, h2⟩ := h
  exact ⟨un, uv, K.stay _ h1 hu, h2.mono (K.tup F)⟩

structure St (P : Params) (nx : Ledger) (Fa Ta c : Nat) (fs : List FT) : Prop where
  fa : ∃ fn, (Fa, W.listOf (List.toArray (fs.map fun f => Value.ref f.x)) fn) ∈ nx
  ta : ∃ tn, (Ta, W.listOf (List.toArray (fs.map fun f => Value.ref f.u)) tn) ∈ nx
  fault : ∀ f ∈ fs, FaultIn P nx f
  told : ∀ f ∈ fs, ToldIn nx f
  okp : ∀ f ∈ fs, ∀ p ∈ f.ps, OkPair p
  nod : (Fa :: Ta :: (fs.map (·.e) ++ fs.map (·.u))).Nodup
  file : ∀ k f, fs[k]? = some f → f.so = fileT k
  total : (fs.map fun f => f.ps.length).sum ≤ c
  count : fs.length ≤ c
  raw : ∀ f ∈ fs, (f.x, excF f.d (exFl f.t)) ∈ nx
theorem fault_inj {P : Params} {nx : Ledger} {f g : FT} (F : Func nx) (hf : FaultIn P nx f) (hg : FaultIn P nx g) (h : f.d = g.d) : f.e = g.e := by
  obtain ⟨fl, k1, k2, k3, tm, ts, ts', en, ev, h0, h1, h2, h3, h4, h5⟩ := hf
  obtain ⟨fl', k1', k2', k3', tm', ts'', ts''', en', ev', h0', h1', h2', h3', h4', h5'⟩ := hg
  rw [h] at h2
  have e := F _ _ _ h2 h2'
  simp only [Obj.mk.injEq, Data.dict.injEq, true_and, and_true] at e
  simp at e
  exact e.2.2.2
theorem Func.ne {nx : Ledger} (F : Func nx) {a b : Nat} {o o' : Obj} (h1 : (a, o) ∈ nx) (h2 : (b, o') ∈ nx) (h : o ≠ o') : @Ne Nat a b := fun e => h (F _ _ _ h1 (e ▸ h2))
theorem FaultIn.mem_e {P : Params} {nx : Ledger} {f : FT} (h : FaultIn P nx f) : ∃ o, (f.e, o) ∈ nx ∧ o.cls = .type "list" := by
  obtain ⟨fl, k1, k2, k3, tm, ts, ts', en, ev, h0, h1, h2, h3, h4, h5⟩ := h
  exact ⟨_, h4, rfl⟩
theorem FaultIn.mem_d {P : Params} {nx : Ledger} {f : FT} (h : FaultIn P nx f) : ∃ o, (f.d, o) ∈ nx ∧ o.cls = .type "dict" := by
  obtain ⟨fl, k1, k2, k3, tm, ts, ts', en, ev, h0, h1, h2, h3, h4, h5⟩ := h
  exact ⟨_, h2, rfl⟩
theorem ToldIn.mem_u {nx : Ledger} {f : FT} (h : ToldIn nx f) : ∃ o, (f.u, o) ∈ nx ∧ o.cls = .type "list" := by
  obtain ⟨un, uv, h1, h2⟩ := h
  exact ⟨_, h1, rfl⟩
theorem Func.neC {nx : Ledger} (F : Func nx) {a b : Nat} (h1 : ∃ o, (a, o) ∈ nx ∧ o.cls = .type "dict") (h2 : ∃ o, (b, o) ∈ nx ∧ o.cls = .type "list") : a ≠ b := by
  obtain ⟨o, h1, c1⟩ := h1
  obtain ⟨o', h2, c2⟩ := h2
  refine F.ne h1 h2 fun e => ?_
  subst e
  rw [c1] at c2
  exact absurd c2 (by decide)
theorem St.push {P : Params} {nx nx' : Ledger} {Fa Ta c : Nat} {gs : List FT} {f : FT} {p : Int × PySem.Str} (S : St P nx Fa Ta c (gs ++ [f])) (F : Func nx) (K : Keep nx nx' [f.d, f.e, f.u]) (hp : OkPair p)
    (hf : FaultIn P nx' { f with ps := f.ps ++ [p] }) (ht : ToldIn nx' { f with ps := f.ps ++ [p] }) : St P nx' Fa Ta (c + 1) (gs ++ [{ f with ps := f.ps ++ [p] }]) := by
  have fF : FaultIn P nx f := S.fault f (by simp)
  have fT : ToldIn nx f := S.told f (by simp)
  have nod := S.nod
  simp only [List.map_append, List.map_cons, List.map_nil] at nod
  have nodE : ∀ g ∈ gs, g.e ≠ f.e ∧ g.e ≠ f.u ∧ g.u ≠ f.e ∧ g.u ≠ f.u := by
    intro g hg
    have n2 := (List.nodup_cons.mp (List.nodup_cons.mp nod).2).2
    have hge : g.e ∈ gs.map (·.e) := List.mem_map_of_mem hg
    have hgu : g.u ∈ gs.map (·.u) := List.mem_map_of_mem hg
    rw [List.nodup_append] at n2
    obtain ⟨nE, nU, nEU⟩ := n2
    rw [List.nodup_append] at nE nU
    refine ⟨nE.2.2 _ hge _ (by simp), nEU _ (List.mem_append.mpr (.inl hge)) _ (by simp), fun e => nEU f.e (by simp) g.u (List.mem_append.mpr (.inl hgu)) e.symm, nU.2.2 _ hgu _ (by simp)⟩
  have nF := (List.nodup_cons.mp nod).1
  have nT := (List.nodup_cons.mp (List.nodup_cons.mp nod).2).1
  simp only [List.mem_cons, List.mem_append, List.mem_map, not_or, List.not_mem_nil, or_false] at nF nT
  have fm := S.fa
  have tm := S.ta
  simp only [List.map_append, List.map_cons, List.map_nil] at fm tm
  refine ⟨?_, ?_, ?_, ?_, ?_, ?_, ?_, ?_, ?_, ?_⟩
  · obtain ⟨fn, hm⟩ := fm
    refine ⟨fn, ?_⟩
    simp only [List.map_append, List.map_cons, List.map_nil]
    refine K.stay _ hm fun hc => ?_
    simp only [List.mem_cons, List.not_mem_nil, or_false] at hc
    rcases hc with hc | hc | hc
    · exact F.neC fF.mem_d ⟨_, hm, rfl⟩ hc.symm
    · exact nF.2.1.2 hc
    · exact nF.2.2.2 hc
  · obtain ⟨tn, hm⟩ := tm
    refine ⟨tn, ?_⟩
    simp only [List.map_append, List.map_cons, List.map_nil]
    refine K.stay _ hm fun hc => ?_
    simp only [List.mem_cons, List.not_mem_nil, or_false] at hc
    rcases hc with hc | hc | hc
    · exact F.neC fF.mem_d ⟨_, hm, rfl⟩ hc.symm
    · exact nT.1.2 hc
    · exact nT.2.2 hc
  · intro g hg
    rcases List.mem_append.mp hg with hg | hg
    · have gF := S.fault g (by simp [hg])
      have ne := nodE g hg
      refine gF.keep K F (fun hc => ?_) fun hc => ?_
      · simp only [List.mem_cons, List.not_mem_nil, or_false] at hc
        rcases hc with hc | hc | hc
        · exact ne.1 (fault_inj F gF fF hc)
        · exact F.neC gF.mem_d fF.mem_e hc
        · exact F.neC gF.mem_d fT.mem_u hc
      · simp only [List.mem_cons, List.not_mem_nil, or_false] at hc
        rcases hc with hc | hc | hc
        · exact F.neC fF.mem_d gF.mem_e hc.symm
        · exact ne.1 hc
        · exact ne.2.1 hc
    · rw [List.mem_singleton.mp hg]; exact hf
  · intro g hg
    rcases List.mem_append.mp hg with hg | hg
    · have gT := S.told g (by simp [hg])
      have ne := nodE g hg
      refine gT.keep K F fun hc => ?_
      simp only [List.mem_cons, List.not_mem_nil, or_false] at hc
      rcases hc with hc | hc | hc
      · exact F.neC fF.mem_d gT.mem_u hc.symm
      · exact ne.2.2.1 hc
      · exact ne.2.2.2 hc
    · rw [List.mem_singleton.mp hg]; exact ht
  · intro g hg q hq
    rcases List.mem_append.mp hg with hg | hg
    · exact S.okp g (by simp [hg]) q hq
    · rw [List.mem_singleton.mp hg] at hq
      rcases List.mem_append.mp hq with hq | hq
      · exact S.okp f (by simp) q hq
      · rw [List.mem_singleton.mp hq]; exact hp
  · simpa using S.nod
  · intro k g hk
    by_cases hlt : k < gs.length
    · rw [List.getElem?_append_left hlt] at hk
      exact S.file k g (by rw [List.getElem?_append_left hlt]; exact hk)
    · rw [List.getElem?_append_right (by omega)] at hk
      have := S.file k f
      rw [List.getElem?_append_right (by omega)] at this
      cases hj : k - gs.length with
      | zero => rw [hj] at hk this; simp at hk; subst hk; exact this rfl
      | succ j => rw [hj] at hk; simp at hk
  · have := S.total; simp at this ⊢; omega
  · have := S.count; simp at this ⊢; omega
  · intro g hg
    rcases List.mem_append.mp hg with hg | hg
    · exact K.other F (S.raw g (by simp [hg])) (by simp) (by simp)
    · rw [List.mem_singleton.mp hg]; exact K.other F (S.raw f (by simp)) (by simp) (by simp)
theorem St.new {P : Params} {nx nx' : Ledger} {Fa Ta c : Nat} {fs : List FT} {f : FT} (S : St P nx Fa Ta c fs) (F : Func nx) (K : Keep nx nx' [Fa, Ta])
    (fa : ∃ fn, (Fa, W.listOf (List.toArray (fs.map (fun f => Value.ref f.x) ++ [Value.ref f.x])) fn) ∈ nx') (ta : ∃ fn, (Ta, W.listOf (List.toArray (fs.map (fun f => Value.ref f.u) ++ [Value.ref f.u])) fn) ∈ nx')
    (hf : FaultIn P nx' f) (ht : ToldIn nx' f) (hraw : (f.x, excF f.d (exFl f.t)) ∈ nx') (hok : ∀ p ∈ f.ps, OkPair p) (hlen : f.ps.length ≤ 1) (hso : f.so = fileT fs.length) (fresh : ∀ p ∈ nx, p.1 ≠ f.e ∧ p.1 ≠ f.u) (heu : f.e ≠ f.u) : St P nx' Fa Ta (c + 1) (fs ++ [f]) := by
  obtain ⟨_, hFa⟩ := S.fa
  obtain ⟨_, hTa⟩ := S.ta
  have nod := S.nod
  have nF := (List.nodup_cons.mp nod).1
  have nT := (List.nodup_cons.mp (List.nodup_cons.mp nod).2).1
  simp only [List.mem_cons, List.mem_append, not_or] at nF nT
  refine ⟨by simpa using fa, by simpa using ta, ?_, ?_, ?_, ?_, ?_, ?_, ?_, ?_⟩
  · intro g hg
    rcases List.mem_append.mp hg with hg | hg
    · have gF := S.fault g hg
      refine gF.keep K F (fun hc => ?_) fun hc => ?_
      · simp only [List.mem_cons, List.not_mem_nil, or_false] at hc
        rcases hc with hc | hc
        · exact F.neC gF.mem_d ⟨_, hFa, rfl⟩ hc
        · exact F.neC gF.mem_d ⟨_, hTa, rfl⟩ hc
      · simp only [List.mem_cons, List.not_mem_nil, or_false] at hc
        rcases hc with hc | hc
        · exact nF.2.1 (hc ▸ List.mem_map_of_mem (f := (·.e)) hg)
        · exact nT.1 (hc ▸ List.mem_map_of_mem (f := (·.e)) hg)
    · rw [List.mem_singleton.mp hg]; exact hf
  · intro g hg
    rcases List.mem_append.mp hg with hg | hg
    · have gT := S.told g hg
      refine gT.keep K F fun hc => ?_
      simp only [List.mem_cons, List.not_mem_nil, or_false] at hc
      rcases hc with hc | hc
      · exact nF.2.2 (hc ▸ List.mem_map_of_mem (f := (·.u)) hg)
      · exact nT.2 (hc ▸ List.mem_map_of_mem (f := (·.u)) hg)
    · rw [List.mem_singleton.mp hg]; exact ht
  · intro g hg q hq
    rcases List.mem_append.mp hg with hg | hg
    · exact S.okp g hg q hq
    · rw [List.mem_singleton.mp hg] at hq; exact hok q hq
  · have fe : ∀ g ∈ fs, g.e ≠ f.e ∧ g.e ≠ f.u ∧ g.u ≠ f.e ∧ g.u ≠ f.u := fun g hg => by
      obtain ⟨o, h, _⟩ := (S.fault g hg).mem_e
      obtain ⟨o', h', _⟩ := (S.told g hg).mem_u
      exact ⟨(fresh _ h).1, (fresh _ h).2, (fresh _ h').1, (fresh _ h').2⟩
    have n2 := (List.nodup_cons.mp (List.nodup_cons.mp nod).2).2
    rw [List.nodup_append] at n2
    obtain ⟨nE, nU, nEU⟩ := n2
    have FF := fresh _ hFa
    have FT := fresh _ hTa
    simp only [List.map_append, List.map_cons, List.map_nil]
    refine List.nodup_cons.mpr ⟨?_, List.nodup_cons.mpr ⟨?_, ?_⟩⟩
    · simp only [List.mem_cons, List.mem_append, List.not_mem_nil, or_false, not_or]
      exact ⟨nF.1, ⟨nF.2.1, FF.1⟩, nF.2.2, FF.2⟩
    · simp only [List.mem_cons, List.mem_append, List.not_mem_nil, or_false, not_or]
      exact ⟨⟨nT.1, FT.1⟩, nT.2, FT.2⟩
    · rw [List.nodup_append, List.nodup_append, List.nodup_append]
      refine ⟨⟨nE, by simp, ?_⟩, ⟨nU, by simp, ?_⟩, ?_⟩
      · intro a ha b hb
        obtain ⟨g, hg, rfl⟩ := List.mem_map.mp ha
        rw [List.mem_singleton.mp hb]; exact (fe g hg).1
      · intro a ha b hb
        obtain ⟨g, hg, rfl⟩ := List.mem_map.mp ha
        rw [List.mem_singleton.mp hb]; exact (fe g hg).2.2.2
      · intro a ha b hb
        rcases List.mem_append.mp ha with ha | ha <;> rcases List.mem_append.mp hb with hb | hb
        · exact nEU a ha b hb
        · obtain ⟨g, hg, rfl⟩ := List.mem_map.mp ha
          rw [List.mem_singleton.mp hb]; exact (fe g hg).2.1
        · obtain ⟨g, hg, rfl⟩ := List.mem_map.mp hb
          rw [List.mem_singleton.mp ha]; exact fun e => (fe g hg).2.2.1 e.symm
        · rw [List.mem_singleton.mp ha, List.mem_singleton.mp hb]; exact heu
  · intro k g hk
    by_cases hlt : k < fs.length
    · rw [List.getElem?_append_left hlt] at hk
      exact S.file k g hk
    · rw [List.getElem?_append_right (by omega)] at hk
      cases hj : k - fs.length with
      | zero =>
        rw [hj] at hk; simp at hk; subst hk
        have : k = fs.length := by omega
        rw [this]; exact hso
      | succ j => rw [hj] at hk; simp at hk
  · have := S.total; simp at this ⊢; omega
  · have := S.count; simp at this ⊢; omega
  · intro g hg
    rcases List.mem_append.mp hg with hg | hg
    · exact K.other F (S.raw g hg) (by simp) (by simp)
    · rw [List.mem_singleton.mp hg]; exact hraw
/-- the loop's state -/
structure JJ (P : Params) (L Fa Ta i : Nat) (m : PySem.Str → Option Value) (nx : Ledger) : Prop where
  fau : m (PySem.Str.ofString "faults") = some (.ref Fa)
  cell : ∃ oc, (L + 1, oc) ∈ nx ∧ oc.data = .cell (some (.ref Ta))
  st : ∃ fs, St P nx Fa Ta i fs
theorem JJ.start {P : Params} {L Fa Ta : Nat} {m : PySem.Str → Option Value} {oc : Obj} (h1 : m (PySem.Str.ofString "faults") = some (.ref Fa)) (h2 : oc.data = .cell (some (.ref Ta))) (h3 : Fa < Ta) : JJ P L Fa Ta 0 m [(Ta, W.listOf #[] 0), (Fa, W.listOf #[] 0), (L + 1, oc)] :=
  ⟨h1, ⟨_, by simp, h2⟩, [], ⟨0, by simp⟩, ⟨0, by simp⟩, by simp, by simp, by simp, by simp; omega, by simp, by simp, by simp, by simp⟩
noncomputable def restOf (nx : Ledger) (C : List Nat) : Ledger := nx.filter fun p => decide (p.1 ∉ C)
theorem restOf_off (nx : Ledger) (C : List Nat) : OwnOff (restOf nx C) C := fun p hp b hb e => by
  have := (List.mem_filter.mp hp).2
  simp at this
  exact this (e ▸ hb)
theorem restOf_sub {nx : Ledger} {C : List Nat} {p : Addr × Obj} (h : p ∈ restOf nx C) : p ∈ nx := (List.mem_filter.mp h).1
theorem mem_restOf {nx : Ledger} {C : List Nat} {p : Addr × Obj} (h : p ∈ nx) (hc : p.1 ∉ C) : p ∈ restOf nx C := List.mem_filter.mpr ⟨h, by simpa using hc⟩
end Mine
end
section
open Lean PySem PySem.W PyProof.Rows PySem.Calls PySem.Spec
set_option Elab.async false
set_option maxRecDepth 100000
set_option maxHeartbeats 4000000
namespace Mine
section
variable {prog : Program} {w : World} {A : Around} {E : Value → Shared → Prop} {s : Shared} {L D : Addr} {h₀ : Heap} {news : List (Addr × Obj)} {n : Nat} {u : Tok} {k : Int} {vs : List Value} {value slice : PySem.Expr} {Q : Value → Shared → Prop}
def LineAt (v : Value) : Prop := ∃ li t, v = .str li t ∧ (PySem.reprText li).length ≤ 20 ∧ PyData.strOk li = true ∧ PyData.strOk (PySem.reprText li) = true
theorem x_line (N : News h₀ L s.heap news) (hm : (D, W.listOf vs.toArray n) ∈ news) (hw : ∀ v ∈ vs, LineAt v) (h0 : 0 ≤ k) (h1 : k < (vs.length : Int)) (hfit : k < 2 ^ 63) (h : ∀ li t, (PySem.reprText li).length ≤ 20 → PyData.strOk li = true → PyData.strOk (PySem.reprText li) = true → Q (.str li t) s)
    (hs : subscripted slice false (.ref D) (.int k u) = operate [.ref D, .int k u] (getItem (.ref D) (.int k u)) := by with_unfolding_all rfl) :
    wpAny (model prog w) A (subscriptTail value slice (.ref D) (.int k u)) Q E s := by
  have hlt : k.toNat < vs.length := by omega
  obtain ⟨li, t, e, r, o, q⟩ := hw _ (List.getElem_mem hlt)
  have hl : s.heap.IsList D vs.toArray := News.isList N hm
  exact tail_any hl.typeIs slot_list_getitem.lookup (wpAny_getItem_list hl h0 hfit (x := .str li t) (by simp [List.getElem?_eq_getElem hlt, e]) (h li t r o q)) hs
theorem x_last {v : Value} (N : News h₀ L s.heap news) (hm : (D, W.listOf (List.toArray (vs ++ [v])) n) ∈ news) (hn : vs.length ≤ 100) (h : Q v s)
    (hs : subscripted slice false (.ref D) (.int (-1) u) = operate [.ref D, .int (-1) u] (getItem (.ref D) (.int (-1) u)) := by with_unfolding_all rfl) :
    wpAny (model prog w) A (subscriptTail value slice (.ref D) (.int (-1) u)) Q E s := by
  have hl : s.heap.IsList D (List.toArray (vs ++ [v])) := News.isList N hm
  have sz : (List.toArray (vs ++ [v])).size = vs.length + 1 := by simp
  refine tail_any hl.typeIs slot_list_getitem.lookup (wpAny_getItem_list_neg hl (by decide) (by rw [sz]; omega) (by decide) ?_ h) hs
  rw [sz]
  have : ((-1 : Int) + ((vs.length + 1 : Nat) : Int)).toNat = vs.length := by omega
  rw [this]
  simp
theorem x_len (N : News h₀ L s.heap news) (hm : (D, W.listOf vs.toArray n) ∈ news) (hn : vs.length ≤ 100) (h : Q (.int (vs.length : Nat) (s.toks + 1)) { s with toks := s.toks + 1 + 1 }) :
    wpAny (model prog w) A (call (.builtin "len") [.ref D]) Q E s :=
  KM.len_K N hm (by rw [List.size_toArray]) (by omega) h
theorem x_at {v : Value} (N : News h₀ L s.heap news) (hm : (D, W.listOf vs.toArray n) ∈ news) (hk : vs[k.toNat]? = some v) (h0 : 0 ≤ k) (hfit : k ≤ 100) (h : Q v s)
    (hs : subscripted slice false (.ref D) (.int k u) = operate [.ref D, .int k u] (getItem (.ref D) (.int k u)) := by with_unfolding_all rfl) :
    wpAny (model prog w) A (subscriptTail value slice (.ref D) (.int k u)) Q E s := by
  have hl : s.heap.IsList D vs.toArray := News.isList N hm
  exact tail_any hl.typeIs slot_list_getitem.lookup (wpAny_getItem_list hl h0 (by omega) (x := v) (by simpa using hk) h) hs
end
theorem lineAt {li : PySem.Str} {t : Nat} (h : (PySem.reprText li).length ≤ 20 ∧ PyData.strOk li = true ∧ PyData.strOk (PySem.reprText li) = true) : LineAt (.str li t) := ⟨li, t, rfl, h⟩
theorem lines6 {t1 t2 t3 t4 t5 t6 : Nat} : ∀ v ∈ [Value.str (PySem.Str.ofString "") t1, .str (PySem.Str.ofString "k\n") t2, .str (PySem.Str.ofString "it's") t3, .str (PySem.Str.ofString "\"") t4, .str (PySem.Str.ofString "a\tb") t5, .str (PySem.Str.ofString "\\ ") t6], LineAt v := by
  intro v hv
  simp only [List.mem_cons, List.not_mem_nil, or_false] at hv
  rcases hv with rfl | rfl | rfl | rfl | rfl | rfl <;> exact lineAt (by decide +kernel)
theorem fau_ext {m : PySem.Str → Option Value} {f : PySem.Str} {v : Value} (h : m f = some v) : m = fun z => if z = f then some v else m z := by
  funext z
  by_cases hz : z = f
  · simp [hz, h]
  · simp [hz]
theorem fm_lo (a : Int) {b : Int} (h : 0 < b) : 0 ≤ a.fmod b := Int.fmod_nonneg_of_pos a h
theorem fm_hi (a : Int) {b : Int} (h : 0 < b) : a.fmod b < b := Int.fmod_lt_of_pos a h
theorem fm_six (a : Int) : a.fmod 6 < ((6 : Nat) : Int) := fm_hi a (by decide)
theorem fm_fit (a : Int) : a.fmod 6 < 2 ^ 63 := Int.lt_trans (fm_hi a (b := 6) (by decide)) (by decide)
theorem no_lo (a : Int) : -100 ≤ a.fmod 1200 - 100 := by have := fm_lo a (b := 1200) (by decide); omega
theorem no_hi (a : Int) : a.fmod 1200 - 100 < 1100 := by have := fm_hi a (b := 1200) (by decide); omega
end Mine
end
section
open PySem PySem.W PyProof.Rows PySem.Calls PySem.Spec
set_option Elab.async false
set_option maxRecDepth 100000
set_option maxHeartbeats 4000000
namespace Mine
noncomputable abbrev cellV (a : Nat) : Data := .cell (some (.ref a))
theorem keep_of {nx nx' ex : Ledger} (F : Func nx) {C R : List Nat} (hr : ∀ p ∈ restOf nx R, p ∈ nx') (hex : ∀ p ∈ ex, p ∈ nx) (hin : ∀ p ∈ ex, p.1 ∉ C → p ∈ nx') (hR : ∀ r ∈ R, ∃ p ∈ ex, p.1 = r) (hs : ∀ c ∈ C, ∃ o, (c, o) ∈ nx ∧ (o.cls = .type "list" ∨ o.cls = .type "dict")) : Keep nx nx' C where
  stay := fun p hp hc => by
    by_cases h : p.1 ∈ R
    · obtain ⟨q, hq, e⟩ := hR _ h
      have : p = q := Prod.ext e.symm (F q.1 _ _ (by rw [e]; exact hp) (hex q hq))
      subst this
      exact hin _ hq hc
    · exact hr p (mem_restOf hp h)
  soft := hs
theorem nd_of {nx : Ledger} (F : Func nx) {ex : Ledger} (hex : ∀ p ∈ ex, p ∈ nx) (h : ex.Pairwise fun p q => p.2 ≠ q.2 ∨ p.1 ≠ q.1) : (ex.map (·.1)).Nodup := by
  induction ex with
  | nil => simp
  | cons p r ih =>
    obtain ⟨h1, h2⟩ := List.pairwise_cons.mp h
    refine List.nodup_cons.mpr ⟨fun hm => ?_, ih (fun q hq => hex q (.tail _ hq)) h2⟩
    obtain ⟨q, hq, e⟩ := List.mem_map.mp hm
    rcases h1 q hq with h | h
    · exact F.ne (hex p (.head _)) (hex q (.tail _ hq)) h e.symm
    · exact h e.symm
theorem cell_ne {oc o : Obj} {a : Nat} (h : oc.data = cellV a) (h2 : ∀ v, o.data ≠ .cell v) : o ≠ oc := fun e => h2 _ (e ▸ h)
inductive OpenApp (P : Params) (nx : Ledger) (Fa Ta L : Nat) (gs : List FT) (f : FT) (oc : Obj) : Prop
  | mk (fl : Array Value) (k1 k2 k3 tm ts ts' en : Nat) (ev : List Value) (un : Nat) (uv : List Value) (fn : Nat) (vs : List Value) (tn : Nat) (us : List Value) (h0 : fl[0]? = some (.ref f.t)) (h3 : (f.t, tupO [.str f.so ts']) ∈ nx) (evs : vs = (gs.map fun f => Value.ref f.x)) (eus : us = (gs.map fun f => Value.ref f.u)) (hE : PairsIn nx ev f.ps) (hU : PairsIn nx uv f.ps)
      (mem : ∀ p ∈ [(f.x, excF f.d fl), (f.d, fdict P k1 k2 k3 (msgT f.so f.ps) f.so tm ts f.e), (f.e, W.listOf (List.toArray ev) en), (f.u, W.listOf (List.toArray uv) un), (Fa, W.listOf (List.toArray (vs ++ [.ref f.x])) fn), (Ta, W.listOf (List.toArray (us ++ [.ref f.u])) tn), (L + 1, oc)], p ∈ nx)
      (nd : List.Nodup [f.x, f.d, f.e, f.u, Fa, Ta, L + 1]) : OpenApp P nx Fa Ta L gs f oc
theorem open_append {P : Params} {nx : Ledger} {Fa Ta i L : Nat} {gs : List FT} {f : FT} {oc : Obj} (S : St P nx Fa Ta i (gs ++ [f])) (F : Func nx) (hc : (L + 1, oc) ∈ nx) (hoc : oc.data = cellV Ta) :
    OpenApp P nx Fa Ta L gs f oc := by
  obtain ⟨fl, k1, k2, k3, tm, ts, ts', en, ev, h0, h1, h2, h3, h4, h5⟩ := S.fault f (by simp)
  obtain ⟨un, uv, g1, g2⟩ := S.told f (by simp)
  obtain ⟨fn, hF⟩ := S.fa
  obtain ⟨tn, hT⟩ := S.ta
  simp only [List.map_append, List.map_cons, List.map_nil] at hF hT
  have nod := S.nod
  simp only [List.map_append, List.map_cons, List.map_nil] at nod
  have nF := (List.nodup_cons.mp nod).1
  have nT := (List.nodup_cons.mp (List.nodup_cons.mp nod).2).1
  have n2 := (List.nodup_cons.mp (List.nodup_cons.mp nod).2).2
  rw [List.nodup_append] at n2
  have nEU : f.e ≠ f.u := n2.2.2 f.e (by simp) f.u (by simp)
  simp only [List.mem_cons, List.mem_append, not_or, List.not_mem_nil, or_false] at nF nT
  have mem : ∀ p ∈ [(f.x, excF f.d fl), (f.d, fdict P k1 k2 k3 (msgT f.so f.ps) f.so tm ts f.e), (f.e, W.listOf (List.toArray ev) en), (f.u, W.listOf (List.toArray uv) un), (Fa, W.listOf (List.toArray ((gs.map fun f => Value.ref f.x) ++ [.ref f.x])) fn), (Ta, W.listOf (List.toArray ((gs.map fun f => Value.ref f.u) ++ [.ref f.u])) tn), (L + 1, oc)], p ∈ nx := by
    intro p hp
    simp only [List.mem_cons, List.not_mem_nil, or_false] at hp
    rcases hp with rfl | rfl | rfl | rfl | rfl | rfl | rfl <;> assumption
  refine ⟨fl, k1, k2, k3, tm, ts, ts', en, ev, un, uv, fn, _, tn, _, h0, h3, rfl, rfl, h5, g2, mem, ?_⟩
  refine nd_of F mem ?_
  have C1 : ∀ o : Obj, (∀ v, o.data ≠ .cell v) → o ≠ oc := fun o h => cell_ne hoc h
  simp only [List.pairwise_cons, List.mem_cons, List.not_mem_nil, or_false, forall_eq_or_imp, forall_eq, List.Pairwise.nil, and_true, false_implies, implies_true]
  refine ⟨⟨?_, ?_, ?_, ?_, ?_, ?_⟩, ⟨?_, ?_, ?_, ?_, ?_⟩, ⟨?_, ?_, ?_, ?_⟩, ⟨?_, ?_, ?_⟩, ⟨?_, ?_⟩, ?_⟩ <;> first
    | exact .inl (C1 _ (fun v => by simp))
    | exact .inr nEU
    | exact .inr (fun e => nF.2.1.2 e.symm)
    | exact .inr (fun e => nF.2.2.2 e.symm)
    | exact .inr (fun e => nT.1.2 e.symm)
    | exact .inr (fun e => nT.2.2 e.symm)
    | exact .inr (fun e => nF.1 e)
    | exact .inl (by simp)
theorem close_append {P : Params} {nx nx' : Ledger} {Fa Ta i L : Nat} {gs : List FT} {f : FT} {oc : Obj} {m' : PySem.Str → Option Value} (S : St P nx Fa Ta i (gs ++ [f])) (F : Func nx) (hoc : oc.data = cellV Ta)
    {fl : Array Value} {k1 k2 k3 tm ts ts' en un fn tn tm' en' un' D D2 tno tli tno2 tli2 : Nat} {ev uv vs us : List Value} {no : Int} {li : PySem.Str} (h0 : fl[0]? = some (.ref f.t)) (h3 : (f.t, tupO [.str f.so ts']) ∈ nx) (hE : PairsIn nx ev f.ps) (hU : PairsIn nx uv f.ps)
    (mem : ∀ p ∈ [(f.x, excF f.d fl), (f.d, fdict P k1 k2 k3 (msgT f.so f.ps) f.so tm ts f.e), (f.e, W.listOf (List.toArray ev) en), (f.u, W.listOf (List.toArray uv) un), (Fa, W.listOf (List.toArray (vs ++ [.ref f.x])) fn), (Ta, W.listOf (List.toArray (us ++ [.ref f.u])) tn), (L + 1, oc)], p ∈ nx)
    (nd : List.Nodup [f.x, f.d, f.e, f.u, Fa, Ta, L + 1]) (hp : OkPair (no, li)) (hm : m' (PySem.Str.ofString "faults") = some (.ref Fa))
    (hr : ∀ p ∈ restOf nx [f.x, f.d, f.e, f.u, Fa, Ta, L + 1], p ∈ nx')
    (b1 : (f.x, excF f.d fl) ∈ nx') (b2 : (f.d, fdict P k1 k2 k3 (msgT f.so f.ps ++ lineT no li) f.so tm' ts f.e) ∈ nx') (b3 : (f.e, W.listOf (List.toArray (ev ++ [.ref D])) en') ∈ nx') (b4 : (f.u, W.listOf (List.toArray (uv ++ [.ref D2])) un') ∈ nx') (b5 : (Fa, W.listOf (List.toArray (vs ++ [.ref f.x])) fn) ∈ nx') (b6 : (Ta, W.listOf (List.toArray (us ++ [.ref f.u])) tn) ∈ nx') (b7 : (L + 1, oc) ∈ nx') (b8 : (D, tupO [.int no tno, .str li tli]) ∈ nx') (b9 : (D2, tupO [.int no tno2, .str li tli2]) ∈ nx') :
    JJ P L Fa Ta (i + 1) m' nx' := by
  simp only [List.mem_cons, List.not_mem_nil, or_false, forall_eq_or_imp, forall_eq] at mem
  obtain ⟨a1, a2, a3, a4, a5, a6, a7⟩ := mem
  simp only [List.nodup_cons, List.mem_cons, List.not_mem_nil, or_false, not_or, List.nodup_nil, and_true, not_false_eq_true] at nd
  have K : Keep nx nx' [f.d, f.e, f.u] := by
    refine keep_of F (ex := [(f.x, excF f.d fl), (f.d, fdict P k1 k2 k3 (msgT f.so f.ps) f.so tm ts f.e), (f.e, W.listOf (List.toArray ev) en), (f.u, W.listOf (List.toArray uv) un), (Fa, W.listOf (List.toArray (vs ++ [.ref f.x])) fn), (Ta, W.listOf (List.toArray (us ++ [.ref f.u])) tn), (L + 1, oc)]) hr ?_ ?_ ?_ ?_
    · simp only [List.mem_cons, List.not_mem_nil, or_false, forall_eq_or_imp, forall_eq]
      exact ⟨a1, a2, a3, a4, a5, a6, a7⟩
    · simp only [List.mem_cons, List.not_mem_nil, or_false, forall_eq_or_imp, forall_eq]
      exact ⟨fun _ => b1, fun h => absurd (by simp) h, fun h => absurd (by simp) h, fun h => absurd (by simp) h, fun _ => b5, fun _ => b6, fun _ => b7⟩
    · intro r hr
      simp only [List.mem_cons, List.not_mem_nil, or_false] at hr
      rcases hr with rfl | rfl | rfl | rfl | rfl | rfl | rfl <;> simp
    · intro c hc
      simp only [List.mem_cons, List.not_mem_nil, or_false] at hc
      rcases hc with rfl | rfl | rfl
      · exact ⟨_, a2, .inr rfl⟩
      · exact ⟨_, a3, .inl rfl⟩
      · exact ⟨_, a4, .inl rfl⟩
  have ktup := K.tup F
  refine ⟨hm, ⟨oc, b7, hoc⟩, _, S.push F K hp ⟨fl, k1, k2, k3, tm', ts, ts', _, _, h0, b1, ?_, ktup _ _ h3, b3, (hE.mono ktup).snoc b8⟩ ⟨_, _, b4, (hU.mono ktup).snoc b9⟩⟩
  show (f.d, fdict P k1 k2 k3 (msgT f.so (f.ps ++ [(no, li)])) f.so tm' ts f.e) ∈ nx'
  rw [msgT, List.foldl_append]
  exact b2
inductive OpenNew (nx : Ledger) (Fa Ta L : Nat) (fs : List FT) (oc : Obj) : Prop
  | mk (fn : Nat) (vs : List Value) (tn : Nat) (us : List Value) (evs : vs = (fs.map fun f => Value.ref f.x)) (eus : us = (fs.map fun f => Value.ref f.u)) (mem : ∀ p ∈ [(Fa, W.listOf (List.toArray vs) fn), (Ta, W.listOf (List.toArray us) tn), (L + 1, oc)], p ∈ nx) (nd : List.Nodup [Fa, Ta, L + 1]) : OpenNew nx Fa Ta L fs oc
theorem open_new {P : Params} {nx : Ledger} {Fa Ta i L : Nat} {fs : List FT} {oc : Obj} (S : St P nx Fa Ta i fs) (F : Func nx) (hc : (L + 1, oc) ∈ nx) (hoc : oc.data = cellV Ta) :
    OpenNew nx Fa Ta L fs oc := by
  obtain ⟨fn, hF⟩ := S.fa
  obtain ⟨tn, hT⟩ := S.ta
  have nF := (List.nodup_cons.mp S.nod).1
  simp only [List.mem_cons, not_or] at nF
  have mem : ∀ p ∈ [(Fa, W.listOf (List.toArray (fs.map fun f => Value.ref f.x)) fn), (Ta, W.listOf (List.toArray (fs.map fun f => Value.ref f.u)) tn), (L + 1, oc)], p ∈ nx := by
    intro p hp
    simp only [List.mem_cons, List.not_mem_nil, or_false] at hp
    rcases hp with rfl | rfl | rfl <;> assumption
  refine ⟨fn, _, tn, _, rfl, rfl, mem, nd_of F mem ?_⟩
  have C1 : ∀ o : Obj, (∀ v, o.data ≠ .cell v) → o ≠ oc := fun o h => cell_ne hoc h
  simp only [List.pairwise_cons, List.mem_cons, List.not_mem_nil, or_false, forall_eq_or_imp, forall_eq, List.Pairwise.nil, and_true, false_implies, implies_true]
  exact ⟨⟨.inr nF.1, .inl (C1 _ (fun v => by simp))⟩, .inl (C1 _ (fun v => by simp))⟩
theorem close_new {P : Params} {nx nx' : Ledger} {Fa Ta i L : Nat} {fs : List FT} {f : FT} {oc : Obj} {m' : PySem.Str → Option Value} (S : St P nx Fa Ta i fs) (F : Func nx) (hoc : oc.data = cellV Ta)
    {fn tn fn' tn' : Nat} {vs us : List Value} (evs : vs = (fs.map fun f => Value.ref f.x)) (eus : us = (fs.map fun f => Value.ref f.u))
    (mem : ∀ p ∈ [(Fa, W.listOf (List.toArray vs) fn), (Ta, W.listOf (List.toArray us) tn), (L + 1, oc)], p ∈ nx)
    (hm : m' (PySem.Str.ofString "faults") = some (.ref Fa)) (hr : ∀ p ∈ restOf nx [Fa, Ta, L + 1], p ∈ nx')
    (b5 : (Fa, W.listOf (List.toArray (vs ++ [.ref f.x])) fn') ∈ nx') (b6 : (Ta, W.listOf (List.toArray (us ++ [.ref f.u])) tn') ∈ nx') (b7 : (L + 1, oc) ∈ nx')
    (hf : FaultIn P nx' f) (ht : ToldIn nx' f) (hraw : (f.x, excF f.d (exFl f.t)) ∈ nx') (hok : ∀ p ∈ f.ps, OkPair p) (hlen : f.ps.length ≤ 1) (hso : f.so = fileT vs.length) (fresh : ∀ p ∈ nx, p.1 ≠ f.e ∧ p.1 ≠ f.u) (heu : f.e ≠ f.u) :
    JJ P L Fa Ta (i + 1) m' nx' := by
  simp only [List.mem_cons, List.not_mem_nil, or_false, forall_eq_or_imp, forall_eq] at mem
  obtain ⟨a5, a6, a7⟩ := mem
  have K : Keep nx nx' [Fa, Ta] := by
    refine keep_of F (ex := [(Fa, W.listOf (List.toArray vs) fn), (Ta, W.listOf (List.toArray us) tn), (L + 1, oc)]) hr ?_ ?_ ?_ ?_
    · simp only [List.mem_cons, List.not_mem_nil, or_false, forall_eq_or_imp, forall_eq]
      exact ⟨a5, a6, a7⟩
    · simp only [List.mem_cons, List.not_mem_nil, or_false, forall_eq_or_imp, forall_eq]
      exact ⟨fun h => absurd (by simp) h, fun h => absurd (by simp) h, fun _ => b7⟩
    · intro r hr
      simp only [List.mem_cons, List.not_mem_nil, or_false] at hr
      rcases hr with rfl | rfl | rfl <;> simp
    · intro c hc
      simp only [List.mem_cons, List.not_mem_nil, or_false] at hc
      rcases hc with rfl | rfl
      · exact ⟨_, a5, .inl rfl⟩
      · exact ⟨_, a6, .inl rfl⟩
  subst evs eus
  exact ⟨hm, ⟨oc, b7, hoc⟩, _, S.new F K ⟨_, b5⟩ ⟨_, b6⟩ hf ht hraw hok hlen (by rw [hso]; simp) fresh heu⟩
theorem fileT_le {k : Nat} (h : k ≤ 63) : (fileT k).length ≤ 20 ∧ (PySem.reprText (fileT k)).length ≤ 40 ∧ PyData.strOk (fileT k) = true := by
  have : ∀ k, k < 64 → ((fileT k).length ≤ 20 ∧ (PySem.reprText (fileT k)).length ≤ 40 ∧ PyData.strOk (fileT k) = true) := by decide +kernel
  exact this k (by omega)
inductive Ne3 (a b c : Nat) : Prop
  | mk (h1 : @Ne Nat a b) (h2 : @Ne Nat a c) (h3 : @Ne Nat b c) : Ne3 a b c
theorem ne3 {a b c : Nat} (h : List.Nodup [a, b, c]) : Ne3 a b c := by
  simp only [List.nodup_cons, List.mem_cons, List.not_mem_nil, or_false, not_or, List.nodup_nil, and_true, not_false_eq_true] at h
  exact ⟨h.1.1, h.1.2, h.2⟩
inductive Ne7 (a b c d e f g : Nat) : Prop
  | mk (h1 : @Ne Nat a b) (h2 : @Ne Nat a c) (h3 : @Ne Nat a d) (h4 : @Ne Nat a e) (h5 : @Ne Nat a f) (h6 : @Ne Nat a g) (h7 : @Ne Nat b c) (h8 : @Ne Nat b d) (h9 : @Ne Nat b e) (h10 : @Ne Nat b f) (h11 : @Ne Nat b g) (h12 : @Ne Nat c d) (h13 : @Ne Nat c e) (h14 : @Ne Nat c f) (h15 : @Ne Nat c g) (h16 : @Ne Nat d e) (h17 : @Ne Nat d f) (h18 : @Ne Nat d g) (h19 : @Ne Nat e f) (h20 : @Ne Nat e g) (h21 : @Ne Nat f g) : Ne7 a b c d e f g
theorem ne7 {a b c d e f g : Nat} (h : List.Nodup [a, b, c, d, e, f, g]) : Ne7 a b c d e f g := by
  simp only [List.nodup_cons, List.mem_cons, List.not_mem_nil, or_false, not_or, List.nodup_nil, and_true, not_false_eq_true] at h
  exact ⟨h.1.1, h.1.2.1, h.1.2.2.1, h.1.2.2.2.1, h.1.2.2.2.2.1, h.1.2.2.2.2.2, h.2.1.1, h.2.1.2.1, h.2.1.2.2.1, h.2.1.2.2.2.1, h.2.1.2.2.2.2, h.2.2.1.1, h.2.2.1.2.1, h.2.2.1.2.2.1, h.2.2.1.2.2.2, h.2.2.2.1.1, h.2.2.2.1.2.1, h.2.2.2.1.2.2, h.2.2.2.2.1.1, h.2.2.2.2.1.2, h.2.2.2.2.2⟩
theorem hx_in {a : Addr × Obj} {l rest : Ledger} {R : List Nat} (h : a.1 ∈ R) (t : ∀ p ∈ l, p.1 ∈ R ∨ AllLt p.1 rest) : ∀ p ∈ a :: l, p.1 ∈ R ∨ AllLt p.1 rest := List.forall_mem_cons.mpr ⟨.inl h, t⟩
theorem hx_out {a : Addr × Obj} {l rest : Ledger} {R : List Nat} (h : AllLt a.1 rest) (t : ∀ p ∈ l, p.1 ∈ R ∨ AllLt p.1 rest) : ∀ p ∈ a :: l, p.1 ∈ R ∨ AllLt p.1 rest := List.forall_mem_cons.mpr ⟨.inr h, t⟩
theorem hx_nil {rest : Ledger} {R : List Nat} : ∀ p ∈ ([] : Ledger), p.1 ∈ R ∨ AllLt p.1 rest := fun _ h => nomatch h
end Mine
end
section
open PySem PySem.W PyProof.Rows PySem.Calls PySem.Spec
set_option Elab.async false
set_option maxRecDepth 100000
set_option maxHeartbeats 4000000
namespace Mine
theorem padT_all : (List.range 1200).all (fun k => decide ((padT ((k : Int) - 100)).length ≤ 5)) = true := by decide +kernel
theorem padT_len {a : Int} (h1 : -100 ≤ a) (h2 : a < 1100) : (padT a).length ≤ 5 := by
  have h := List.all_eq_true.mp padT_all (a + 100).toNat (List.mem_range.mpr (by omega))
  have e : (((a + 100).toNat : Nat) : Int) - 100 = a := by omega
  rw [e] at h
  exact of_decide_eq_true h
theorem slen_append (a b : PySem.Str) : (a ++ b).length = a.length + b.length := PySem.Str.length_append a b
theorem lineT_len {n : Int} {l : PySem.Str} (h : OkPair (n, l)) : (lineT n l).length ≤ 40 := by
  have h1 := padT_len h.lo h.hi
  have h2 := h.rp
  have e1 : (PySem.Str.ofString "\n\t[line ").length = 8 := by decide
  have e2 : (PySem.Str.ofString "]: ").length = 3 := by decide
  unfold lineT
  rw [slen_append, slen_append, slen_append, e1, e2]
  simp only at h1 h2
  omega
theorem msgT_len {so : PySem.Str} : ∀ {ps : List (Int × PySem.Str)}, (∀ p ∈ ps, OkPair p) → ∀ {a : PySem.Str}, (ps.foldl (fun a p => a ++ lineT p.1 p.2) a).length ≤ a.length + 40 * ps.length
  | [], _, a => by simp
  | p :: r, h, a => by
    have h1 := msgT_len (so := so) (ps := r) (fun q hq => h q (.tail _ hq)) (a := a ++ lineT p.1 p.2)
    have h2 := lineT_len (h p (.head _))
    rw [slen_append] at h1
    simp only [List.foldl_cons, List.length_cons]
    omega
theorem msgT_fit {so : PySem.Str} {ps : List (Int × PySem.Str)} (h : ∀ p ∈ ps, OkPair p) (hs : (PySem.reprText so).length ≤ 40) (hn : ps.length ≤ 100) : (msgT so ps).length ≤ 5000 := by
  have h1 := msgT_len (so := so) h (a := headT so)
  have e1 : (PySem.Str.ofString "Source contains parsing errors: ").length = 32 := by decide
  have e2 : (headT so).length ≤ 80 := by unfold headT; rw [slen_append, e1]; omega
  unfold msgT
  omega
inductive SplitLed (h₀ h : Heap) (L : Addr) (nx own ex : Ledger) : Prop
  | mk (rest : Ledger) (erest : rest = restOf (nx ++ own) (ex.map (·.1))) (off : OwnOff rest (ex.map (·.1))) (N : News h₀ L h (ex ++ rest)) : SplitLed h₀ h L nx own ex
theorem split_led {h₀ h : Heap} {L : Addr} {big nx own : Ledger} {ex : Ledger} (N : News h₀ L h big) (hsub : ∀ p ∈ nx ++ own, p ∈ big) (mem : ∀ p ∈ ex, p ∈ nx) : SplitLed h₀ h L nx own ex := by
  refine ⟨_, rfl, restOf_off _ _, newsSub N fun p hp => hsub p ?_⟩
  rcases List.mem_append.mp hp with hp | hp
  · exact List.mem_append.mpr (.inl (mem p hp))
  · exact restOf_sub hp
theorem own_off {rest : Ledger} {x d e u Fa Ta c : Nat} {o1 o2 o3 o4 : Obj} (h : OwnOff rest [x, d, e, u, Fa, Ta, c]) (nd : List.Nodup [x, d, e, u, Fa, Ta, c]) : OwnOff ((u, o1) :: (Fa, o2) :: (Ta, o3) :: (c, o4) :: rest) [x, d, e] := by
  simp only [List.nodup_cons, List.mem_cons, List.not_mem_nil, or_false, not_or, List.nodup_nil, and_true, not_false_eq_true] at nd
  obtain ⟨⟨q1, q2, q3, q4, q5, q6⟩, ⟨q7, q8, q9, q10, q11⟩, ⟨q12, q13, q14, q15⟩, ⟨q16, q17, q18⟩, ⟨q19, q20⟩, q21⟩ := nd
  intro p hp b hb
  simp only [List.mem_cons, List.not_mem_nil, or_false] at hp hb
  rcases hp with rfl | rfl | rfl | rfl | hp
  · rcases hb with rfl | rfl | rfl <;> (intro h9; have h8 : @Eq Nat _ _ := h9; dsimp only at h8; omega)
  · rcases hb with rfl | rfl | rfl <;> (intro h9; have h8 : @Eq Nat _ _ := h9; dsimp only at h8; omega)
  · rcases hb with rfl | rfl | rfl <;> (intro h9; have h8 : @Eq Nat _ _ := h9; dsimp only at h8; omega)
  · rcases hb with rfl | rfl | rfl <;> (intro h9; have h8 : @Eq Nat _ _ := h9; dsimp only at h8; omega)
  · exact h p hp b (by rcases hb with rfl | rfl | rfl <;> simp)
theorem mem_addr {nx ex : Ledger} (mem : ∀ p ∈ ex, p ∈ nx) : ∀ r ∈ ex.map (·.1), ∃ o, (r, o) ∈ nx := fun r hr => by
  obtain ⟨p, hp, rfl⟩ := List.mem_map.mp hr
  exact ⟨p.2, mem p hp⟩
theorem own_rest {nx own : Ledger} {R : List Nat} (hoff : TbOff own nx) (hR : ∀ r ∈ R, ∃ o, (r, o) ∈ nx) : ∀ p ∈ own, p ∈ restOf (nx ++ own) R := fun p hp => mem_restOf (List.mem_append.mpr (.inr hp)) fun hc => by
  obtain ⟨o, ho⟩ := hR _ hc
  exact hoff p hp _ ho rfl
theorem end_of {h₀ h' : Heap} {L : Addr} {J : (PySem.Str → Option Value) → Ledger → Prop} {own ex rest nx : Ledger} {R : List Nat} {s : Shared} {tk : Nat} {m' : PySem.Str → Option Value} (F : Fr h₀ L h' m') (N : News h₀ L h' (ex ++ rest)) (er : rest = restOf (nx ++ own) R) (hoff : TbOff own nx) (hR : ∀ r ∈ R, ∃ o, (r, o) ∈ nx)
    (hx : ∀ p ∈ ex, p.1 ∈ R ∨ AllLt p.1 rest) (hJ : J m' (ex ++ restOf nx R)) : TbEnd h₀ L J own s { s with heap := h', toks := tk } := by
  subst er
  have ow := own_rest hoff hR
  refine ⟨h', tk, m', _, _, rfl, F, N, ?_, ?_, ?_, hJ⟩
  · intro p hp
    rcases List.mem_append.mp hp with hp | hp
    · exact List.mem_append.mpr (.inl hp)
    · refine List.mem_append.mpr (.inr (mem_restOf (List.mem_append.mpr (.inl (restOf_sub hp))) fun hc => ?_))
      exact restOf_off _ _ p hp _ hc rfl
  · exact fun p hp => List.mem_append.mpr (.inr (ow p hp))
  · intro p hp q hq
    rcases List.mem_append.mp hq with hq | hq
    · rcases hx q hq with h | h
      · obtain ⟨o, ho⟩ := hR _ h
        exact hoff p hp (q.1, o) ho
      · exact Nat.ne_of_lt (allLt_all h p (ow p hp))
    · exact hoff p hp q (restOf_sub hq)
theorem allLt_mono {a b : Nat} : ∀ {l : Ledger}, AllLt a l → a < b → AllLt b l
  | [], _, _ => trivial
  | _ :: _, h, hb => ⟨Nat.lt_trans h.1 hb, allLt_mono h.2 hb⟩
theorem fresh_of {nx own rest : Ledger} {Fa Ta c e u : Nat} (er : rest = restOf (nx ++ own) [Fa, Ta, c]) (h1 : Fa < e ∧ Ta < e ∧ c < e) (h2 : Fa < u ∧ Ta < u ∧ c < u) (h : AllLt e rest) (g : AllLt u rest) : ∀ p ∈ nx, p.1 ≠ e ∧ p.1 ≠ u := by
  intro p hp
  by_cases hc : p.1 ∈ [Fa, Ta, c]
  · obtain ⟨p1, p2⟩ := p
    simp only [List.mem_cons, List.not_mem_nil, or_false] at hc
    rcases hc with rfl | rfl | rfl
    · exact ⟨Nat.ne_of_lt h1.1, Nat.ne_of_lt h2.1⟩
    · exact ⟨Nat.ne_of_lt h1.2.1, Nat.ne_of_lt h2.2.1⟩
    · exact ⟨Nat.ne_of_lt h1.2.2, Nat.ne_of_lt h2.2.2⟩
  · have hm : p ∈ rest := er ▸ mem_restOf (List.mem_append.mpr (.inl hp)) hc
    exact ⟨Nat.ne_of_lt (allLt_all h p hm), Nat.ne_of_lt (allLt_all g p hm)⟩
theorem PairsIn.get {nx : Ledger} {vs : List Value} {ps : List (Int × PySem.Str)} (h : PairsIn nx vs ps) : ∀ {i : Nat} {v : Value}, vs[i]? = some v → ∃ (p : Int × PySem.Str) (a t1 t2 : Nat), ps[i]? = some p ∧ v = .ref a ∧ (a, tupO [.int p.1 t1, .str p.2 t2]) ∈ nx := by
  induction h with
  | nil => intro i v hv; simp at hv
  | @cons a p t1 t2 vs ps hm _ ih =>
    intro i v hv
    cases i with
    | zero => simp at hv; exact ⟨p, a, t1, t2, by simp, hv.symm, hm⟩
    | succ j => simp at hv; simpa using ih hv
theorem msgT_snoc {so : PySem.Str} {ps : List (Int × PySem.Str)} {i : Nat} {p : Int × PySem.Str} (h : ps[i]? = some p) : msgT so (ps.take (i + 1)) = msgT so (ps.take i) ++ lineT p.1 p.2 := by
  rw [List.take_add_one, h]
  simp [msgT]
theorem padR_all : (List.range 1200).all (fun k => decide (Txt.rjust (PySem.Str.ofString (toString ((k : Int) - 100))) 2 = padT ((k : Int) - 100))) = true := by decide +kernel
theorem padR {a : Int} (h1 : -100 ≤ a) (h2 : a < 1100) : Txt.rjust (PySem.Str.ofString (toString a)) 2 = padT a := by
  have h := List.all_eq_true.mp padR_all (a + 100).toNat (List.mem_range.mpr (by omega))
  have e : (((a + 100).toNat : Nat) : Int) - 100 = a := by omega
  rw [e] at h
  exact of_decide_eq_true h
theorem words_next {so : PySem.Str} {ps : List (Int × PySem.Str)} {i : Nat} {p : Int × PySem.Str} (h : ps[i]? = some p) (ok : OkPair p) : msgT so (ps.take i) ++ PySem.Str.ofString "\n\t[line " ++ Txt.rjust (PySem.Str.ofString (toString p.1)) 2 ++ PySem.Str.ofString "]: " ++ PySem.reprText p.2 = msgT so (ps.take (i + 1)) := by
  rw [msgT_snoc h, padR ok.lo ok.hi, lineT]
  simp only [PySem.Str.append_assoc]
theorem pairsIn_cons {q : Addr × Obj} {nx : Ledger} {vs : List Value} {ps : List (Int × PySem.Str)} (h : PairsIn nx vs ps) : PairsIn (q :: nx) vs ps := h.mono fun _ _ hm => .tail _ hm
theorem pairsIn_app {nx' nx : Ledger} {vs : List Value} {ps : List (Int × PySem.Str)} (h : PairsIn nx vs ps) : PairsIn (nx' ++ nx) vs ps := h.mono fun _ _ hm => List.mem_append_right _ hm
theorem ok_append {a b : PySem.Str} (h1 : PyData.strOk a = true) (h2 : PyData.strOk b = true) : PyData.strOk (a ++ b) = true := by
  unfold PyData.strOk at *
  rw [PySem.Str.cps_append, Array.all_append, h1, h2]
  rfl
theorem padO_all : (List.range 1200).all (fun k => PyData.strOk (padT ((k : Int) - 100))) = true := by decide +kernel
theorem padO {a : Int} (h1 : -100 ≤ a) (h2 : a < 1100) : PyData.strOk (padT a) = true := by
  have h := List.all_eq_true.mp padO_all (a + 100).toNat (List.mem_range.mpr (by omega))
  have e : (((a + 100).toNat : Nat) : Int) - 100 = a := by omega
  rw [e] at h
  exact h
theorem lineT_ok {p : Int × PySem.Str} (h : OkPair p) : PyData.strOk (lineT p.1 p.2) = true := by
  unfold lineT
  exact ok_append (ok_append (ok_append (by decide +kernel) (padO h.lo h.hi)) (by decide +kernel)) h.rk
theorem msgT_okL : ∀ {ps : List (Int × PySem.Str)}, (∀ p ∈ ps, OkPair p) → ∀ {a : PySem.Str}, PyData.strOk a = true → PyData.strOk (ps.foldl (fun a p => a ++ lineT p.1 p.2) a) = true
  | [], _, a, h => h
  | p :: r, h, a, ha => msgT_okL (ps := r) (fun q hq => h q (.tail _ hq)) (ok_append ha (lineT_ok (h p (.head _))))
theorem msgT_ok {so : PySem.Str} {ps : List (Int × PySem.Str)} (h : ∀ p ∈ ps, OkPair p) (hs : PyData.strOk (PySem.reprText so) = true) : PyData.strOk (msgT so ps) = true :=
  msgT_okL h (ok_append (by decide +kernel) hs)
theorem fileR_ok {k : Nat} (h : k ≤ 63) : PyData.strOk (PySem.reprText (fileT k)) = true := by
  have : ∀ k, k < 64 → PyData.strOk (PySem.reprText (fileT k)) = true := by decide +kernel
  exact this k (by omega)
end Mine
end
section
open Lean PySem PySem.W PyProof.Rows PySem.Calls PySem.Spec PySem.Builtin
set_option Elab.async false
set_option maxRecDepth 100000
set_option maxHeartbeats 4000000
namespace Mine
/-- the exception being handled, if any, has no context of its own -/
def Calm (hd : Option Value) (h : Heap) : Prop := hd = none ∨ ∃ e o fl, hd = some (.ref e) ∧ h.get? e = some o ∧ o.data = .fields fl ∧ fl[2]? = some .none ∧ ∃ c, o.cls = .ref c
theorem Calm.at {hd : Option Value} {h h' : Heap} (c : Calm hd h) (k : ∀ b o, h.get? b = some o → h'.get? b = some o) : Calm hd h' := c.imp id fun ⟨e, o, fl, a, b, c, d⟩ => ⟨e, o, fl, a, k _ _ b, c, d⟩
theorem Calm.but {hd : Option Value} {h h' : Heap} {it : Addr} {oi : Obj} {T : String} (c : Calm hd h) (hi : h.get? it = some oi) (ht : oi.cls = .type T) (k : ∀ b o, b ≠ it → h.get? b = some o → h'.get? b = some o) : Calm hd h' := by
  rcases c with c | ⟨e, o, fl, a, b, c, d, cc, hc⟩
  · exact .inl c
  · refine .inr ⟨e, o, fl, a, k _ _ (fun he => ?_) b, c, d, cc, hc⟩
    rw [he, hi] at b
    cases b
    rw [ht] at hc
    cases hc
theorem Calm.ne {hd : Option Value} {h : Heap} {a : Addr} (c : Calm hd h) (ha : @LE.le Nat _ h.objs.size a) : hd ≠ some (.ref a) := by
  rintro rfl
  rcases c with c | ⟨e, o, fl, c, b, _⟩
  · cases c
  · cases c
    exact absurd (Heap.lt_size b) (Nat.not_lt.mpr ha)
theorem Calm.push {hd : Option Value} {h : Heap} {o : Obj} (c : Calm hd h) : Calm hd (h.push o) := c.at fun _ _ e => Heap.get?_push_of_some _ e
theorem Calm.none' {h : Heap} : Calm none h := .inl rfl
section
variable {prog : Program} {w : World} {A : Around} {E : Value → Shared → Prop} {s : Shared}
theorem entry_unchain : entryFor table "proto.unchain" = some Builtin.«proto.unchain» := entryFor_of_tree (by kernel_rfl)
theorem raise_calm {α : Type} {a : Addr} {o : Obj} {fl : Array Value} {Q : α → Shared → Prop} (hC : Calm A.handled s.heap) (ha : s.heap.get? a = some o) (hd : o.data = .fields fl) (hsz : 2 < fl.size)
    (h : ∀ h' o', h'.get? a = some o' → o'.cls = o.cls → Heap.SameBut a s.heap h' → E (.ref a) { s with heap := h' }) (hself : A.handled ≠ some (.ref a)) : wpAny (model prog w) A (raiseNew (.ref a) : Sem α) Q E s := by
  unfold raiseNew
  refine wpAny_bind (wpAny_handled ?_)
  rcases hC with hh | ⟨e, oe, fe, hh, he, hde, h2, -⟩
  · rw [hh]
    exact wpAny_bind (wpAny_pure (wpAny_throw (h s.heap o ha rfl (Heap.SameBut.refl ..))))
  · rw [hh]
    have hne : (Value.ref e != Value.ref a) = true := by
      rw [bne_iff_ne]
      intro c
      exact hself (hh.trans (congrArg some c))
    dsimp only
    rw [if_pos hne]
    refine wpAny_bind (wpAny_holding (runValue_entry entry_unchain ?_))
    unfold Builtin.«proto.unchain»
    dsimp only
    refine wpAny_bind (wpAny_field he hde h2 ?_)
    rw [if_pos (by decide)]
    refine wpAny_bind (wpAny_pure ?_)
    refine wpAny_pure ⟨_, rfl, ?_⟩
    refine wpAny_bind (m := updateField a 2 (.ref e)) ?_
    unfold updateField
    refine wpAny_bind (wpAny_load ha ?_)
    rw [hd]
    dsimp only
    rw [if_pos hsz]
    refine wpAny_update ha ?_
    refine wpAny_throw (h _ _ (Heap.get?_update_self _ ha (Obj.isFreed_of_fields (Obj.data_mapFields hd _))) (Obj.cls_mapFields ..) (Heap.SameBut.update ..))

theorem list_end_h {it l : Addr} {i : Nat} {items} {Q : Option Value → Shared → Prop} (hC : Calm A.handled s.heap)
    (hit : s.heap.IsListIter it l i) (hl : s.heap.IsList l items) (hx : items[i]? = none)
    (hQ : ∀ h', Heap.ExtBut it s.heap h' → Q none { s with heap := h' }) : wpAny (model prog w) A (pyNext (.ref it)) Q E s := by
  obtain ⟨o, ho, hc, hd⟩ := id hit
  obtain ⟨ol, hol, _, nl, hdl⟩ := hl
  unfold pyNext
  refine wpAny_bind (wpAny_attempt (wpAny_callSpecial?_slot (name := PySem.Str.ofString "__next__") hit.typeIs slot_listiter_next
    (wpAny_call_entry slot_listiter_next hit.typeIs entry_listiter_next ?_ (args_listiter_next _))))
  show wpAny _ _ (field (.ref it) 0 >>= _) _ _ s
  refine wpAny_bind (wpAny_field ho hd (x := .ref l) rfl ?_)
  show wpAny _ _ (if (Value.ref l == Value.none) = true then _ else _) _ _ s
  rw [if_neg (show ¬ ((Value.ref l == Value.none) = true) from Bool.false_ne_true)]
  show wpAny _ _ (field (.ref it) 1 >>= _) _ _ s
  refine wpAny_bind (wpAny_field ho hd (x := .int i 0) rfl ?_)
  show wpAny _ _ (seqItems? (.ref l) >>= _) _ _ s
  refine wpAny_bind (wpAny_seqItems hol hdl ?_)
  simp only [Int.toNat_natCast, hx]
  refine wpAny_bind (wpAny_rule (wpAny_bind (wpAny_setField ho hd (by simp) ?_)))
  show wpAny _ _ (newExc (.type "StopIteration") [] >>= _) _ _ _
  refine wpAny_bind ?_
  simp only [newExc, newTuple]
  refine wpAny_bind (wpAny_newObj_type ?_ (by size_fits))
  refine wpAny_bind (m := firstArgMember _ _) (wpAny_of_eq (a := Value.none) (by first | rfl | (simp only [firstArgMember]; rfl)) ?_)
  refine wpAny_newObj_type ?_ (by size_fits)
  have C1 : Calm A.in1.handled ((s.heap.update it (Obj.mapFields (·.setIfInBounds 0 Value.none)))) := Calm.but (T := "list_iterator") hC ho hc fun b o hb e => (Heap.SameBut.update ..).extBut b o hb e
  refine raise_calm C1.push.push (Heap.get?_push_size _ rfl) rfl (Nat.lt_of_lt_of_le (show 2 < 6 by decide) (by rw [Array.size_append]; exact Nat.le_add_right 6 _)) (fun h' o' ho' hc' hs' => ?_) (C1.push.ne (Nat.le_refl _))
  refine wpAny_bind (wpAny_isInstance (T := "StopIteration") (b := true) ⟨_, ho', hc'⟩ isSubtype_stop ?_)
  refine wpAny_pure (hQ _ fun b o hb e => ?_)
  exact (hs'.2 b (Nat.ne_of_lt (Heap.lt_size (((Heap.SameBut.update s.heap it (Obj.mapFields (·.setIfInBounds 0 Value.none))).extBut.push _) b o hb e)))).trans (((Heap.SameBut.update s.heap it (Obj.mapFields (·.setIfInBounds 0 Value.none))).extBut.push _).push _ b o hb e)
theorem tuple_end_h {it l : Addr} {i : Nat} {items} {Q : Option Value → Shared → Prop} (hC : Calm A.handled s.heap)
    (hit : IsTupIter s.heap it l i) (hl : IsTup s.heap l items) (hx : items[i]? = none)
    (hQ : ∀ h', Heap.ExtBut it s.heap h' → Q none { s with heap := h' }) : wpAny (model prog w) A (pyNext (.ref it)) Q E s := by
  obtain ⟨o, ho, hc, hd⟩ := id hit
  obtain ⟨ol, hol, _, nl, hdl⟩ := hl
  unfold pyNext
  refine wpAny_bind (wpAny_attempt (wpAny_callSpecial?_slot (name := PySem.Str.ofString "__next__") hit.typeIs slot_tupleiter_next
    (wpAny_call_entry slot_tupleiter_next hit.typeIs entry_tupleiter_next ?_ (args_tupleiter_next _))))
  show wpAny _ _ (field (.ref it) 0 >>= _) _ _ s
  refine wpAny_bind (wpAny_field ho hd (x := .ref l) rfl ?_)
  show wpAny _ _ (if (Value.ref l == Value.none) = true then _ else _) _ _ s
  rw [if_neg (show ¬ ((Value.ref l == Value.none) = true) from Bool.false_ne_true)]
  show wpAny _ _ (field (.ref it) 1 >>= _) _ _ s
  refine wpAny_bind (wpAny_field ho hd (x := .int i 0) rfl ?_)
  show wpAny _ _ (seqItems? (.ref l) >>= _) _ _ s
  refine wpAny_bind (wpAny_seqItems hol hdl ?_)
  simp only [Int.toNat_natCast, hx]
  refine wpAny_bind (wpAny_rule (wpAny_bind (wpAny_setField ho hd (by simp) ?_)))
  show wpAny _ _ (newExc (.type "StopIteration") [] >>= _) _ _ _
  refine wpAny_bind ?_
  simp only [newExc, newTuple]
  refine wpAny_bind (wpAny_newObj_type ?_ (by size_fits))
  refine wpAny_bind (m := firstArgMember _ _) (wpAny_of_eq (a := Value.none) (by first | rfl | (simp only [firstArgMember]; rfl)) ?_)
  refine wpAny_newObj_type ?_ (by size_fits)
  have C1 : Calm A.in1.handled ((s.heap.update it (Obj.mapFields (·.setIfInBounds 0 Value.none)))) := Calm.but (T := "tuple_iterator") hC ho hc fun b o hb e => (Heap.SameBut.update ..).extBut b o hb e
  refine raise_calm C1.push.push (Heap.get?_push_size _ rfl) rfl (Nat.lt_of_lt_of_le (show 2 < 6 by decide) (by rw [Array.size_append]; exact Nat.le_add_right 6 _)) (fun h' o' ho' hc' hs' => ?_) (C1.push.ne (Nat.le_refl _))
  refine wpAny_bind (wpAny_isInstance (T := "StopIteration") (b := true) ⟨_, ho', hc'⟩ isSubtype_stop ?_)
  refine wpAny_pure (hQ _ fun b o hb e => ?_)
  exact (hs'.2 b (Nat.ne_of_lt (Heap.lt_size (((Heap.SameBut.update s.heap it (Obj.mapFields (·.setIfInBounds 0 Value.none))).extBut.push _) b o hb e)))).trans (((Heap.SameBut.update s.heap it (Obj.mapFields (·.setIfInBounds 0 Value.none))).extBut.push _).push _ b o hb e)

theorem listH (hd : Option Value) (hh : A.handled = hd) (I ax : Addr) (hne : ax ≠ I) (items : Array Value) (xe : Addr) (xo : Obj) (hC : hd = none ∨ (hd = some (.ref xe) ∧ (∃ fl, xo.data = .fields fl ∧ fl[2]? = some .none) ∧ (∃ c, xo.cls = .ref c) ∧ xe ≠ I)) :
    Walks prog w A I [I, ax, xe] [I] items.size (fun i v => items[i]? = some v) (fun i h => h.IsListIter I ax i ∧ h.IsList ax items ∧ (hd = none ∨ h.get? xe = some xo)) where
  sub := fun b hb => by simp at hb; simp [hb]
  frame := fun _ _ _ st hk => ⟨st.1.at fun o e => hk I (by simp) o e, st.2.1.at fun o e => hk ax (by simp) o e, st.2.2.imp id fun e => hk xe (by simp) _ e⟩
  item := fun i s Q E hi st hQ => by
    refine wpAny_pyNext_list_item st.1 st.2.1 (x := items[i]) (by simp [hi]) fun h' hit' hs' => ?_
    refine hQ _ h' s.toks (by simp [hi]) ⟨hit', st.2.1.extBut hs'.extBut hne, ?_⟩ fun b o hb e => hs'.extBut b o (fun h => hb (by simp [h])) e
    rcases st.2.2 with e | e
    · exact .inl e
    · rcases hC with c | ⟨_, _, _, ne⟩
      · exact .inl c
      · exact .inr ((hs'.2 xe ne).trans e)
  done := fun s Q E st hQ => by
    refine list_end_h ?_ st.1 st.2.1 (by simp) fun h' he' => hQ h' s.toks fun b o hb e => he' b o (fun h => hb (by simp [h])) e
    rw [hh]
    rcases st.2.2 with e | e
    · exact .inl e
    · rcases hC with c | ⟨c, ⟨fl, d1, d2⟩, cc, ne⟩
      · exact .inl c
      · exact .inr ⟨xe, xo, fl, c, e, d1, d2, cc⟩
  self := fun _ _ _ _ st hQ => wpAny_pyIter_listiter st.1 hQ
theorem unpackItems_h {t : Addr} {items : Array Value} {Q : List Value → Shared → Prop} (hC : Calm A.handled s.heap) (ht : IsTup s.heap t items)
    (hQ : ∀ h', Heap.ExtBut s.heap.objs.size s.heap h' → Q items.toList { s with heap := h' }) : wpAny (model prog w) A (unpackItems (.ref t) items.size none) Q E s := by
  have hlt : t ≠ s.heap.objs.size := by obtain ⟨o, ho, _⟩ := ht; exact Nat.ne_of_lt (Heap.lt_size ho)
  unfold unpackItems
  refine wpAny_bind ?_
  · unfold notIterableAtAll
    refine wpAny_bind (wpAny_specialOf ht.typeIs slot_tuple_iter.lookup ?_)
    refine wpAny_pure ?_
    simp only [Bool.false_eq_true, if_false]
    refine wpAny_bind (wpAny_holding (iter_tuple ht ?_))
    refine wpAny_bind (wpAny_holding (draw_tuple hlt items.size 0 _ _ ⟨_, Heap.get?_push_size _ rfl, rfl, rfl⟩ (ht.push _) (by omega) fun h₁ hit₁ hs₁ => ?_))
    have hall : List.take items.size (List.drop 0 items.toList) = items.toList := by
      rw [List.drop_zero]; exact List.take_of_length_le (by simp)
    rw [hall]
    rw [if_neg (by simp)]
    have ht₁ : IsTup h₁ t items := (ht.push _).extBut hs₁.extBut hlt
    have C1 : Calm A.handled h₁ := by
      rcases hC with c | ⟨e, o, fl, a, b, c⟩
      · exact .inl c
      · exact .inr ⟨e, o, fl, a, (hs₁.2 e (Nat.ne_of_lt (Heap.lt_size b))).trans (Heap.get?_push_of_some _ b), c⟩
    refine wpAny_bind (wpAny_holding (tuple_end_h C1 hit₁ ht₁ (by simp) fun h₂ he₂ => ?_))
    simp only [Option.isSome_none, Bool.false_eq_true, if_false]
    refine wpAny_pure (hQ h₂ fun b o hb e => he₂ b o hb (hs₁.extBut b o hb (Heap.get?_push_of_some _ e)))
theorem assignTuple_h {env : Env} {elts : List PySem.Expr} {x1} {pos : Pos} {t : Addr} {items : Array Value} {Q : Unit → Shared → Prop} (hC : Calm A.handled s.heap) (ht : IsTup s.heap t items)
    (hn : (assignEach elts env).length = items.size) (hstar : (assignEach elts env).findIdx? (·.1) = none)
    (h : ∀ h', Heap.ExtBut s.heap.objs.size s.heap h' → wpAny (model prog w) A (assignInOrder ((assignEach elts env).map (·.2)) items.toList) Q E { s with heap := h' }) :
    wpAny (model prog w) A (assign (.Tuple elts x1 pos) env (.ref t)) Q E s := by
  rw [assign_Tuple]
  refine wpAny_bind (wpAny_standAt ?_)
  unfold unpack
  rw [hn, hstar]
  exact wpAny_bind (wpAny_holding (unpackItems_h hC ht h))

theorem range_end_h {it : Addr} {x left step : Int} {Q : Option Value → Shared → Prop} (hC : Calm A.handled s.heap) (hit : IsRangeIter s.heap it x left step) (hleft : left ≤ 0)
    (hQ : ∀ h', Heap.ExtBut it s.heap h' → Q none { s with heap := h' }) : wpAny (model prog w) A (pyNext (.ref it)) Q E s := by
  have hT : s.TypeIs (.ref it) "range_iterator" := ⟨_, hit, rfl⟩
  unfold pyNext
  refine wpAny_bind (wpAny_attempt (wpAny_callSpecial?_slot (name := PySem.Str.ofString "__next__") hT F.slot_range_iterator_next
    (wpAny_call_entry F.slot_range_iterator_next hT F.entry_range_iterator_next ?_ (F.args_range_iterator_next_1 _))))
  show wpAny _ _ (field (.ref it) 0 >>= _) _ _ s
  refine wpAny_bind (wpAny_field hit rfl (x := rawInt x) rfl ?_)
  show wpAny _ _ (field (.ref it) 1 >>= _) _ _ s
  refine wpAny_bind (wpAny_field hit rfl (x := rawInt left) rfl ?_)
  show wpAny _ _ (field (.ref it) 2 >>= _) _ _ s
  refine wpAny_bind (wpAny_field hit rfl (x := rawInt step) rfl ?_)
  show wpAny _ _ (if left ≤ 0 then _ else _) _ _ s
  rw [if_pos hleft]
  refine wpAny_bind (wpAny_rule ?_)
  refine wpAny_bind ?_
  show wpAny _ _ (newExc (.type "StopIteration") [] >>= _) _ _ _
  refine wpAny_bind ?_
  simp only [newExc, newTuple]
  refine wpAny_bind (wpAny_newObj_type ?_ (by size_fits))
  refine wpAny_bind (m := firstArgMember _ _) (wpAny_of_eq (a := Value.none) (by first | rfl | (simp only [firstArgMember]; rfl)) ?_)
  refine wpAny_newObj_type ?_ (by size_fits)
  have C1 : Calm A.in1.handled s.heap := hC
  refine raise_calm C1.push.push (Heap.get?_push_size _ rfl) rfl (Nat.lt_of_lt_of_le (show 2 < 6 by decide) (by rw [Array.size_append]; exact Nat.le_add_right 6 _)) (fun h' o' ho' hc' hs' => ?_) (C1.push.ne (Nat.le_refl _))
  refine wpAny_bind (wpAny_isInstance (T := "StopIteration") (b := true) ⟨_, ho', hc'⟩ isSubtype_stop ?_)
  refine wpAny_pure (hQ _ fun b o hb e => ?_)
  exact (hs'.2 b (Nat.ne_of_lt (Heap.lt_size (Heap.get?_push_of_some _ e)))).trans (Heap.get?_push_of_some _ (Heap.get?_push_of_some _ e))
theorem rangeH (hd : Option Value) (hh : A.handled = hd) (I : Addr) (a : Int) (n : Nat) (xe : Addr) (xo : Obj) (hC : hd = none ∨ (hd = some (.ref xe) ∧ (∃ fl, xo.data = .fields fl ∧ fl[2]? = some .none) ∧ (∃ c, xo.cls = .ref c) ∧ xe ≠ I)) (yd : Addr) (hyd : hd = none ∨ yd = xe) :
    Walks prog w A I [I, yd] [I] n (fun i v => ∃ t, v = .int (a + (i : Int)) t) (fun i h => IsRangeIter h I (a + (i : Nat)) ((n : Int) - (i : Nat)) 1 ∧ (hd = none ∨ h.get? xe = some xo)) where
  sub := fun b hb => by simp at hb; simp [hb]
  frame := fun _ _ _ st hk => ⟨hk I (by simp) _ st.1, by
    rcases st.2 with e | e
    · exact .inl e
    · rcases hyd with c | c
      · exact .inl c
      · exact .inr (hk xe (by simp [c]) _ e)⟩
  item := fun i s Q E hi st hQ => by
    refine wpAny_pyNext_range_item st.1 (by omega) fun h' hit' hs' => ?_
    refine hQ _ h' _ ⟨_, rfl⟩ ⟨?_, ?_⟩ fun b o hb e => hs'.extBut b o (fun h => hb (by simp [h])) e
    · have e1 : a + ((i + 1 : Nat) : Int) = a + (i : Int) + 1 := by push_cast; omega
      have e2 : (n : Int) - ((i + 1 : Nat) : Int) = (n : Int) - (i : Int) - 1 := by push_cast; omega
      rw [e1, e2]; exact hit'
    · rcases st.2 with e | e
      · exact .inl e
      · rcases hC with c | ⟨_, _, _, ne⟩
        · exact .inl c
        · exact .inr ((hs'.2 xe ne).trans e)
  done := fun s Q E st hQ => by
    refine range_end_h ?_ st.1 (by omega) fun h' he' => hQ h' s.toks fun b o hb e => he' b o (fun h => hb (by simp [h])) e
    rw [hh]
    rcases st.2 with e | e
    · exact .inl e
    · rcases hC with c | ⟨c, ⟨fl, d1, d2⟩, cc, ne⟩
      · exact .inl c
      · exact .inr ⟨xe, xo, fl, c, e, d1, d2, cc⟩
  self := fun _ _ _ _ st hQ => wpAny_pyIter_rangeiter st.1 hQ
end
end Mine
end
section
open Lean PySem PySem.W PyProof.Rows PySem.Calls PySem.Spec PySem.Builtin
set_option Elab.async false
set_option maxRecDepth 100000
set_option maxHeartbeats 4000000
namespace Mine
noncomputable abbrev kT (hd : Option Value) (dp un : Nat) (gd : Option (List Code)) (cn : PySem.Str) (cs : Scope) (L a : Addr) (ccd : Value) (cl : List (PySem.Str × Addr)) (outer : List Env) : Around := { handled := hd, depth := dp, frames := some (envX cn cs L a ccd cl :: outer), guards := gd, units := un }
def CalmIn (hd : Option Value) (news : List (Addr × Obj)) : Prop := hd = none ∨ ∃ (xe d : Nat) (fl : Array Value), hd = some (.ref xe) ∧ (xe, excF d fl) ∈ news ∧ fl[2]? = some .none
theorem CalmIn.calm {hd : Option Value} {news : List (Addr × Obj)} {h₀ h : Heap} {L : Addr} (c : CalmIn hd news) (N : News h₀ L h news) : Calm hd h := c.imp id fun ⟨xe, d, fl, a, b, e⟩ => ⟨xe, _, fl, a, (N _ b).1, rfl, e, _, rfl⟩
theorem CalmIn.mono {hd : Option Value} {news news' : List (Addr × Obj)} (c : CalmIn hd news) (h : ∀ x d fl, (x, excF d fl) ∈ news → (x, excF d fl) ∈ news') : CalmIn hd news' := c.imp id fun ⟨xe, d, fl, a, b, e⟩ => ⟨xe, d, fl, a, h _ _ _ b, e⟩
theorem calmIn_app {hd : Option Value} {own news : List (Addr × Obj)} (c : CalmIn hd news) : CalmIn hd (own ++ news) := c.mono fun _ _ _ h => List.mem_append_right _ h
theorem calmIn_cons {hd : Option Value} {q : Addr × Obj} {news : List (Addr × Obj)} (c : CalmIn hd news) : CalmIn hd (q :: news) := c.mono fun _ _ _ h => .tail _ h
section
variable {prog : Program} {w : World} {A : Around} {E : Value → Shared → Prop} {s : Shared} {env : Env} {h₀ : Heap} {target : PySem.Expr} {body : List Stmt} {Q : Flow → Shared → Prop}
def RowPost (h₀ : Heap) (L I : Addr) (J : (PySem.Str → Option Value) → List (Addr × Obj) → Prop) (own : List (Addr × Obj)) (s₁ : Shared) (Q : Flow → Shared → Prop) (f : Flow) (s₂ : Shared) : Prop :=
  match f with
  | .ret v => Q (.ret v) s₂
  | .brk => Q .next s₂
  | _ => ∃ h' tk m' nx, s₂ = { s₁ with heap := h', toks := tk } ∧ Fr h₀ L h' m' ∧ News h₀ L h' (own ++ nx) ∧ (∀ p ∈ nx, p.1 ≠ I) ∧ J m' nx
theorem iter_listG {hd : Option Value} {ax : Addr} {vs : List Value} {n : Nat} {m₀ : PySem.Str → Option Value} {news : List (Addr × Obj)} (J : Nat → (PySem.Str → Option Value) → List (Addr × Obj) → Prop)
    (hh : A.handled = hd) (F : Fr h₀ env.locals s.heap m₀) (N : News h₀ env.locals s.heap news) (hm : (ax, W.listOf vs.toArray n) ∈ news) (hC : CalmIn hd news) (hj : J 0 m₀ news)
    (turn : ∀ I i v m₁ nx h tk own, (∀ p ∈ news, p.1 < I) → vs[i]? = some v → J i m₁ nx → (∀ p ∈ nx, p.1 ≠ I) → (∀ p ∈ own, p.1 = I ∨ p.1 = ax ∨ hd = some (.ref p.1)) → Fr h₀ env.locals h m₁ → News h₀ env.locals h (own ++ nx) →
      wpAny (model prog w) A (assign target env v) (fun _ s₃ => wpAny (model prog w) A (execs body env) (RowPost h₀ env.locals I (J (i + 1)) own { s with heap := h, toks := tk } Q) E s₃) E { s with heap := h, toks := tk })
    (done : ∀ m₁ nx h tk, J vs.length m₁ nx → Fr h₀ env.locals h m₁ → News h₀ env.locals h nx → Q .next { s with heap := h, toks := tk }) :
    wpAny (model prog w) A (pyIter (.ref ax)) (fun it s₂ => TurnsAt prog w A h₀ env target body Q E it s₂) E s := by
  have hax := N _ hm
  have hl : s.heap.IsList ax vs.toArray := News.isList N hm
  have hlt : ax < s.heap.objs.size := Heap.lt_size hax.1
  have hne : ax ≠ s.heap.objs.size := Nat.ne_of_lt hlt
  refine wpAny_pyIter_list hl ?_
  obtain ⟨xe, xo, hW, hxL, hst0, hxe⟩ : ∃ xe xo, (hd = none ∨ (hd = some (.ref xe) ∧ (∃ fl, xo.data = .fields fl ∧ fl[2]? = some .none) ∧ (∃ c, xo.cls = .ref c) ∧ xe ≠ s.heap.objs.size)) ∧ xe ≠ env.locals ∧ (hd = none ∨ s.heap.get? xe = some xo) ∧ (xe = ax ∨ hd = some (.ref xe)) := by
    rcases hC with c | ⟨xe, d, fl, a, b, e⟩
    · exact ⟨ax, default, .inl c, hax.2.1, .inl c, .inl rfl⟩
    · exact ⟨xe, _, .inr ⟨a, ⟨fl, rfl, e⟩, ⟨_, rfl⟩, Nat.ne_of_lt (Heap.lt_size (N _ b).1)⟩, (N _ b).2.1, .inr (N _ b).1, .inr a⟩
  have W := listH (prog := prog) (w := w) hd hh s.heap.objs.size ax hne vs.toArray xe xo hW
  have KW : KTurns prog w A target _ _ _ _ _ _ _ := KTurns.ofWalks W fun i v s Q E st q => letGo_listiter st.1 q
  have hsz : vs.toArray.size = vs.length := by simp
  refine ⟨_, _, _, _, _, _, _, m₀, news, J, rfl, KW, ?_, ?_, ?_, ⟨⟨_, Heap.get?_push_size _ rfl, rfl, rfl⟩, hl.at fun o e => Heap.get?_push_of_some _ e, hst0.imp id fun e => Heap.get?_push_of_some _ e⟩, F.push _, (fun p hp => ⟨Heap.get?_push_of_some _ (N p hp).1, (N p hp).2⟩), hj, ?_, ?_⟩
  · intro hI
    simp only [List.mem_cons, List.not_mem_nil, or_false] at hI
    rcases hI with e | e | e
    · exact absurd F.ns.lt (e ▸ Nat.lt_irrefl _)
    · exact hax.2.1 e.symm
    · exact hxL e.symm
  · intro b hb
    rw [List.mem_singleton.mp hb]
    exact next_is_new F
  · intro p hp hI
    exact absurd (Heap.lt_size (N p hp).1) ((List.mem_singleton.mp hI) ▸ Nat.lt_irrefl _)
  · intro i v m₁ nx h₁ tk₁ own hin hP hJ hoff hown hget hall hst F₁ N₁
    have hv : vs[i]? = some v := by simpa using hP
    have hownF : ∀ p ∈ own, p.1 = s.heap.objs.size ∨ p.1 = ax ∨ hd = some (.ref p.1) := fun p hp => by
      have h := hown p hp
      simp only [List.mem_cons, List.not_mem_nil, or_false] at h
      rcases h with e | e | e
      · exact .inl e
      · exact .inr (.inl e)
      · rcases hxe with c | c
        · exact .inr (.inl (e.trans c))
        · exact .inr (.inr (e ▸ c))
    refine wpAny_mono (turn _ i v m₁ nx h₁ tk₁ own (fun p hp => Heap.lt_size (N p hp).1) hv hJ (fun p hp e => hoff p hp (List.mem_singleton.mpr e)) hownF F₁ N₁) (fun _ s₃ h₃ => wpAny_mono h₃ (fun f s₄ p => ?_) fun _ _ e => e) fun _ _ e => e
    have fin : (∃ h' tk m' nx, s₄ = { { s with heap := h₁, toks := tk₁ } with heap := h', toks := tk } ∧ Fr h₀ env.locals h' m' ∧ News h₀ env.locals h' (own ++ nx) ∧ (∀ p ∈ nx, p.1 ≠ s.heap.objs.size) ∧ J (i + 1) m' nx) → LoopStepU h₀ env.locals [s.heap.objs.size] own (J (i + 1)) { s with heap := h₁, toks := tk₁ } .next s₄ := by
      rintro ⟨h', tk, m', nx', e, F', N', ho, hj⟩
      exact ⟨rfl, h', tk, m', nx', e, F', N', fun p hp hI => ho p hp (List.mem_singleton.mp hI), hj⟩
    cases f with
    | ret v => exact .ret p
    | brk => exact .brk p
    | next => exact .next (fin p)
    | cont => exact .cont (fin p)
  · intro h' tk m' news' F' N' _ hJ
    rw [hsz] at hJ
    exact done m' news' h' tk hJ F' N'
theorem x_unpack {hd : Option Value} {L : Addr} {m : PySem.Str → Option Value} {news : List (Addr × Obj)} {elts : List PySem.Expr} {k} {pos : Pos} {t : Addr} {items : List Value} {Q : Unit → Shared → Prop} (F : Fr h₀ L s.heap m) (N : News h₀ L s.heap news) (hh : A.handled = hd) (hC : CalmIn hd news) (hm : (t, tupO items) ∈ news)
    (hn : (assignEach elts env).length = items.length) (hstar : (assignEach elts env).findIdx? (·.1) = none)
    (h : ∀ h', Fr h₀ L h' m → News h₀ L h' news → wpAny (model prog w) A (assignInOrder ((assignEach elts env).map (·.2)) items) Q E { s with heap := h' }) :
    wpAny (model prog w) A (assign (.Tuple elts k pos) env (.ref t)) Q E s := by
  have ht : IsTup s.heap t items.toArray := ⟨_, (N _ hm).1, rfl, _, rfl⟩
  exact assignTuple_h (hh ▸ hC.calm N) ht (by simpa using hn) hstar fun h' he => h h' (F.extBut he (Nat.le_refl _)) (N.extBut he (Nat.le_refl _))
end
end Mine
end
section
open Lean PySem PySem.W PyProof.Rows PySem.Calls PySem.Spec PySem.Builtin PyProof.Rows.LCg
set_option Elab.async false
set_option maxRecDepth 100000
set_option maxHeartbeats 4000000
namespace Mine
section
variable {prog : Program} {w : World} {A : Around} {E : Value → Shared → Prop} {s : Shared} {env : Env} {h₀ : Heap} {L : Addr} {m : PySem.Str → Option Value}
def compS (news : List (Addr × Obj)) (nw : List (Addr × Obj)) : Prop := ∀ p ∈ news, p ∈ nw
def CompTurn (prog : Program) (w : World) (A : Around) (h₀ : Heap) (L : Addr) (m : PySem.Str → Option Value) (env : Env) (elt : PySem.Expr) (x : PySem.Str) (scope : Scope) (cl : List (PySem.Str × Addr)) (news : List (Addr × Obj)) (P : Nat → Value → Prop) (J : Nat → List Value → List (Addr × Obj) → Prop) (n : Nat) (s : Shared) : Prop :=
  ∀ i v ys nw I oI C oC D m₂ h tk (E' : Value → Shared → Prop), i < n → P i v → J i ys nw → compS news nw → NsObj oC m₂ → m₂ x = some v → Fr h₀ L h m → News h₀ L h ((I, oI) :: (C, oC) :: (D, lst ys) :: nw) → Off3 I C D nw → ((@Ne Nat I C) ∧ (@Ne Nat I D) ∧ (@Ne Nat C D)) →
    wpAny (model prog w) A (eval elt (compEnvC scope cl C env)) (CompEnd h₀ L m { s with heap := h, toks := tk } I oI C oC D (lst ys) (compS news) (fun y nw' => J (i + 1) (ys ++ [y]) nw')) E' { s with heap := h, toks := tk }
theorem rest_of {elt : PySem.Expr} {x : PySem.Str} {scope : Scope} {cl : List (PySem.Str × Addr)} {news : List (Addr × Obj)} {P : Nat → Value → Prop} {J : Nat → List Value → List (Addr × Obj) → Prop} {n : Nat} {Fin : List Value → List (Addr × Obj) → Prop}
    (turn : CompTurn prog w A h₀ L m env elt x scope cl news P J n s) (fin : ∀ ys nw, J n ys nw → compS news nw → Fin ys nw) : ∀ k i ys nw, i + k = n → compS news nw → J i ys nw → CompRest prog w A h₀ L m env elt x scope cl s (compS news) P Fin k i ys nw
  | 0, i, ys, nw, hk, hS, hJ => by
    have : i = n := by omega
    subst this
    exact CompRest.zero (fin ys nw hJ hS)
  | k + 1, i, ys, nw, hk, hS, hJ => by
    refine CompRest.succ fun v I oI C oC D m₂ h tk E' hP hn hm F N off ne => ?_
    refine wpAny_mono (turn i v ys nw I oI C oC D m₂ h tk E' (by omega) hP hJ hS hn hm F N off ne) (fun y s₄ h₄ => ?_) fun _ _ e => e
    obtain ⟨h', tk', nw', e, F', N', off', hS', r⟩ := h₄
    exact ⟨h', tk', nw', e, F', N', off', hS', rest_of turn fin k (i + 1) _ nw' (by omega) hS' r⟩
inductive SrcH (prog : Program) (w : World) (A : Around) (hd : Option Value) (h₀ : Heap) (L : Addr) (m : PySem.Str → Option Value) (env : Env) (elt : PySem.Expr) (x : PySem.Str) (scope : Scope) (cl : List (PySem.Str × Addr)) (Q : Value → Shared → Prop) (xv : Value) (s₁ : Shared) : Prop
  | mk (ax : Nat) (vs : List Value) (c : Nat) (news : List (Addr × Obj)) (J : Nat → List Value → List (Addr × Obj) → Prop) (e : xv = .ref ax) (F : Fr h₀ L s₁.heap m) (N : News h₀ L s₁.heap news) (hm : (ax, W.listOf (List.toArray vs) c) ∈ news) (C : CalmIn hd news) (hn : vs.length ≤ 100) (h0 : J 0 [] news) (turn : CompTurn prog w A h₀ L m env elt x scope cl news (fun i v => vs[i]? = some v) J vs.length s₁)
    (fin : ∀ ys nw D h tk, J vs.length ys nw → compS news nw → Fr h₀ L h m → News h₀ L h ((D, lst ys) :: nw) → Off1 D nw → Q (.ref D) { s₁ with heap := h, toks := tk }) : SrcH prog w A hd h₀ L m env elt x scope cl Q xv s₁
inductive SrcHR (prog : Program) (w : World) (A : Around) (hd : Option Value) (h₀ : Heap) (L : Addr) (m : PySem.Str → Option Value) (env : Env) (elt : PySem.Expr) (x : PySem.Str) (scope : Scope) (cl : List (PySem.Str × Addr)) (Q : Value → Shared → Prop) (xv : Value) (s₁ : Shared) : Prop
  | mk (r : Nat) (a b : Int) (t u v n : Nat) (news : List (Addr × Obj)) (J : Nat → List Value → List (Addr × Obj) → Prop) (e : xv = .ref r) (F : Fr h₀ L s₁.heap m) (N : News h₀ L s₁.heap news) (R : IsRange s₁.heap r a b 1 t u v) (sm : Builtin.Range.small a b 1 = true) (sz : Builtin.Range.rangeSize a b 1 = ((n : Nat) : Int)) (C : CalmIn hd news) (hn : n ≤ 100) (h0 : J 0 [] news) (turn : CompTurn prog w A h₀ L m env elt x scope cl news (fun i v => ∃ t, v = .int (a + (i : Int)) t) J n s₁)
    (fin : ∀ ys nw D h tk, J n ys nw → compS news nw → Fr h₀ L h m → News h₀ L h ((D, lst ys) :: nw) → Off1 D nw → Q (.ref D) { s₁ with heap := h, toks := tk }) : SrcHR prog w A hd h₀ L m env elt x scope cl Q xv s₁
theorem CompTurn.heap {elt : PySem.Expr} {x : PySem.Str} {scope : Scope} {cl : List (PySem.Str × Addr)} {news : List (Addr × Obj)} {P : Nat → Value → Prop} {J : Nat → List Value → List (Addr × Obj) → Prop} {n : Nat} {g : Heap}
    (turn : CompTurn prog w A h₀ L m env elt x scope cl news P J n s) : CompTurn prog w A h₀ L m env elt x scope cl news P J n { s with heap := g } := turn
theorem handledAt {hd : Option Value} {news : List (Addr × Obj)} {h : Heap} (c : CalmIn hd news) (N : News h₀ L h news) (ax : Addr) (hlt : ax < h.objs.size) : ∃ xe xo, (hd = none ∨ (hd = some (.ref xe) ∧ (∃ fl, xo.data = .fields fl ∧ fl[2]? = some .none) ∧ (∃ c, xo.cls = .ref c) ∧ xe ≠ h.objs.size)) ∧ xe < h.objs.size ∧ (hd = none ∨ h.get? xe = some xo) ∧ (hd = none ∨ (xe, xo) ∈ news) := by
  rcases c with c | ⟨xe, d, fl, a, b, e⟩
  · exact ⟨ax, default, .inl c, hlt, .inl c, .inl c⟩
  · have hl := Heap.lt_size (N _ b).1
    exact ⟨xe, _, .inr ⟨a, ⟨fl, rfl, e⟩, ⟨_, rfl⟩, Nat.ne_of_lt hl⟩, hl, .inr (N _ b).1, .inr b⟩
theorem ListComp_H {hd : Option Value} {elt iter : PySem.Expr} {x : PySem.Str} {px : Pos} {scope : Scope} {cl : List (PySem.Str × Addr)} {pos : Pos} {Q : Value → Shared → Prop} (_F₀ : Fr h₀ L s.heap m) (hh : A.handled = hd)
    (hclos : closureFor scope env = pure cl) (hcell : ∀ y ∈ scope.names, y.2 ≠ .cell) (hkind : scope.kind = .function)
    (hnames : ∀ y ∈ scope.names, y.2 = .local → scope.names.lookup y.1 = some .local) (hx : scope.names.lookup x = some .local)
    (h : wpAny (model prog w) A (eval iter env) (SrcH prog w A hd h₀ L m env elt x scope cl Q) E s)
    (hs : ∀ x, foldedSetIterable iter env x = pure x := by intro _; rfl) :
    wpAny (model prog w) A (eval (.ListComp elt [⟨.Name x px, iter, [], 0⟩] scope pos) env) Q E s := by
  rw [eval_ListComp]
  refine wpAny_comprehension_free (use := none) rfl hs hclos hkind hnames (wpAny_mono h (fun xv s₁ h₁ => ?_) fun _ _ e => e)
  obtain ⟨ax, vs, c, news, J, rfl, F, N, hm, hC, hsz, hj, turn, fin⟩ := h₁
  have hl : s₁.heap.IsList ax vs.toArray := News.isList N hm
  have hlt : ax < s₁.heap.objs.size := Heap.lt_size (N _ hm).1
  obtain ⟨xe, xo, hW, hxl, hst0, hxm⟩ := handledAt hC N ax hlt
  have hsize : vs.toArray.size = vs.length := by simp
  refine wpAny_pyIter_list hl ?_
  have up : ∀ b o, s₁.heap.get? b = some o → (s₁.heap.push { cls := .type "list_iterator", data := .fields #[.ref ax, .int 0 0] }).get? b = some o := fun b o e => Heap.get?_push_of_some _ e
  refine block_U (listH hd hh s₁.heap.objs.size ax (Nat.ne_of_lt hlt) vs.toArray xe xo hW) (by rw [hsize]; exact Nat.le_trans hsz (Nat.le_of_ble_eq_true rfl)) (fun i h st => by obtain ⟨o, e, _⟩ := st.1; exact ⟨o, e⟩) (S := compS news) ?_ hcell hkind hx ⟨⟨_, Heap.get?_push_size _ rfl, rfl, rfl⟩, hl.push _, hst0.imp id fun e => up _ _ e⟩ (fun b hb => ?_)
    (F.keeps up) (N.grown up) (Nat.ne_of_lt F.ns.lt) (next_is_new F) (fun p hp => Nat.ne_of_lt (Heap.lt_size (N p hp).1)) (fun p hp => hp) (Fin := fun ys nw => J vs.length ys nw ∧ compS news nw) ?_ ?_
  · intro i h h' o nw st e e' k N' S
    refine ⟨by obtain ⟨o', q, r⟩ := st.1; rw [e] at q; cases q; exact ⟨o, e', r⟩, News.isList N' (S _ hm), ?_⟩
    exact hxm.imp id fun hx => (N' _ (S _ hx)).1
  · show b < (s₁.heap.push _).objs.size
    rw [Heap.size_push]
    simp only [List.mem_cons, List.not_mem_nil, or_false] at hb
    rcases hb with rfl | rfl | rfl
    · exact Nat.lt_succ_self _
    · exact Nat.lt_succ_of_lt hlt
    · exact Nat.lt_succ_of_lt hxl
  · rw [hsize]
    have turn' : CompTurn prog w A h₀ L m env elt x scope cl news (fun i v => vs.toArray[i]? = some v) J vs.length { s₁ with heap := s₁.heap.push { cls := .type "list_iterator", data := .fields #[.ref ax, .int 0 0] } } := by
      intro i v ys nw I oI C oC D m₂ h tk E' hi hP
      exact turn i v ys nw I oI C oC D m₂ h tk E' hi (by simpa using hP)
    exact rest_of turn' (fun ys nw a b => ⟨a, b⟩) vs.length 0 [] news (by omega) (fun p hp => hp) hj
  · intro D C h tk m' ys news' F' N' o1 hn hC₀ hD₀ hCL hDL hCD offC hfin
    refine ⟨m', hn, fun h'' hs'' => fin ys news' D h'' tk hfin.1 hfin.2 (F'.change hs'' hCL hC₀) (fun p hp => ?_) o1⟩
    refine ⟨hs''.extBut _ _ ?_ (N' p hp).1, (N' p hp).2⟩
    rcases List.mem_cons.mp hp with rfl | hp
    · exact Ne.symm hCD
    · exact offC p hp
theorem ListComp_HR {hd : Option Value} {elt iter : PySem.Expr} {x : PySem.Str} {px : Pos} {scope : Scope} {cl : List (PySem.Str × Addr)} {pos : Pos} {Q : Value → Shared → Prop} (_F₀ : Fr h₀ L s.heap m) (hh : A.handled = hd)
    (hclos : closureFor scope env = pure cl) (hcell : ∀ y ∈ scope.names, y.2 ≠ .cell) (hkind : scope.kind = .function)
    (hnames : ∀ y ∈ scope.names, y.2 = .local → scope.names.lookup y.1 = some .local) (hx : scope.names.lookup x = some .local)
    (h : wpAny (model prog w) A (eval iter env) (SrcHR prog w A hd h₀ L m env elt x scope cl Q) E s)
    (hs : ∀ x, foldedSetIterable iter env x = pure x := by intro _; rfl) :
    wpAny (model prog w) A (eval (.ListComp elt [⟨.Name x px, iter, [], 0⟩] scope pos) env) Q E s := by
  rw [eval_ListComp]
  refine wpAny_comprehension_free (use := none) rfl hs hclos hkind hnames (wpAny_mono h (fun xv s₁ h₁ => ?_) fun _ _ e => e)
  obtain ⟨r, a, b, t, u, v, n, news, J, rfl, F, N, hr, hsm, hn, hC, hsz, hj, turn, fin⟩ := h₁
  have hLlt : L < s₁.heap.objs.size := F.ns.lt
  obtain ⟨xe, xo, hW, hxl, hst0, hxm⟩ := handledAt hC N L hLlt
  refine wpAny_pyIter_range hr hsm ?_
  have up : ∀ o', ∀ b o, s₁.heap.get? b = some o → (s₁.heap.push o').get? b = some o := fun o' b o e => Heap.get?_push_of_some _ e
  refine block_U (rangeH hd hh s₁.heap.objs.size a n xe xo hW xe (.inr rfl)) (Nat.le_trans hsz (Nat.le_of_ble_eq_true rfl)) (fun i h st => ⟨_, st.1⟩) (S := compS news) ?_ hcell hkind hx ⟨by show IsRangeIter _ _ _ _ _; rw [hn]; simpa using Heap.get?_push_size _ rfl, hst0.imp id fun e => up _ _ _ e⟩ (fun b hb => ?_)
    (F.keeps (up _)) (N.grown (up _)) (Nat.ne_of_lt F.ns.lt) (next_is_new F) (fun p hp => Nat.ne_of_lt (Heap.lt_size (N p hp).1)) (fun p hp => hp) (Fin := fun ys nw => J n ys nw ∧ compS news nw) ?_ ?_
  · intro i h h' o nw st e e' k N' S
    refine ⟨?_, hxm.imp id fun hx => (N' _ (S _ hx)).1⟩
    have st' : h.get? s₁.heap.objs.size = some _ := st.1
    show h'.get? s₁.heap.objs.size = some _
    rw [e', ← e]; exact st'
  · show b < (s₁.heap.push _).objs.size
    rw [Heap.size_push]
    simp only [List.mem_cons, List.not_mem_nil, or_false] at hb
    rcases hb with rfl | rfl
    · exact Nat.lt_succ_self _
    · exact Nat.lt_succ_of_lt hxl
  · exact rest_of (CompTurn.heap turn) (fun ys nw a b => ⟨a, b⟩) n 0 [] news (by omega) (fun p hp => hp) hj
  · intro D C h tk m' ys news' F' N' o1 hn hC₀ hD₀ hCL hDL hCD offC hfin
    refine ⟨m', hn, fun h'' hs'' => fin ys news' D h'' tk hfin.1 hfin.2 (F'.change hs'' hCL hC₀) (fun p hp => ?_) o1⟩
    refine ⟨hs''.extBut _ _ ?_ (N' p hp).1, (N' p hp).2⟩
    rcases List.mem_cons.mp hp with rfl | hp
    · exact Ne.symm hCD
    · exact offC p hp
end
end Mine
end
section
open Lean PySem PySem.W PyProof.Rows PySem.Calls PySem.Spec PyProof.Rows.LCg
set_option Elab.async false
set_option maxRecDepth 100000
set_option maxHeartbeats 4000000
namespace Mine
noncomputable def pairD (p : Int × PySem.Str) : Dat := .tuple [.int p.1, .str p.2]
noncomputable def viewD (so : PySem.Str) (ps : List (Int × PySem.Str)) : Dat := .list [.str (msgT so ps), .str so, .tuple [.str so], .list (ps.map pairD), .str (msgT so ps)]
theorem PairsIn.dat {nx : Ledger} {vs : List Value} {ps : List (Int × PySem.Str)} (h : PairsIn nx vs ps) : DatAll nx vs (ps.map pairD) := by
  induction h with
  | nil => exact .nil
  | @cons a p t1 t2 vs ps hm _ ih => exact .cons (.tuple (n := 0) hm (.cons (.int _ _) (.cons (.str _ _) .nil))) ih
theorem pairD_ok {p : Int × PySem.Str} (h : OkPair p) (n : Nat) : kqdOk (n + 2) (pairD p) = true := by
  have := h.ok
  simp [pairD, kqdOk, this]
theorem viewD_ok {so : PySem.Str} {ps : List (Int × PySem.Str)} (h : ∀ p ∈ ps, OkPair p) (h1 : PyData.strOk so = true) (h2 : PyData.strOk (PySem.reprText so) = true) : kqdOk 8 (viewD so ps) = true := by
  have hm := msgT_ok h h2
  have hp : ∀ p ∈ ps, kqdOk 6 (pairD p) = true := fun p hp => pairD_ok (h p hp) 4
  simp only [viewD, kqdOk, List.all_cons, List.all_nil, hm, h1, Bool.and_self, Bool.and_true, Bool.true_and, List.all_map, List.all_eq_true, Function.comp_apply]
  exact fun p q => hp p q
/-- the view of a fault, made of the ledger's entries -/
theorem view_dat {P : Params} {nx : Ledger} {f : FT} (h : FaultIn P nx f) : ∃ (fl : Array Value) (k1 k2 k3 tm ts : Nat), fl[0]? = some (.ref f.t) ∧ (f.x, excF f.d fl) ∈ nx ∧ (f.d, fdict P k1 k2 k3 (msgT f.so f.ps) f.so tm ts f.e) ∈ nx ∧
    ∀ (nw : Ledger) (V t1 : Nat), (∀ p ∈ nx, p ∈ nw) → (V, W.listOf [Value.str (msgT f.so f.ps) tm, .str f.so ts, .ref f.t, .ref f.e, .str (msgT f.so f.ps) t1].toArray 0) ∈ nw → DatIn nw (.ref V) (viewD f.so f.ps) := by
  obtain ⟨fl, k1, k2, k3, tm, ts, ts', en, ev, h0, h1, h2, h3, h4, h5⟩ := h
  refine ⟨fl, k1, k2, k3, tm, ts, h0, h1, h2, fun nw V t1 hs hV => ?_⟩
  exact .list hV (.cons (.str _ _) (.cons (.str _ _) (.cons (.tuple (n := 0) (hs _ h3) (.cons (.str _ _) .nil)) (.cons (.list (hs _ h4) (h5.dat.mono hs)) (.cons (.str _ _) .nil)))))
theorem due_dat {nw : Ledger} {V U e en t1 t2 t3 t4 : Nat} {so : PySem.Str} {ev : List Value} {ps : List (Int × PySem.Str)} (hV : (V, W.listOf [Value.str (msgT so ps) t1, .str so t2, .ref U, .ref e, .str (msgT so ps) t3].toArray 0) ∈ nw) (hU : (U, tupO [.str so t4]) ∈ nw) (he : (e, W.listOf (List.toArray ev) en) ∈ nw) (hp : PairsIn nw ev ps) : DatIn nw (.ref V) (viewD so ps) :=
  .list hV (.cons (.str _ _) (.cons (.str _ _) (.cons (.tuple (n := 0) hU (.cons (.str _ _) .nil)) (.cons (.list he hp.dat) (.cons (.str _ _) .nil)))))
/-- the results of the first i turns -/
def ViewJ (fs : List FT) (i : Nat) (ys : List Value) (nw : Ledger) : Prop := DatAll nw ys ((fs.take i).map fun f => viewD f.so f.ps)
theorem ViewJ.zero {fs : List FT} {nw : Ledger} : ViewJ fs 0 [] nw := by
  unfold ViewJ; simp only [List.take_zero, List.map_nil]; exact .nil
theorem ViewJ.succ {fs : List FT} {f : FT} {i : Nat} {ys : List Value} {v : Value} {nw nw' : Ledger} (h : ViewJ fs i ys nw) (hs : ∀ p ∈ nw, p ∈ nw') (hf : fs[i]? = some f) (hd : DatIn nw' v (viewD f.so f.ps)) : ViewJ fs (i + 1) (ys ++ [v]) nw' := by
  unfold ViewJ at *
  rw [List.take_add_one, hf, List.map_append]
  exact (h.mono hs).append (.one hd)
theorem ViewJ.all {fs : List FT} {n : Nat} {ys : List Value} {nw : Ledger} (h : ViewJ fs n ys nw) (hn : n = fs.length) : DatAll nw ys (fs.map fun f => viewD f.so f.ps) := by
  unfold ViewJ at h; rw [hn, List.take_length] at h; exact h
end Mine
end
section
open Lean PySem PySem.W PyProof.Rows PySem.Calls PySem.Spec PySem.Builtin
set_option Elab.async false
set_option maxRecDepth 100000
set_option maxHeartbeats 4000000
namespace Mine
/-- an object like oe, with these fields -/
noncomputable abbrev asF (oe : Obj) (fl : Array Value) : Obj := { oe with data := .fields fl }
/-- x flies: it bears a traceback, made behind B, whose flag is fl3; nothing else of it has changed -/
def XTr (h B : Heap) (x : Nat) (oe : Obj) (a0 fl3 : Value) : Prop :=
  ∃ (fl : Array Value) (T : Nat) (oT : Obj) (ts : Array Value), h.get? x = some (asF oe fl) ∧ fl[0]? = some a0 ∧ fl[1]? = some (.ref T) ∧ fl[2]? = some .none ∧ B.get? T = none ∧ (@Ne Nat T x) ∧ h.get? T = some oT ∧ oT.data = .fields ts ∧ ts[3]? = some fl3
structure XFly (B h : Heap) (l : List Env) (x : Nat) (oe : Obj) (a0 fl3 : Value) : Prop where
  stays : B.StaysIn h
  out : B.get? x = none
  frames : h.FunFrames B l
  tr : XTr h B x oe a0 fl3
theorem XFly.pop {B h : Heap} {env : Env} {l : List Env} {x : Nat} {oe : Obj} {a0 fl3 : Value} (F : XFly B h (env :: l) x oe a0 fl3) : XFly B h l x oe a0 fl3 := ⟨F.stays, F.out, F.frames.2.2, F.tr⟩
section
variable {M : Model} {A : Around} {E : Value → Shared → Prop} {s : Shared} {B : Heap} {env : Env} {outer l : List Env} {L x : Nat} {oe : Obj} {a0 fl3 : Value} {Q : Unit → Shared → Prop}
theorem x_entry {fl : Array Value} {head : Value} {hadNext : Bool} (hfr : A.frames = some (env :: outer)) (hl : s.heap.FunFrames B (env :: outer)) (hf : env.frame = some L) (hst : B.StaysIn s.heap) (hout : B.get? x = none)
    (he : s.heap.get? x = some (asF oe fl)) (h0 : fl[0]? = some a0) (h1 : 1 < fl.size) (h2 : fl[2]? = some .none)
    (h : ∀ h', XFly B h' (env :: outer) x oe a0 (rawInt L) → s.heap.UpToSlots h' → Q () { s with heap := h' }) :
    wpAny M A (do let a ← frameOf env; let pl ← entryPlaceOf L hadNext; let b ← EntryCells.newEntry head a .none (rawInt L) .none pl; setField (.ref x) 1 b) Q E s := by
  have nx : x ∉ (env :: outer).filterMap (·.frame) := fun hm => by
    obtain ⟨_, o, ho, hn⟩ := hl.mem hm
    rw [he] at ho; cases ho
    exact hn fl rfl
  refine wpAny_bind (wpAny_frameOf_fun hfr hl hf fun g hg => wpAny_bind (wpAny_entryPlaceOf fun pl hpl => ?_))
  unfold EntryCells.newEntry newFields
  refine wpAny_bind (wpAny_newObj_type ?_ (hpl.sizeOk5 _ _ _ _ _))
  have gx : g.get? x = some (asF oe fl) := (hg.2.1 x nx).trans he
  generalize hT : (Obj.mk (.type "traceback") none (.fields ([head, .ref L, .none, rawInt L, .none] ++ (if pl.isEmpty then List.replicate 6 Value.none else pl)).toArray) #[]) = oT
  have hTd : ∃ ts, oT.data = .fields ts ∧ ts[3]? = some (rawInt L) := by
    subst hT
    exact ⟨_, rfl, by simp⟩
  obtain ⟨ts, hTd, hT3⟩ := hTd
  have hTf : oT.isFreed = false := Obj.isFreed_of_fields hTd
  have px : (g.push oT).get? x = some (asF oe fl) := Heap.get?_push_of_some _ gx
  refine wpAny_setField px rfl h1 (h _ ?_ ?_)
  all_goals
    have nT : (@Ne Nat g.objs.size x) := Nat.ne_of_gt (Heap.lt_size gx)
    have keep : ∀ b o, b ≠ x → g.get? b = some o → ((g.push oT).update x (Obj.mapFields (·.setIfInBounds 1 (.ref g.objs.size)))).get? b = some o := fun b o hb e => by
      rw [Heap.get?_update_other _ _ (Ne.symm hb)]
      exact Heap.get?_push_of_some _ e
    have rec' : ∀ b o, s.heap.get? b = some o → (∀ vs, o.data ≠ .fields vs) → b ≠ x := fun b o e hn q => by
      rw [q, he] at e; cases e
      exact hn fl rfl
    have slot : ∀ b o, s.heap.get? b = some o → (∀ vs, o.data ≠ .fields vs) → ∃ sl, ((g.push oT).update x (Obj.mapFields (·.setIfInBounds 1 (.ref g.objs.size)))).get? b = some { o with slots := sl } := fun b o e hn => by
      obtain ⟨sl, q⟩ := hg.2.2 b o e
      exact ⟨sl, keep b _ (rec' b o e hn) q⟩
  · refine ⟨fun b o e => ?_, hout, hl.of_keeps fun b o e hn => ?_, ?_⟩
    · have nb : b ≠ x := fun q => by rw [q, hout] at e; cases e
      have nf : b ∉ (env :: outer).filterMap (·.frame) := fun hm => by rw [(hl.mem hm).1] at e; cases e
      exact keep b o nb ((hg.2.1 b nf).trans (hst b o e))
    · obtain ⟨sl, q⟩ := slot b o e hn
      exact ⟨_, q, rfl⟩
    · refine ⟨fl.setIfInBounds 1 (.ref g.objs.size), g.objs.size, oT, ts, Heap.get?_update_self _ px rfl, ?_, ?_, ?_, ?_, nT, ?_, hTd, hT3⟩
      · rw [Array.getElem?_setIfInBounds_ne (by decide)]; exact h0
      · simp [h1]
      · rw [Array.getElem?_setIfInBounds_ne (by decide)]; exact h2
      · cases q : B.get? g.objs.size with
        | none => rfl
        | some o =>
          have e1 := Heap.lt_size (hst _ _ q)
          rw [← hg.1] at e1
          exact absurd e1 (Nat.lt_irrefl _)
      · rw [Heap.get?_update_other _ _ (Ne.symm nT)]
        exact Heap.get?_push_size _ hTf
  · exact slot
theorem x_note_new {fl : Array Value} (hfr : A.frames = some (env :: outer)) (hl : s.heap.FunFrames B (env :: outer)) (hf : env.frame = some L) (hst : B.StaysIn s.heap) (hout : B.get? x = none)
    (he : s.heap.get? x = some (asF oe fl)) (h0 : fl[0]? = some a0) (h1 : fl[1]? = some .none) (h2 : fl[2]? = some .none)
    (h : ∀ h', XFly B h' (env :: outer) x oe a0 (rawInt L) → s.heap.UpToSlots h' → Q () { s with heap := h' }) : wpAny M A (noteFrame (.ref x) env) Q E s := by
  unfold noteFrame
  simp only [hf]
  refine wpAny_bind (wpAny_field he rfl h1 ?_)
  rw [if_neg (by decide)]
  exact x_entry hfr hl hf hst hout he h0 (Array.getElem?_eq_some_iff.mp h1).1 h2 h
theorem XFly.flag (F : XFly B s.heap l x oe a0 fl3) (v : Value) {k : Shared → Prop} : ∀ {T : Nat} {oT : Obj} {fl ts : Array Value}, s.heap.get? x = some (asF oe fl) → fl[0]? = some a0 → fl[1]? = some (.ref T) → fl[2]? = some .none → B.get? T = none → (@Ne Nat T x) → s.heap.get? T = some oT → oT.data = .fields ts → 3 < ts.size →
    (XFly B (s.heap.update T (Obj.mapFields (·.setIfInBounds 3 v))) l x oe a0 v → s.heap.UpToSlots (s.heap.update T (Obj.mapFields (·.setIfInBounds 3 v))) → k { s with heap := s.heap.update T (Obj.mapFields (·.setIfInBounds 3 v)) }) → k { s with heap := s.heap.update T (Obj.mapFields (·.setIfInBounds 3 v)) } := by
  intro T oT fl ts he h0 h1 h2 hB hne hT hd h3 hk
  have other : ∀ b, b ≠ T → (s.heap.update T (Obj.mapFields (·.setIfInBounds 3 v))).get? b = s.heap.get? b := fun b hb => Heap.get?_update_other _ _ (Ne.symm hb)
  have rec' : ∀ b o, s.heap.get? b = some o → (∀ vs, o.data ≠ .fields vs) → b ≠ T := fun b o e hn q => by
    rw [q, hT] at e; cases e
    exact hn ts hd
  refine hk ⟨fun b o e => (other b fun q => by rw [q, hB] at e; cases e).trans (F.stays b o e), F.out, F.frames.of_keeps fun b o e hn => ⟨o, (other b (rec' b o e hn)).trans e, rfl⟩, fl, T, _, ts.setIfInBounds 3 v, (other x (Ne.symm hne)).trans he, h0, h1, h2, hB, hne, Heap.get?_update_self _ hT (Obj.isFreed_of_fields (Obj.data_mapFields hd _)), Obj.data_mapFields hd _, by simp [h3]⟩ fun b o e hn => ⟨o.slots, (other b (rec' b o e hn)).trans e⟩
theorem x_flight (F : XFly B s.heap l x oe a0 fl3) {fr : Option Addr} (h : ∀ h', XFly B h' l x oe a0 (fr.elim .none fun f => rawInt f) → s.heap.UpToSlots h' → Q () { s with heap := h' }) : wpAny M A (setFlight (.ref x) fr) Q E s := by
  obtain ⟨fl, T, oT, ts, he, h0, h1, h2, hB, hne, hT, hd, h3⟩ := F.tr
  unfold setFlight
  refine wpAny_bind (wpAny_field he rfl h1 ?_)
  rw [if_pos (show (Value.ref T != Value.none) = true from by simp)]
  have sz := (Array.getElem?_eq_some_iff.mp h3).1
  refine wpAny_setField hT hd sz ?_
  exact F.flag (fr.elim .none fun f => rawInt f) (k := fun s => Q () s) he h0 h1 h2 hB hne hT hd sz (h _)
theorem x_note_again (F : XFly B s.heap l x oe a0 (rawInt L)) (hf : env.frame = some L) (h : Q () s) : wpAny M A (noteFrame (.ref x) env) Q E s := by
  obtain ⟨fl, T, oT, ts, he, h0, h1, h2, hB, hne, hT, hd, h3⟩ := F.tr
  unfold noteFrame
  simp only [hf]
  refine wpAny_bind (wpAny_field he rfl h1 ?_)
  rw [if_pos (show (Value.ref T != Value.none) = true from by simp)]
  refine wpAny_bind (wpAny_field hT hd h3 ?_)
  rw [if_pos (show (rawInt L == rawInt L) = true from by simp)]
  exact wpAny_pure h
theorem x_note_on (F : XFly B s.heap (env :: outer) x oe a0 .none) (hfr : A.frames = some (env :: outer)) (hf : env.frame = some L)
    (h : ∀ h', XFly B h' (env :: outer) x oe a0 (rawInt L) → s.heap.UpToSlots h' → Q () { s with heap := h' }) : wpAny M A (noteFrame (.ref x) env) Q E s := by
  obtain ⟨fl, T, oT, ts, he, h0, h1, h2, hB, hne, hT, hd, h3⟩ := F.tr
  unfold noteFrame
  simp only [hf]
  refine wpAny_bind (wpAny_field he rfl h1 ?_)
  rw [if_pos (show (Value.ref T != Value.none) = true from by simp)]
  refine wpAny_bind (wpAny_field hT hd h3 ?_)
  rw [if_neg (show ¬ ((Value.none == rawInt L) = true) from by simp [rawInt])]
  have sz := (Array.getElem?_eq_some_iff.mp h3).1
  refine wpAny_bind (wpAny_setField hT hd sz ?_)
  refine F.flag .none (k := fun s => wpAny M A _ Q E s) he h0 h1 h2 hB hne hT hd sz fun F' U => ?_
  obtain ⟨fl', T', oT', ts', he', h0', h1', h2', hB', hne', hT', hd', h3'⟩ := F'.tr
  exact x_entry hfr F'.frames hf F'.stays F'.out he' h0' (Array.getElem?_eq_some_iff.mp h1').1 h2' fun h' F'' U' => h h' F'' (U.trans U')
theorem x_traceback {Q : Value → Shared → Prop} (F : XFly B s.heap l x oe a0 fl3) (h : ∀ v, Q v s) : wpAny M A (tracebackOf (.ref x)) Q E s := by
  obtain ⟨fl, T, oT, ts, he, h0, h1, h2, hB, hne, hT, hd, h3⟩ := F.tr
  unfold tracebackOf
  refine wpAny_bind (wpAny_field he rfl h1 ?_)
  dsimp only
  have sz := (Array.getElem?_eq_some_iff.mp h3).1
  refine wpAny_bind (wpAny_field (i := 1) (x := ts[1]'(by omega)) hT hd (by simp) ?_)
  split
  · exact wpAny_pure (h _)
  · exact wpAny_pure (h _)
theorem x_passOn {α : Type} {what : String} {Q : α → Shared → Prop} (F : XFly B s.heap l x oe a0 fl3) (hf : env.frame = some L) (h : ∀ h', XFly B h' l x oe a0 (rawInt L) → s.heap.UpToSlots h' → E (.ref x) { s with heap := h' }) : wpAny M A (PySem.passOn what (.ref x) env : Sem α) Q E s := by
  obtain ⟨fl, T, oT, ts, he, h0, h1, h2, hB, hne, hT, hd, h3⟩ := id F.tr
  unfold PySem.passOn
  refine wpAny_bind (wpAny_field he rfl h1 ?_)
  rw [if_neg (show ¬ ((Value.ref T == Value.none) = true) from by simp)]
  rw [hf]
  refine wpAny_bind (x_flight F fun h' F' U => ?_)
  exact wpAny_throw (h h' F' U)
theorem x_leaving (F : XFly B s.heap (env :: outer) x oe a0 (rawInt L)) (hf : env.frame = some L) (h : ∀ h', XFly B h' outer x oe a0 .none → s.heap.UpToSlots h' → Q () { s with heap := h' }) : wpAny M A (leaving env (.ref x)) Q E s := by
  unfold leaving
  exact wpAny_bind (x_note_again F hf (x_flight F fun h' F' U => h h' F'.pop U))
end
end Mine
end
section
open Lean PySem PySem.W PyProof.Rows PySem.Calls PySem.Spec PySem.Builtin
set_option Elab.async false
set_option maxRecDepth 100000
set_option maxHeartbeats 4000000
namespace Mine
theorem ry_meta (P : Params) : typeIn (lawTop.heap_39 P) (.ref 189) = some (.type "type") := by kernel_rfl
theorem ry_exc (P : Params) : subIn (lawTop.heap_39 P) (.ref 189) (.type "BaseException") = some true := by kernel_rfl
theorem ry_notType (P : Params) : subIn (lawTop.heap_39 P) (.ref 189) (.type "type") = some false := by kernel_rfl
theorem ry_notTup : subIn [] (.type "type") (.type "tuple") = some false := by kernel_rfl
theorem ry_self (P : Params) : subIn (lawTop.heap_39 P) (.ref 189) (.ref 189) = some true := by kernel_rfl
theorem ry_stop (P : Params) : subIn (lawTop.heap_39 P) (.ref 189) (.type "StopIteration") = some false := by kernel_rfl
theorem ry_group (P : Params) : subIn (lawTop.heap_39 P) (.ref 189) (.type "BaseExceptionGroup") = some false := by kernel_rfl
section
variable {prog : Program} {w : World} {A : Around} {E : Value → Shared → Prop} {s : Shared} {env : Env} {h₀ : Heap} {L x : Nat} {m : PySem.Str → Option Value} {od : Option Obj} {ox : Obj}
inductive RaiseOwn (E : Value → Shared → Prop) (h₀ : Heap) (L : Nat) (v : Value) (s₁ : Shared) : Prop
  | mk (x : Nat) (ox : Obj) (od : Option Obj) (fl : Array Value) (m' : PySem.Str → Option Value) (e : v = .ref x) (F : Fr h₀ L s₁.heap m') (I : InstAt s₁.heap x ox 189 od) (hd : ox.data = .fields fl) (h1 : fl[1]? = some .none) (h : E (.ref x) s₁) : RaiseOwn E h₀ L v s₁
theorem isType_inst (h : Heap) (I : InstAt h x ox 189 od) {M : Model} (hn : ∀ c, ox.data ≠ .cls c) : Looks M h (isType (.ref x)) false := by
  intro A Q E s k q
  unfold isType
  refine wpAny_bind (wpAny_loadPart (k _ _ I.at_) ?_)
  obtain ⟨c, d, dt, sl⟩ := ox
  cases dt <;> first | exact wpAny_pure q | exact absurd rfl (hn _)
theorem x_raise {ex : PySem.Expr} {pos : Pos} {Q : Flow → Shared → Prop} (hh : A.handled = none) (_F : Fr h₀ L s.heap m) (X₀ : (lawTop.heap_39 w.params).In h₀)
    (h : wpAny (model prog w) A (eval ex env) (RaiseOwn E h₀ L) E s) : wpAny (model prog w) A (exec (.Raise (some ex) none pos) env) Q E s := by
  show wpAny (model prog w) A (do standAt pos; raiseStmt env (some (do let v ← eval ex env; standAt pos; pure v)) none) Q E s
  refine wpAny_bind (wpAny_standAt ?_)
  unfold raiseStmt
  dsimp only
  refine wpAny_bind (wpAny_bind (wpAny_mono h (fun v s₁ h₁ => wpAny_bind (wpAny_standAt (wpAny_pure ?_))) fun _ _ e => e))
  obtain ⟨x, ox, od, fl, m', rfl, F, I, hd, h1, hE⟩ := h₁
  obtain ⟨hp, g, d, t, os⟩ := s₁
  have X := X₀.keeps F.keep
  have L1 : Looks (model prog w) hp (isType (.ref x)) false := isType_inst hp I fun c => by rw [hd]; simp
  have L2 : Looks (model prog w) hp (isInstance (.ref x) (.type "BaseException")) true := I.type.andThen (looks_subIn X (ry_exc _))
  have L3 : Looks (model prog w) hp (typeOf (.ref x)) (.ref 189) := I.type
  have L4 : Looks (model prog w) hp (typeOf (.ref 189)) (.type "type") := looks_typeIn X (ry_meta _)
  refine wpAny_bind (wpAny_pure ?_)
  dsimp only
  refine wpAny_bind (wpAny_holding ?_)
  unfold excFromValue isExcClass
  refine wpAny_bind (wpAny_bind (L1.here (wpAny_pure ?_)))
  dsimp only
  rw [if_neg (by decide)]
  refine wpAny_bind (L2.here ?_)
  rw [if_pos rfl]
  refine wpAny_pure ?_
  refine wpAny_bind (L1.here ?_)
  rw [if_neg (by decide)]
  unfold raisedInstance
  refine wpAny_bind (wpAny_bind (L3.here (wpAny_bind (L4.here ?_))))
  rw [if_pos (by decide)]
  refine wpAny_pure ?_
  unfold setFlight raiseNew
  refine wpAny_bind (wpAny_bind (wpAny_field I.at_ hd h1 ?_))
  rw [if_neg (by decide)]
  refine wpAny_pure (wpAny_bind (wpAny_handled ?_))
  rw [hh]
  exact wpAny_bind (wpAny_pure (wpAny_throw hE))
theorem x_matches {Q : Bool → Shared → Prop} (X : (lawTop.heap_39 w.params).In s.heap) (I : InstAt s.heap x ox 189 od) (h : Q true s) : wpAny (model prog w) A (excMatches (.ref x) (.ref 189)) Q E s := by
  obtain ⟨hp, g, d, t, os⟩ := s
  have L3 : Looks (model prog w) hp (typeOf (.ref x)) (.ref 189) := I.type
  have L4 : Looks (model prog w) hp (typeOf (.ref 189)) (.type "type") := looks_typeIn X (ry_meta _)
  have L5 : Looks (model prog w) hp (isSubtype (.type "type") (.type "tuple")) false := looks_subIn X (by kernel_rfl)
  have L6 : Looks (model prog w) hp (isSubtype (.ref 189) (.ref 189)) true := looks_subIn X (ry_self _)
  have L7 : Looks (model prog w) hp (isSubtype (.ref 189) (.type "BaseException")) true := looks_subIn X (ry_exc _)
  have L8 : Looks (model prog w) hp (isType (.ref 189)) true := by
    obtain ⟨q, bs, hdct, sn, sub, ab, col, dd, k0, k1, k2, k3, k5, ho⟩ := kx_cls w.params
    intro A Q E s k q
    unfold isType
    exact wpAny_bind (wpAny_loadPart (k _ _ (X _ _ ho)) (wpAny_pure q))
  unfold excMatches isInstance
  repeat lk
  exact h
end
end Mine
end
section
open Lean PySem PySem.W PyProof.Rows PySem.Calls PySem.Spec PySem.Builtin
set_option Elab.async false
set_option maxRecDepth 100000
set_option maxHeartbeats 4000000
namespace Mine
section
variable {prog : Program} {w : World} {A : Around} {E : Value → Shared → Prop} {s : Shared} {env : Env} {K : Frag} {x C L fe fx : Addr} {h₀ : Heap} {m : PySem.Str → Option Value} {ox : Obj} {od : Option Obj} {pos : Pos}
/-- the body of a with statement has raised: what is left to do -/
def WithRaised (prog : Program) (w : World) (A : Around) (E : Value → Shared → Prop) (env : Env) (x fx : Addr) (Q : Flow → Shared → Prop) (e : Value) (s : Shared) : Prop :=
  ∃ a, e = .ref a ∧ wpAny (model prog w) A (noteFrame (.ref a) env) (fun _ s₁ => wpAny (model prog w) A (setFlight (.ref a) none) (fun _ s₂ => wpAny (model prog w) A (typeOf (.ref a)) (fun c s₃ => wpAny (model prog w) A (tracebackOf (.ref a)) (fun tb s₄ =>
    codeAny (model prog w) (A.mark (some (.ref a))) (.call (.ref fx) ⟨[.ref x, c, .ref a, tb], []⟩) (fun r s₅ => ∃ b, r = .ok (.ret (.bool b)) ∧ if b then wpAny (model prog w) A (setFlight (.ref a) none) (fun _ s₆ => Q .next s₆) E s₅ else wpAny (model prog w) A (PySem.passOn "with" (.ref a) env) Q E s₅) s₄) E s₃) E s₂) E s₁) E s
theorem kwx_core0 {bdy : Sem Flow} {Q : Flow → Shared → Prop} (X : K.In s.heap) (I : InstAt s.heap x ox C od) (he : findIn K (.ref C) "__enter__" = some (some (.ref fe))) (hfe : isFn K (.ref fe) = true) (hx : findIn K (.ref C) "__exit__" = some (some (.ref fx))) (hfx : isFn K (.ref fx) = true)
    (h : wpAny (model prog w) A (call (.ref fe) [.ref x]) (fun v s₂ => wpAny (model prog w) A bdy (fun f s₄ => wpAny (model prog w) A (call (.ref fx) [.ref x, .none, .none, .none]) (fun _ s₅ => Q f s₅) E s₄) (WithRaised prog w A E env x fx Q) s₂) E s) :
    wpAny (model prog w) A (withItem false pos env (pure (.ref x)) none bdy) Q E s := by
  obtain ⟨cd, hcd, ae⟩ := kw_along he
  obtain ⟨cd', hcd', ax⟩ := kw_along hx
  cases hcd.symm.trans hcd'
  obtain ⟨hh, g, d, tt, os⟩ := s
  have L1 : Looks (model prog w) hh (specialOnItsLine (.ref x) "__enter__") (some (.ref fe), cd.mro) := kw_special X I hcd ae
  have L2 : Looks (model prog w) hh (specialOnItsLine (.ref x) "__exit__") (some (.ref fx), cd.mro) := kw_special X I hcd ax
  have L3 : Looks (model prog w) hh (bindSpecial (.ref fe) (.ref x)) (.ref fe, [.ref x]) := bind_fn X _ (beq_iff_eq.mp hfe)
  have L4 : Looks (model prog w) hh (bindSpecial (.ref fx) (.ref x)) (.ref fx, [.ref x]) := bind_fn X _ (beq_iff_eq.mp hfx)
  have L5 : Looks (model prog w) hh (aMethodOfAnotherBuiltinTypeStops (.ref fe) cd.mro) () := Looks.of_pure rfl
  have L6 : Looks (model prog w) hh (aMethodOfAnotherBuiltinTypeStops (.ref fx) cd.mro) () := Looks.of_pure rfl
  unfold withItem
  refine wpAny_bind (wpAny_pure (wpAny_bind (wpAny_standAt ?_)))
  simp only [Bool.false_eq_true, if_false]
  kw_lk
  refine wpAny_mono h (fun v s₂ h₂ => ?_) fun _ _ z => z
  kw_lk
  refine wpAny_attempt (kw_held ?_)
  show wpAny _ _ bdy _ _ _
  refine wpAny_mono h₂ (fun f s₄ h₄ => ?_) fun e s₄ h₄ => ?_
  · kw_lk
    refine wpAny_mono h₄ (fun _ s₅ h₅ => ?_) fun _ _ z => z
    kw_lk
    exact h₅
  · obtain ⟨a, rfl, h₄⟩ := h₄
    dsimp only
    refine wpAny_bind (wpAny_mono h₄ (fun _ s₅ h₅ => wpAny_bind (wpAny_mono h₅ (fun _ s₆ h₆ => wpAny_bind (wpAny_standAt (wpAny_holding (wpAny_bind (wpAny_mono h₆ (fun c s₇ h₇ => wpAny_bind (wpAny_mono h₇ (fun tb s₈ h₈ => ?_) fun _ _ z => z)) fun _ _ z => z))))) fun _ _ z => z)) fun _ _ z => z)
    unfold withItem.marked
    refine wpAny_bind (wpAny_bind (wpAny_run ?_))
    refine codeAny_mono h₈ fun r s₉ h₉ => ?_
    obtain ⟨b, rfl, h₉⟩ := h₉
    dsimp only
    refine wpAny_pure (wpAny_bind (wpAny_pure ?_))
    cases b with
    | true =>
      refine wpAny_bind (wpAny_pure ?_)
      rw [if_pos rfl]
      refine wpAny_bind (wpAny_rule (wpAny_bind (wpAny_mono h₉ (fun _ _ q => wpAny_pure q) fun _ _ z => z)))
    | false =>
      refine wpAny_bind (wpAny_pure ?_)
      rw [if_neg (by decide)]
      exact h₉
def KwIn0 (prog : Program) (w : World) (A : Around) (E : Value → Shared → Prop) (env : Env) (pos : Pos) (body : List Stmt) (Q : Flow → Shared → Prop) (v : Value) (s : Shared) : Prop :=
  KwIn prog w A E env pos none pos body Q v s
theorem kwx_in0 {py : Pos} {body : List Stmt} {Q : Flow → Shared → Prop} (F : Fr h₀ L s.heap m) (X₀ : K.In h₀) (I : InstAt s.heap x ox C od) (he : findIn K (.ref C) "__enter__" = some (some (.ref fe))) (hfe : isFn K (.ref fe) = true)
    (hx : findIn K (.ref C) "__exit__" = some (some (.ref fx))) (hfx : isFn K (.ref fx) = true)
    (h : wpAny (model prog w) A (call (.ref fe) [.ref x]) (fun _ s₂ => wpAny (model prog w) A (execs body env) (KwOut prog w A E x fx Q) (WithRaised prog w A E env x fx Q) s₂) E s) :
    KwIn prog w A E env pos none py body Q (.ref x) s :=
  kwx_core0 (X₀.keeps F.keep) I he hfe hx hfx h
end
end Mine
end
section
open Lean PySem PySem.W PyProof.Rows PySem.Calls PySem.Spec PySem.Builtin
set_option Elab.async false
set_option maxRecDepth 100000
set_option maxHeartbeats 4000000
namespace Mine
noncomputable abbrev itO (e i : Nat) : Obj := { cls := .type "list_iterator", data := .fields #[.ref e, .int i 0] }
noncomputable abbrev itEnd (i : Nat) : Obj := { cls := .type "list_iterator", data := .fields #[.none, .int i 0] }
section
variable {prog : Program} {w : World} {A : Around} {E : Value → Shared → Prop} {s : Shared} {h₀ : Heap} {L I e i n : Nat} {m : PySem.Str → Option Value} {news : List (Addr × Obj)} {g : Obj → List (Addr × Obj)} {vs : List Value}
theorem x_iter {Q : Value → Shared → Prop} (F : Fr h₀ L s.heap m) (N : News h₀ L s.heap news) (hm : (e, W.listOf vs.toArray n) ∈ news)
    (h : ∀ (I : Nat) h', Fr h₀ L h' m → News h₀ L h' ((I, itO e 0) :: news) → (∀ p ∈ news, p.1 < I) → Q (.ref I) { s with heap := h' }) :
    wpAny (model prog w) A (call (.builtin "iter") [.ref e]) Q E s := by
  have hl : s.heap.IsList e vs.toArray := News.isList N hm
  refine call_function_entry (by decide +kernel) (by decide +kernel) kdk_entry_iter (kdk_args_iter _) ?_
  unfold Builtin.«iter»
  refine wpAny_bind (m := someArgs "iter" 1 2 _) (wpAny_of_eq (a := [Value.ref e]) (by first | rfl | kernel_rfl!) ?_)
  show wpAny _ _ (pyIter (.ref e) >>= _) _ _ _
  refine wpAny_bind (wpAny_pyIter_list hl ?_)
  exact wpAny_pure ⟨_, rfl, h _ _ (F.push _) (News.push F N _ rfl) (fun q hq => Heap.lt_size (N q hq).1)⟩
theorem next_item {x : Value} {l : Nat} {items : Array Value} {Q : Option Value → Shared → Prop} (ho : s.heap.get? I = some (itO l i)) (hl : s.heap.IsList l items) (hx : items[i]? = some x)
    (hQ : ∀ h', h'.get? I = some (itO l (i + 1)) → Heap.SameBut I s.heap h' → Q (some x) { s with heap := h' }) :
    wpAny (model prog w) A (callSpecial? (.ref I) (PySem.Str.ofString "__next__")) Q E s := by
  have hit : s.heap.IsListIter I l i := ⟨_, ho, rfl, rfl⟩
  obtain ⟨ol, hol, _, nl, hdl⟩ := hl
  refine wpAny_callSpecial?_slot (name := PySem.Str.ofString "__next__") hit.typeIs slot_listiter_next
    (wpAny_call_entry slot_listiter_next hit.typeIs entry_listiter_next ?_ (args_listiter_next _))
  show wpAny _ _ (field (.ref I) 0 >>= _) _ _ s
  refine wpAny_bind (wpAny_field ho rfl (x := .ref l) rfl ?_)
  show wpAny _ _ (if (Value.ref l == Value.none) = true then _ else _) _ _ s
  rw [if_neg (show ¬ ((Value.ref l == Value.none) = true) from Bool.false_ne_true)]
  show wpAny _ _ (field (.ref I) 1 >>= _) _ _ s
  refine wpAny_bind (wpAny_field ho rfl (x := .int i 0) rfl ?_)
  show wpAny _ _ (seqItems? (.ref l) >>= _) _ _ s
  refine wpAny_bind (wpAny_seqItems hol hdl ?_)
  simp only [Int.toNat_natCast, hx]
  refine wpAny_bind (wpAny_setField ho rfl (by simp) (wpAny_pure ⟨x, rfl, hQ _ ?_ (Heap.SameBut.update ..)⟩))
  rw [Heap.get?_update_self _ ho rfl]
  rfl
theorem next_end {l : Nat} {items : Array Value} {Q : Option Value → Shared → Prop} (hh : A.handled = none) (ho : s.heap.get? I = some (itO l i)) (hl : s.heap.IsList l items) (hx : items[i]? = none)
    (hQ : ∀ (x : Nat) (fl : Array Value) h', h'.get? I = some (itEnd i) → h'.get? x = some { cls := .type "StopIteration", data := .fields fl } → (∃ t, fl[0]? = some (.ref t)) → fl[1]? = some .none → fl[2]? = some .none → s.heap.objs.size ≤ x → Heap.ExtBut I s.heap h' → E (.ref x) { s with heap := h' }) :
    wpAny (model prog w) A (callSpecial? (.ref I) (PySem.Str.ofString "__next__")) Q E s := by
  have hit : s.heap.IsListIter I l i := ⟨_, ho, rfl, rfl⟩
  have hlt := Heap.lt_size ho
  obtain ⟨ol, hol, _, nl, hdl⟩ := hl
  refine wpAny_callSpecial?_slot (name := PySem.Str.ofString "__next__") hit.typeIs slot_listiter_next
    (wpAny_call_entry slot_listiter_next hit.typeIs entry_listiter_next ?_ (args_listiter_next _))
  show wpAny _ _ (field (.ref I) 0 >>= _) _ _ s
  refine wpAny_bind (wpAny_field ho rfl (x := .ref l) rfl ?_)
  show wpAny _ _ (if (Value.ref l == Value.none) = true then _ else _) _ _ s
  rw [if_neg (show ¬ ((Value.ref l == Value.none) = true) from Bool.false_ne_true)]
  show wpAny _ _ (field (.ref I) 1 >>= _) _ _ s
  refine wpAny_bind (wpAny_field ho rfl (x := .int i 0) rfl ?_)
  show wpAny _ _ (seqItems? (.ref l) >>= _) _ _ s
  refine wpAny_bind (wpAny_seqItems hol hdl ?_)
  simp only [Int.toNat_natCast, hx]
  refine wpAny_bind (wpAny_rule (wpAny_bind (wpAny_setField ho rfl (by simp) ?_)))
  show wpAny _ _ (newExc (.type "StopIteration") [] >>= _) _ _ _
  refine wpAny_bind ?_
  simp only [newExc, newTuple]
  refine wpAny_bind (wpAny_newObj_type ?_ (by size_fits))
  refine wpAny_bind (m := firstArgMember _ _) (wpAny_of_eq (a := Value.none) (by first | rfl | (simp only [firstArgMember]; rfl)) ?_)
  refine wpAny_newObj_type ?_ (by size_fits)
  unfold raiseNew
  refine wpAny_bind (wpAny_handled ?_)
  rw [show A.in1.handled = none from hh]
  refine wpAny_bind (wpAny_pure (wpAny_throw (hQ _ _ _ ?_ (Heap.get?_push_size _ rfl) ?_ ?_ ?_ ?_ ?_)))
  · refine Heap.get?_push_of_some _ (Heap.get?_push_of_some _ ?_)
    rw [Heap.get?_update_self _ ho rfl]
    rfl
  · exact ⟨_, by rw [Array.getElem?_append_left (show 0 < 6 by decide)]; rfl⟩
  · rw [Array.getElem?_append_left (show 1 < 6 by decide)]; rfl
  · rw [Array.getElem?_append_left (show 2 < 6 by decide)]; rfl
  · show s.heap.objs.size ≤ (Heap.push _ _).objs.size
    rw [Heap.size_push]
    exact Nat.le_succ_of_le (Nat.le_of_eq (Heap.SameBut.update ..).1.symm)
  · exact ((Heap.SameBut.update s.heap I _).extBut.push _).push _
theorem x_next {x : Value} {Q : Value → Shared → Prop} (F : Fr h₀ L s.heap m) (N : News h₀ L s.heap news) (U : UpdF I (itO e i) news g) (hm : (e, W.listOf vs.toArray n) ∈ news) (hx : vs[i]? = some x)
    (h : ∀ h', Fr h₀ L h' m → News h₀ L h' (g (itO e (i + 1))) → Q x { s with heap := h' }) :
    wpAny (model prog w) A (call (.builtin "next") [.ref I]) Q E s := by
  obtain ⟨pre, post, hl, hg, a, b⟩ := U.split
  have hmem : (I, itO e i) ∈ news := by rw [hl]; exact List.mem_append_right _ (.head _)
  have hm1 := N _ hmem
  have hit : s.heap.IsListIter I e i := ⟨_, hm1.1, rfl, rfl⟩
  have hls : s.heap.IsList e vs.toArray := News.isList N hm
  refine call_function_entry (by decide +kernel) (by decide +kernel) kdk_entry_next (kdk_args_next _) ?_
  unfold Builtin.«next»
  refine wpAny_bind (m := someArgs "next" 1 2 _) (wpAny_of_eq (a := [Value.ref I]) (by first | rfl | kernel_rfl!) ?_)
  dsimp only
  refine wpAny_bind (wpAny_specialOf (name := PySem.Str.ofString "__next__") hit.typeIs slot_listiter_next.lookup ?_)
  refine wpAny_ite_split (fun hab => absurd hab (by decide)) (fun _ => ?_)
  refine wpAny_bind (next_item hm1.1 hls (x := x) (by simpa using hx) fun h' hit' hs => ?_)
  refine wpAny_pure ⟨_, rfl, h h' (F.change hs hm1.2.1 hm1.2.2) ?_⟩
  rw [hg]
  exact (show News h₀ L s.heap (pre ++ (I, itO e i) :: post) from hl ▸ N).setIn a b hs hit'
theorem x_nextEnd {Q : Value → Shared → Prop} (hh : A.handled = none) (F : Fr h₀ L s.heap m) (N : News h₀ L s.heap news) (U : UpdF I (itO e i) news g) (hm : (e, W.listOf vs.toArray n) ∈ news) (hx : vs[i]? = none)
    (h : ∀ (x : Nat) (fl : Array Value) h', Fr h₀ L h' m → News h₀ L h' ((x, { cls := .type "StopIteration", data := .fields fl }) :: g (itEnd i)) → (∃ t, fl[0]? = some (.ref t)) → fl[1]? = some .none → fl[2]? = some .none → (∀ p ∈ news, p.1 < x) → E (.ref x) { s with heap := h' }) :
    wpAny (model prog w) A (call (.builtin "next") [.ref I]) Q E s := by
  obtain ⟨pre, post, hl, hg, a, b⟩ := U.split
  have hmem : (I, itO e i) ∈ news := by rw [hl]; exact List.mem_append_right _ (.head _)
  have hm1 := N _ hmem
  have hit : s.heap.IsListIter I e i := ⟨_, hm1.1, rfl, rfl⟩
  have hls : s.heap.IsList e vs.toArray := News.isList N hm
  refine call_function_entry (by decide +kernel) (by decide +kernel) kdk_entry_next (kdk_args_next _) ?_
  unfold Builtin.«next»
  refine wpAny_bind (m := someArgs "next" 1 2 _) (wpAny_of_eq (a := [Value.ref I]) (by first | rfl | kernel_rfl!) ?_)
  dsimp only
  refine wpAny_bind (wpAny_specialOf (name := PySem.Str.ofString "__next__") hit.typeIs slot_listiter_next.lookup ?_)
  refine wpAny_ite_split (fun hab => absurd hab (by decide)) (fun _ => ?_)
  refine wpAny_bind (next_end hh hm1.1 hls (by simpa using hx) fun x fl h' e1 e2 f0 f1 f2 le hs => ?_)
  obtain ⟨oL, es, ep, hL, hr⟩ := F.ns
  have gone : ∀ b o, h₀.get? b = some o → b ≠ I := fun b o q z => by
    have := hm1.2.2
    rw [show (I, itO e i).1 = b from z.symm, q] at this; cases this
  have F' : Fr h₀ L h' m := ⟨⟨oL, es, ep, hs _ _ (Ne.symm hm1.2.1) hL, hr⟩, fun b o q => hs b o (gone b o q) (F.keep b o q), F.above⟩
  have lt : ∀ p ∈ news, p.1 < x := fun p hp => Nat.lt_of_lt_of_le (Heap.lt_size (N p hp).1) le
  refine h x fl h' F' (fun p hp => ?_) f0 f1 f2 lt
  rcases List.mem_cons.mp hp with rfl | hp
  · refine ⟨e2, fun z => ?_, Heap.get?_none_of_le (Nat.le_trans F.above (Nat.le_trans (Nat.le_of_lt (Heap.lt_size hL)) le))⟩
    have := Heap.lt_size hL
    rw [← z] at this
    exact absurd (Nat.lt_of_lt_of_le this le) (Nat.lt_irrefl _)
  · rw [hg] at hp
    rcases List.mem_append.mp hp with q | q
    · have P := N p (hl ▸ List.mem_append_left _ q)
      exact ⟨hs _ _ (a p q) P.1, P.2⟩
    · rcases List.mem_cons.mp q with rfl | q
      · exact ⟨e1, hm1.2⟩
      · have P := N p (hl ▸ List.mem_append_right _ (.tail _ q))
        exact ⟨hs _ _ (b p q) P.1, P.2⟩
end
end Mine
end
section
open Lean PySem PySem.W PyProof.Rows PySem.Calls PySem.Spec PySem.Builtin
set_option Elab.async false
set_option maxRecDepth 100000
set_option maxHeartbeats 4000000
namespace Mine
section
variable {prog : Program} {w : World} {A : Around} {E : Value → Shared → Prop} {s : Shared} {env : Env} {x : Nat}
def CaughtK (prog : Program) (w : World) (A : Around) (E : Value → Shared → Prop) (env : Env) (x : Nat) (n : PySem.Str) (suite : List Stmt) (pos : Pos) (Q : Flow → Shared → Prop) (c : Value) (s : Shared) : Prop :=
  c = .ref 189 ∧ (lawTop.heap_39 w.params).In s.heap ∧ (∃ ox od, InstAt s.heap x ox 189 od) ∧
    wpAny (model prog w) (A.mark (some (.ref x))) (setFlight (.ref x) none) (fun _ s₂ => wpAny (model prog w) (A.mark (some (.ref x))) (storeName env n (.ref x)) (fun _ s₃ => wpAny (model prog w) (A.mark (some (.ref x))) (execs suite env)
      (fun f s₄ => wpAny (model prog w) A (do bindName env n .none; unbindBehindTheSuite env n pos) (fun _ s₅ => Q f s₅) E s₄) (fun _ _ => False) s₃) (fun _ _ => False) s₂) (fun _ _ => False) s
theorem x_handle {t : PySem.Expr} {n : PySem.Str} {b₀ : Stmt} {suite : List Stmt} {pos : Pos} {rest : List ExceptHandler} {Q : Flow → Shared → Prop}
    (h : wpAny (model prog w) (A.mark (some (.ref x))) (eval t env) (CaughtK prog w A E env x n (b₀ :: suite) pos Q) (fun _ _ => False) s) :
    wpAny (model prog w) A (handleBy (.ref x) env (.ExceptHandler (some t) (some n) (b₀ :: suite) pos :: rest)) Q E s := by
  refine wpAny_handleBy_cons (codeAny_handlers_test (wpAny_mono h (fun c s₁ h₁ => ?_) fun _ _ z => z.elim)) (by intro q; cases q)
  obtain ⟨rfl, X, ⟨ox, od, I⟩, h₂⟩ := h₁
  refine x_matches X I ?_
  refine codeAny_handlers_suite_as (wpAny_mono h₂ (fun _ s₂ h₃ => wpAny_mono h₃ (fun _ s₃ h₄ => wpAny_mono h₄ (fun f s₄ h₅ => h₅) fun _ _ z => z.elim) fun _ _ z => z.elim) fun _ _ z => z.elim)
end
section
variable {prog : Program} {w : World} {A : Around} {E : Value → Shared → Prop} {s : Shared} {h₀ : Heap} {L t : Nat} {m : PySem.Str → Option Value} {news : List (Addr × Obj)} {c b : Value} {r : Bool}
theorem nested_plain {k : Value} {dep : Int} {tk : Tok} {T : String} {Q : Fin → Shared → Prop} (hk : k = .int dep tk) (hT : Looks (model prog w) s.heap (typeOf (.type T)) (.type "type")) (L1 : Looks (model prog w) s.heap (isType c) true) (L2 : Looks (model prog w) s.heap (isSubtype c (.type T)) r) (hq : Q (.done (.ret (.bool r))) s) :
    wpAny (model prog w) A (Builtin.«issubclass.nested» ⟨[c, .type T, k], []⟩) Q E s := by
  subst hk
  obtain ⟨hp, g, d, tt, os⟩ := s
  unfold Builtin.«issubclass.nested»
  dsimp only
  refine wpAny_bind (hT.here ?_)
  rw [if_pos (by decide)]
  refine wpAny_bind ?_
  have L3 : Looks (model prog w) hp (isType (.type T)) true := Looks.of_pure rfl
  refine wpAny_bind (L1.here ?_)
  refine wpAny_bind (L3.here ?_)
  rw [if_pos (by decide)]
  refine L2.here ?_
  exact wpAny_pure hq
theorem entry_nested : entryFor table "issubclass.nested" = some Builtin.«issubclass.nested» := PySem.F.entry_issubclass_nested
theorem args_nested (a b c : Value) : argsOk "issubclass.nested" ⟨[a, b, c], []⟩ := by unfold argsOk; kernel_rfl
theorem nested_tuple {T : String} {o : Obj} {nn : Nat} {Q : Fin → Shared → Prop} (ho : s.heap.get? t = some o) (hc : o.cls = .type "tuple") (hd : o.data = .seq #[.type T] nn) (hT : Looks (model prog w) s.heap (typeOf (.type T)) (.type "type")) (L1 : Looks (model prog w) s.heap (isType c) true) (L2 : Looks (model prog w) s.heap (isSubtype c (.type T)) r) (hq : Q (.done (.ret (.bool r))) s) :
    wpAny (model prog w) A (Builtin.«issubclass.nested» ⟨[c, .ref t, rawInt 0], []⟩) Q E s := by
  have hX : s.TypeIs (.ref t) "tuple" := ⟨o, ho, hc⟩
  unfold Builtin.«issubclass.nested»
  dsimp only [rawInt]
  refine wpAny_bind (wpAny_typeOf hX ?_)
  rw [if_neg (by decide)]
  unfold Builtin.Builtins.unionMembers
  refine wpAny_bind (wpAny_bind (wpAny_typeOf hX ?_))
  rw [if_neg (by decide)]
  refine wpAny_pure ?_
  refine wpAny_bind (wpAny_isInstance hX (b := true) (by rw [isSubtype_type]; kernel_rfl) ?_)
  rw [if_pos rfl]
  rw [if_neg (by decide)]
  refine wpAny_bind (wpAny_seqItems ho hd ?_)
  simp only [Option.getD_some, ← Array.forIn_toList, List.forIn_cons, List.forIn_nil]
  refine wpAny_bind (wpAny_bind (wpAny_bind (call_function_entry (by decide +kernel) (by decide +kernel) entry_nested (args_nested _ _ _) ?_)))
  refine nested_plain rfl hT L1 L2 ⟨_, rfl, ?_⟩
  refine wpAny_bind (wpAny_truthy_bool ?_)
  cases r with
  | true =>
    rw [if_pos rfl]
    exact wpAny_bind (wpAny_pure (wpAny_pure (wpAny_pure (wpAny_pure hq))))
  | false =>
    rw [if_neg (by decide)]
    exact wpAny_pure (wpAny_pure (wpAny_pure hq))
theorem x_issub {T : String} {Q : Value → Shared → Prop} (hT : ∀ M, Looks M s.heap (typeOf (.type T)) (.type "type")) (L1 : ∀ M, Looks M s.heap (isType c) true) (L2 : ∀ M, Looks M s.heap (isSubtype c (.type T)) r) (hq : Q (.bool r) s) :
    wpAny (model prog w) A (call (.builtin "issubclass") [c, .type T]) Q E s := by
  refine call_issubclass (S := fun _ R s' => (∀ M, Looks M s'.heap (typeOf (.type T)) (.type "type")) ∧ (∀ M, Looks M s'.heap (isType c) true) ∧ (∀ M, Looks M s'.heap (isSubtype c (.type T)) r) ∧ R (.ok (.ret (.bool r))) s') (fun prog w A R s' hs => ?_) ⟨hT, L1, L2, hq⟩
  obtain ⟨k1, k2, k3, k4⟩ := hs
  exact issubclass_outer (nested_plain rfl (k1 _) (k2 _) (k3 _) k4)
theorem x_issubT {T : String} {o : Obj} {nn : Nat} {Q : Value → Shared → Prop} (ho : s.heap.get? t = some o) (hc : o.cls = .type "tuple") (hd : o.data = .seq #[.type T] nn) (hT : ∀ M, Looks M s.heap (typeOf (.type T)) (.type "type")) (L1 : ∀ M, Looks M s.heap (isType c) true) (L2 : ∀ M, Looks M s.heap (isSubtype c (.type T)) r) (hq : Q (.bool r) s) :
    wpAny (model prog w) A (call (.builtin "issubclass") [c, .ref t]) Q E s := by
  refine call_issubclass (S := fun _ R s' => s'.heap.get? t = some o ∧ (∀ M, Looks M s'.heap (typeOf (.type T)) (.type "type")) ∧ (∀ M, Looks M s'.heap (isType c) true) ∧ (∀ M, Looks M s'.heap (isSubtype c (.type T)) r) ∧ R (.ok (.ret (.bool r))) s') (fun prog w A R s' hs => ?_) ⟨ho, hT, L1, L2, hq⟩
  obtain ⟨k0, k1, k2, k3, k4⟩ := hs
  exact issubclass_outer (nested_tuple k0 hc hd (k1 _) (k2 _) (k3 _) k4)
end
end Mine
end
section
open Lean PySem PySem.W PyProof.Rows PySem.Calls PySem.Spec PySem.Builtin
set_option Elab.async false
set_option maxRecDepth 100000
set_option maxHeartbeats 4000000
namespace Mine
/-- what a ledger holds of an exception that bears a traceback -/
structure Bears (oe : Obj) (a0 fl3 : Value) (x T : Nat) (fl : Array Value) (oT : Obj) : Prop where
  f0 : fl[0]? = some a0
  f1 : fl[1]? = some (.ref T)
  f2 : fl[2]? = some .none
  tb : ∃ ts, oT.data = .fields ts ∧ ts[3]? = some fl3
  ne : @Ne Nat T x
section
variable {M : Model} {A A₁ : Around} {E : Value → Shared → Prop} {s : Shared} {base g B h' : Heap} {env : Env} {outer : List Env} {L x T : Nat} {oe oT : Obj} {a0 fl3 : Value} {m : PySem.Str → Option Value} {rest : List (Addr × Obj)} {C : List Nat} {fl : Array Value}
noncomputable abbrev frs (l : List Env) : List Addr := l.filterMap (·.frame)
theorem hid_frames (K : Below A₁ base outer g) (hf : env.frame = some L) (hk : env.scope.kind = .function) (F : Fr g L s.heap m) (C : List Nat) : s.heap.FunFrames (hideAll s.heap (C ++ frs (env :: outer))) (env :: outer) := by
  have K' := pushX K F hf hk
  exact funFrames_hide K'.frames fun e he a ha => List.mem_append_right _ (List.mem_filterMap.mpr ⟨e, he, ha⟩)
theorem xfly_out (K : Below A₁ base outer g) (hf : env.frame = some L) (F : Fr g L s.heap m) (hx : x ∈ C) (hC : ∀ c ∈ C, g.get? c = none ∧ (@Ne Nat c L)) (N : News g L s.heap rest) (off : ∀ p ∈ rest, p.1 ∉ C)
    (FL : XFly (hideAll s.heap (C ++ frs (env :: outer))) h' (env :: outer) x oe a0 fl3) (U : s.heap.UpToSlots h') :
    ∃ (g' : Heap) (T : Nat) (oT : Obj) (fl' : Array Value), KtsTurn (frs outer) g g' ∧ Below A₁ base outer g' ∧ Fr g' L h' m ∧ News g' L h' ((x, asF oe fl') :: (T, oT) :: rest) ∧ Bears oe a0 fl3 x T fl' oT ∧ (∀ p ∈ rest, p.1 ≠ T) := by
  have hfr : frs (env :: outer) = L :: frs outer := by simp [frs, hf]
  obtain ⟨oL, es, ep, hL, hLd, hLk, hLf⟩ := F.ns
  have LC : L ∉ C := fun q => (hC L q).2 rfl
  have gC : ∀ b o, g.get? b = some o → b ∉ C := fun b o e q => by rw [(hC b q).1] at e; cases e
  have FG : Fr g L (hideAll s.heap C) m := ⟨⟨oL, es, ep, hideAll_get _ hL LC, hLd, hLk, hLf⟩, fun b o e => hideAll_get _ (F.keep b o e) (gC b o e), F.above⟩
  have hBG : ∀ b o, (hideAll s.heap C).get? b = some o → b ∉ frs (env :: outer) → (hideAll s.heap (C ++ frs (env :: outer))).get? b = some o := fun b o e nf => by
    refine hideAll_get _ (of_hideAll _ e) fun hm => ?_
    rcases List.mem_append.mp hm with hm | hm
    · rw [hideAll_none _ hm] at e; cases e
    · exact nf hm
  obtain ⟨g', Tn, F', K'⟩ := kts_ground (name := default) (scope := default) (a := 0) (cd := .none) K FG (fun b o e nf => hBG b o e (by rw [hfr]; exact nf)) FL.stays fun b o e hn => U b o (of_hideAll _ e) hn
  obtain ⟨fl', T, oT, ts, he, h0, h1, h2, hB, hne, hT, hd, h3⟩ := FL.tr
  have framesOk : ∀ b, b ∈ frs (env :: outer) → b ≠ T := fun b hb q => by
    obtain ⟨_, o, ho, hn⟩ := FL.frames.mem hb
    rw [q, hT] at ho; cases ho
    exact hn ts hd
  have inB : ∀ p ∈ rest, (hideAll s.heap (C ++ frs (env :: outer))).get? p.1 = some p.2 := fun p hp => by
    refine hideAll_get _ (N p hp).1 fun hm => ?_
    rcases List.mem_append.mp hm with hm | hm
    · exact off p hp hm
    · rw [hfr] at hm
      rcases List.mem_cons.mp hm with q | hm
      · exact (N p hp).2.1 q
      · obtain ⟨_, o, ho, _⟩ := K.frames.mem hm
        rw [(N p hp).2.2] at ho; cases ho
  have gT : g.get? T = none := by
    cases q : g.get? T with
    | none => rfl
    | some o =>
      have nf : T ∉ frs (env :: outer) := fun hm => framesOk T hm rfl
      have := hBG T o (FG.keep _ _ q) nf
      rw [hB] at this; cases this
  refine ⟨g', T, oT, fl', Tn, K', F', fun p hp => ?_, ⟨h0, h1, h2, ⟨ts, hd, h3⟩, hne⟩, fun p hp q => ?_⟩
  · rcases List.mem_cons.mp hp with rfl | hp
    · exact ⟨he, (hC _ hx).2, Tn.none_ _ (hC _ hx).1⟩
    · rcases List.mem_cons.mp hp with rfl | hp
      · exact ⟨hT, fun q => framesOk L (by rw [hfr]; exact .head _) q.symm, Tn.none_ _ gT⟩
      · exact ⟨FL.stays _ _ (inB p hp), (N p hp).2.1, Tn.none_ _ (N p hp).2.2⟩
  · have := inB p hp
    rw [q, hB] at this; cases this
theorem x_noted_new {Q : Unit → Shared → Prop} (K : Below A₁ base outer g) (hA : A.frames = some (env :: outer)) (hf : env.frame = some L) (hk : env.scope.kind = .function) (F : Fr g L s.heap m) (N : News g L s.heap ((x, asF oe fl) :: rest)) (off : ∀ p ∈ rest, p.1 ≠ x)
    (f0 : fl[0]? = some a0) (f1 : fl[1]? = some .none) (f2 : fl[2]? = some .none)
    (k : ∀ (g' h' : Heap) (T : Nat) (oT : Obj) (fl' : Array Value), KtsTurn (frs outer) g g' → Below A₁ base outer g' → Fr g' L h' m → News g' L h' ((x, asF oe fl') :: (T, oT) :: rest) → Bears oe a0 .none x T fl' oT → (∀ p ∈ rest, p.1 ≠ T) → Q () { s with heap := h' }) :
    wpAny M A (noteFrame (.ref x) env) (fun _ s₁ => wpAny M A (setFlight (.ref x) none) Q E s₁) E s := by
  have hx := N _ (List.mem_cons_self ..)
  have B0 : (hideAll s.heap ([x] ++ frs (env :: outer))).get? x = none := hideAll_none _ (by simp)
  refine x_note_new hA (hid_frames K hf hk F [x]) hf (fun b o e => of_hideAll _ e) B0 hx.1 f0 f1 f2 fun h₁ FL U => x_flight FL fun h₂ FL' U' => ?_
  obtain ⟨g', T, oT, fl', a1, a2, a3, a4, a5, a6⟩ := xfly_out (C := [x]) K hf F (by simp) (fun c hc => by rw [List.mem_singleton.mp hc]; exact ⟨hx.2.2, hx.2.1⟩) (newsSub N fun p hp => .tail _ hp) (fun p hp q => off p hp (List.mem_singleton.mp q)) FL' (U.trans U')
  exact k g' h₂ T oT fl' a1 a2 a3 a4 a5 a6
theorem x_noted_on {Q : Unit → Shared → Prop} (K : Below A₁ base outer g) (hA : A.frames = some (env :: outer)) (hf : env.frame = some L) (hk : env.scope.kind = .function) (F : Fr g L s.heap m) (N : News g L s.heap ((x, asF oe fl) :: (T, oT) :: rest)) (off : ∀ p ∈ rest, p.1 ≠ x ∧ p.1 ≠ T)
    (b : Bears oe a0 .none x T fl oT)
    (k : ∀ (g' h' : Heap) (T : Nat) (oT : Obj) (fl' : Array Value), KtsTurn (frs outer) g g' → Below A₁ base outer g' → Fr g' L h' m → News g' L h' ((x, asF oe fl') :: (T, oT) :: rest) → Bears oe a0 .none x T fl' oT → (∀ p ∈ rest, p.1 ≠ T) → Q () { s with heap := h' }) :
    wpAny M A (noteFrame (.ref x) env) (fun _ s₁ => wpAny M A (setFlight (.ref x) none) Q E s₁) E s := by
  have hx := N _ (List.mem_cons_self ..)
  have hT := N (T, oT) (.tail _ (.head _))
  have B0 : (hideAll s.heap ([x, T] ++ frs (env :: outer))).get? x = none := hideAll_none _ (by simp)
  have BT : (hideAll s.heap ([x, T] ++ frs (env :: outer))).get? T = none := hideAll_none _ (by simp)
  obtain ⟨ts, hd, h3⟩ := b.tb
  have FL : XFly (hideAll s.heap ([x, T] ++ frs (env :: outer))) s.heap (env :: outer) x oe a0 .none := ⟨fun b o e => of_hideAll _ e, B0, hid_frames K hf hk F [x, T], fl, T, oT, ts, hx.1, b.f0, b.f1, b.f2, BT, b.ne, hT.1, hd, h3⟩
  refine x_note_on FL hA hf fun h₁ FL U => x_flight FL fun h₂ FL' U' => ?_
  obtain ⟨g', T', oT', fl', a1, a2, a3, a4, a5, a6⟩ := xfly_out (C := [x, T]) K hf F (by simp) (fun c hc => by
    simp only [List.mem_cons, List.not_mem_nil, or_false] at hc
    rcases hc with rfl | rfl
    · exact ⟨hx.2.2, hx.2.1⟩
    · exact ⟨hT.2.2, hT.2.1⟩) (newsSub N fun p hp => .tail _ (.tail _ hp)) (fun p hp q => by
    simp only [List.mem_cons, List.not_mem_nil, or_false] at q
    rcases q with q | q
    · exact (off p hp).1 q
    · exact (off p hp).2 q) FL' (U.trans U')
  exact k g' h₂ T' oT' fl' a1 a2 a3 a4 a5 a6
theorem x_flightN {Q : Unit → Shared → Prop} {fr : Option Addr} (F : Fr g L s.heap m) (N : News g L s.heap ((x, asF oe fl) :: (T, oT) :: rest)) (off : ∀ p ∈ rest, p.1 ≠ T) (b : Bears oe a0 fl3 x T fl oT)
    (k : ∀ (h' : Heap) (oT' : Obj), Fr g L h' m → News g L h' ((x, asF oe fl) :: (T, oT') :: rest) → Bears oe a0 (fr.elim .none fun f => rawInt f) x T fl oT' → Q () { s with heap := h' }) : wpAny M A (setFlight (.ref x) fr) Q E s := by
  have hx := N _ (List.mem_cons_self ..)
  have hT := N (T, oT) (.tail _ (.head _))
  obtain ⟨ts, hd, h3⟩ := b.tb
  have sz := (Array.getElem?_eq_some_iff.mp h3).1
  unfold setFlight
  refine wpAny_bind (wpAny_field hx.1 rfl b.f1 ?_)
  rw [if_pos (show (Value.ref T != Value.none) = true from by simp)]
  have hs : Heap.SameBut T s.heap (s.heap.update T (Obj.mapFields (·.setIfInBounds 3 (fr.elim .none fun f => rawInt f)))) := Heap.SameBut.update ..
  have hT' := Heap.get?_update_self (Obj.mapFields (·.setIfInBounds 3 (fr.elim .none fun f => rawInt f))) hT.1 (Obj.isFreed_of_fields (Obj.data_mapFields hd _))
  refine wpAny_setField hT.1 hd sz (k _ (Obj.mapFields (·.setIfInBounds 3 (fr.elim .none fun f => rawInt f)) oT) (F.change hs hT.2.1 hT.2.2) ?_ ⟨b.f0, b.f1, b.f2, ⟨ts.setIfInBounds 3 (fr.elim .none fun f => rawInt f), Obj.data_mapFields hd _, by simp [sz]⟩, b.ne⟩)
  exact News.setIn (own := [(x, asF oe fl)]) N (fun p hp => by rw [List.mem_singleton.mp hp]; exact b.ne.symm) off hs hT'
theorem x_tbN {Q : Value → Shared → Prop} (N : News g L s.heap ((x, asF oe fl) :: (T, oT) :: rest)) (b : Bears oe a0 fl3 x T fl oT) (h : ∀ v, Q v s) : wpAny M A (tracebackOf (.ref x)) Q E s := by
  have hx := N _ (List.mem_cons_self ..)
  have hT := N (T, oT) (.tail _ (.head _))
  obtain ⟨ts, hd, h3⟩ := b.tb
  have sz := (Array.getElem?_eq_some_iff.mp h3).1
  unfold tracebackOf
  refine wpAny_bind (wpAny_field hx.1 rfl b.f1 ?_)
  dsimp only
  refine wpAny_bind (wpAny_field (i := 1) (x := ts[1]'(by omega)) hT.1 hd (by simp) ?_)
  split
  · exact wpAny_pure (h _)
  · exact wpAny_pure (h _)
theorem x_passN {α : Type} {what : String} {Q : α → Shared → Prop} (hf : env.frame = some L) (F : Fr g L s.heap m) (N : News g L s.heap ((x, asF oe fl) :: (T, oT) :: rest)) (off : ∀ p ∈ rest, p.1 ≠ T) (b : Bears oe a0 fl3 x T fl oT)
    (k : ∀ (h' : Heap) (oT' : Obj), Fr g L h' m → News g L h' ((x, asF oe fl) :: (T, oT') :: rest) → Bears oe a0 (rawInt L) x T fl oT' → E (.ref x) { s with heap := h' }) : wpAny M A (PySem.passOn what (.ref x) env : Sem α) Q E s := by
  have hx := N _ (List.mem_cons_self ..)
  unfold PySem.passOn
  refine wpAny_bind (wpAny_field hx.1 rfl b.f1 ?_)
  rw [if_neg (show ¬ ((Value.ref T == Value.none) = true) from by simp)]
  rw [hf]
  exact wpAny_bind (x_flightN F N off b fun h' oT' F' N' b' => wpAny_throw (k h' oT' F' N' b'))
theorem x_leavingN {Q : Unit → Shared → Prop} (hf : env.frame = some L) (F : Fr g L s.heap m) (N : News g L s.heap ((x, asF oe fl) :: (T, oT) :: rest)) (off : ∀ p ∈ rest, p.1 ≠ T) (b : Bears oe a0 (rawInt L) x T fl oT)
    (k : ∀ (h' : Heap) (oT' : Obj), Fr g L h' m → News g L h' ((x, asF oe fl) :: (T, oT') :: rest) → Bears oe a0 .none x T fl oT' → Q () { s with heap := h' }) : wpAny M A (leaving env (.ref x)) Q E s := by
  have hx := N _ (List.mem_cons_self ..)
  have hT := N (T, oT) (.tail _ (.head _))
  obtain ⟨ts, hd, h3⟩ := b.tb
  unfold leaving noteFrame
  simp only [hf]
  refine wpAny_bind (wpAny_bind (wpAny_field hx.1 rfl b.f1 ?_))
  rw [if_pos (show (Value.ref T != Value.none) = true from by simp)]
  refine wpAny_bind (wpAny_field hT.1 hd h3 ?_)
  rw [if_pos (show (rawInt L == rawInt L) = true from by simp)]
  exact wpAny_pure (x_flightN F N off b k)
theorem x_typeN {o : Obj} {Q : Value → Shared → Prop} (N : News g L s.heap ((x, o) :: rest)) (h : Q o.cls s) : wpAny M A (typeOf (.ref x)) Q E s := by
  have hx := N _ (List.mem_cons_self ..)
  unfold typeOf
  exact wpAny_bind (wpAny_loadPart hx.1 (wpAny_pure h))
end
section
variable {prog : Program} {w : World} {A : Around} {E : Value → Shared → Prop} {s : Shared} {h₀ : Heap} {L t : Nat} {m : PySem.Str → Option Value} {news : List (Addr × Obj)}
theorem rw_type189 {P : Params} {h : Heap} (X : (lawTop.heap_39 P).In h) (M : Model) : Looks M h (isType (.ref 189)) true := by
  obtain ⟨q, bs, hdct, sn, sub, ab, col, dd, k0, k1, k2, k3, k5, ho⟩ := kx_cls P
  intro A Q E s k q
  unfold isType
  exact wpAny_bind (wpAny_loadPart (k _ _ (X _ _ ho)) (wpAny_pure q))
theorem x_issubF {Q : Value → Shared → Prop} (F : Fr h₀ L s.heap m) (X₀ : (lawTop.heap_39 w.params).In h₀) (N : News h₀ L s.heap news) (hm : (t, tupO [.type "StopIteration"]) ∈ news) (hq : Q (.bool false) s) :
    wpAny (model prog w) A (call (.builtin "issubclass") [.ref 189, .ref t]) Q E s := by
  have X := X₀.keeps F.keep
  exact x_issubT (N _ hm).1 rfl rfl (fun M => Looks.of_pure (by kernel_rfl)) (rw_type189 X) (fun M => looks_subIn X (ry_stop _)) hq
theorem x_issubG {Q : Value → Shared → Prop} (F : Fr h₀ L s.heap m) (X₀ : (lawTop.heap_39 w.params).In h₀) (hq : Q (.bool false) s) :
    wpAny (model prog w) A (call (.builtin "issubclass") [.ref 189, .type "BaseExceptionGroup"]) Q E s := by
  have X := X₀.keeps F.keep
  exact x_issub (fun M => Looks.of_pure (by kernel_rfl)) (rw_type189 X) (fun M => looks_subIn X (ry_group _)) hq
theorem x_issubS {Q : Value → Shared → Prop} (F : Fr h₀ L s.heap m) (X₀ : (lawTop.heap_39 w.params).In h₀) (N : News h₀ L s.heap news) (hm : (t, tupO [.type "StopIteration"]) ∈ news) (hq : Q (.bool true) s) :
    wpAny (model prog w) A (call (.builtin "issubclass") [.type "StopIteration", .ref t]) Q E s := by
  have X := X₀.keeps F.keep
  exact x_issubT (N _ hm).1 rfl rfl (fun M => Looks.of_pure (by kernel_rfl)) (fun M => Looks.of_pure rfl) (fun M => looks_subIn X (by kernel_rfl)) hq
end
end Mine
end
section
open Lean PySem PySem.W PyProof.Rows PySem.Calls PySem.Spec PySem.Builtin
set_option Elab.async false
set_option maxRecDepth 100000
set_option maxHeartbeats 4000000
namespace Mine
section
variable {prog : Program} {w : World} {A₀ A : Around} {s : Shared} {base h₀ : Heap} {outer : List Env} {L : Addr} {m : PySem.Str → Option Value} {env : Env} {news : List (Addr × Obj)} {K : Frag}
  {p : Program} {loose : List PySem.Str} {mean : ExcName → Option Value} {mg mb : PySem.Str → Option Value}
  {R : Result → Shared → Prop} {name qual : PySem.Str} {params : Arguments} {body : List Stmt} {scope : Scope} {dV kV doc pm cdv ct oc : Value} {an od : Option Addr} {osl : Array (Option Value)} {f : Addr} {args : Args} {binds : List (PySem.Str × Value)}
/-- a call of a def whose frames below may have been turned when it ends: what comes back is asked of R itself -/
theorem code_defW (B : Below A₀ base outer h₀) (F : Fr h₀ L s.heap m) (X₀ : K.In h₀) (N : News h₀ L s.heap news) (T : Top p loose mean mg mb h₀) (hA : A.frames = some (env :: outer)) (hf : env.frame = some L) (hke : env.scope.kind = .function)
    (ho : K.lookup f = some ⟨oc, od, .func (fnOf name qual params body scope dV kV doc pm an cdv ct), osl⟩) (hcd : codeIn K cdv qual = true) (hroom : A.depth < recursionLimit)
    (hbind : BindsTo s (fnOf name qual params body scope dV kV doc pm an cdv ct) args binds) (hloc : ∀ y ∈ binds, scope.names.lookup y.1 = some .local)
    (h : ∀ g L' h₁, Fr h₀ L g m → Fr g L' h₁ (fun y => binds.reverse.lookup y) → News g L' h₁ news → Below A base (env :: outer) g → K.In g → Top p loose mean mg mb g →
      wpAny (model prog w) (A.deeper (envOf qual scope L' f cdv)) (execs body (envOf qual scope L' f cdv))
        (fun fl s' => R (.ok (.ret (match fl with | .ret v => v | _ => .none))) s')
        (fun e s' => wpAny (model prog w) (A.deeper (envOf qual scope L' f cdv)) (leaving (envOf qual scope L' f cdv) e) (fun _ s'' => R (.error e) s'') (fun e' s'' => R (.error e') s'') s')
        { s with heap := h₁, toks := s.toks + binds.length })
    (hco : scope.isCoroutine = false) (hgen : scope.isGenerator = false) (hk : scope.kind = .function)
    (hcell : ∀ x ∈ scope.names, x.2 ≠ .cell) : codeAny (model prog w) A (.call (.ref f) args) R s := by
  obtain ⟨FG, BG, st, -⟩ := groundX (R := R) B F N hA hf hke
  have X := X₀.keeps F.keep
  refine codeAny_call_def (fd := fnOf name qual params body scope dV kV doc pm an cdv ct) (body := body) (binds := binds) hroom (X _ _ ho) rfl (T.nolimit.keeps F.keep) (codeRec_of X hcd) rfl hbind hcell hloc (fun h₁ hns hk₁ => ?_) hco hgen hk
  exact h _ s.heap.objs.size h₁ FG ⟨hns, fun b o e => hk₁ b o (of_hideAll _ e), Nat.le_of_eq (hideAll_size _ _)⟩
    (fun p hp => ⟨hk₁ _ _ (N p hp).1, Nat.ne_of_lt (Heap.lt_size (N p hp).1), hideAll_none _ (List.mem_map_of_mem hp)⟩) BG (X₀.keeps st) (T.keeps st)
theorem w_back {g g' h : Heap} {L' : Addr} {m' : PySem.Str → Option Value} (FG : Fr h₀ L g m) (Tn : KtsTurn [L] g g') (F' : Fr g' L' h m') (N' : News g' L' h news) : Fr h₀ L h m ∧ News h₀ L h news := by
  obtain ⟨oL, es, ep, hL, hLd, hLk, hLf⟩ := FG.ns
  obtain ⟨sl, hs⟩ := Tn.frame _ _ hL (by simp)
  have up : ∀ b o, h₀.get? b = some o → g'.get? b = some o := fun b o e => Tn.other b o (FG.keep b o e) fun hm => by
    have h1 := Heap.lt_size e
    rw [List.mem_singleton.mp hm] at h1
    exact absurd (Nat.lt_of_lt_of_le h1 FG.above) (Nat.lt_irrefl _)
  refine ⟨⟨⟨_, es, ep, F'.keep _ _ hs, hLd, hLk, hLf⟩, fun b o e => F'.keep b o (up b o e), FG.above⟩, fun p hp => ⟨(N' p hp).1, fun q => ?_, ?_⟩⟩
  · have := (N' p hp).2.2
    rw [q, hs] at this; cases this
  · cases q : h₀.get? p.1 with
    | none => rfl
    | some o => have := (N' p hp).2.2; rw [up _ _ q] at this; cases this
theorem grounded {g g' : Heap} (FG : Fr h₀ L g m) (Tn : KtsTurn [L] g g') (X : K.In h₀) (T : Top p loose mean mg mb h₀) : K.In g' ∧ Top p loose mean mg mb g' := by
  have up : ∀ b o, h₀.get? b = some o → g'.get? b = some o := fun b o e => Tn.other b o (FG.keep b o e) fun hm => by
    have h1 := Heap.lt_size e
    rw [List.mem_singleton.mp hm] at h1
    exact absurd (Nat.lt_of_lt_of_le h1 FG.above) (Nat.lt_irrefl _)
  exact ⟨X.keeps up, T.keeps up⟩
end
section
variable {prog : Program} {w : World} {A A₁ : Around} {E : Value → Shared → Prop} {s : Shared} {base g : Heap} {env : Env} {outer : List Env} {L x xs fx : Nat} {oe : Obj} {a0 : Value} {m : PySem.Str → Option Value} {rest : List (Addr × Obj)} {fl : Array Value}
theorem x_withRaised {Q : Flow → Shared → Prop} (K : Below A₁ base outer g) (hA : A.frames = some (env :: outer)) (hf : env.frame = some L) (hk : env.scope.kind = .function) (F : Fr g L s.heap m) (N : News g L s.heap ((x, asF oe fl) :: rest)) (off : ∀ p ∈ rest, p.1 ≠ x)
    (f0 : fl[0]? = some a0) (f1 : fl[1]? = some .none) (f2 : fl[2]? = some .none)
    (k : ∀ (g' h' : Heap) (T : Nat) (oT : Obj) (fl' : Array Value) (tb : Value), KtsTurn (frs outer) g g' → Below A₁ base outer g' → Fr g' L h' m → News g' L h' ((x, asF oe fl') :: (T, oT) :: rest) → Bears oe a0 .none x T fl' oT → (∀ p ∈ rest, p.1 ≠ T) →
      codeAny (model prog w) (A.mark (some (.ref x))) (.call (.ref fx) ⟨[.ref xs, oe.cls, .ref x, tb], []⟩) (fun r s₅ => ∃ b, r = .ok (.ret (.bool b)) ∧ if b then wpAny (model prog w) A (setFlight (.ref x) none) (fun _ s₆ => Q .next s₆) E s₅ else wpAny (model prog w) A (PySem.passOn "with" (.ref x) env) Q E s₅) { s with heap := h' }) :
    WithRaised prog w A E env xs fx Q (.ref x) s := by
  refine ⟨x, rfl, x_noted_new K hA hf hk F N off f0 f1 f2 fun g' h' T oT fl' a1 a2 a3 a4 a5 a6 => ?_⟩
  refine x_typeN a4 (x_tbN a4 a5 fun tb => ?_)
  exact k g' h' T oT fl' tb a1 a2 a3 a4 a5 a6
end
theorem news3 {h₀ h : Heap} {L : Addr} {l : List (Addr × Obj)} {a b c : Addr × Obj} (N : News h₀ L h l) (h1 : a ∈ l) (h2 : b ∈ l) (h3 : c ∈ l) : News h₀ L h (a :: b :: c :: l) := newsSub N (List.forall_mem_cons.mpr ⟨h1, List.forall_mem_cons.mpr ⟨h2, List.forall_mem_cons.mpr ⟨h3, fun _ hp => hp⟩⟩⟩)
theorem newsTail3 {h₀ h : Heap} {L : Addr} {l : List (Addr × Obj)} {a b c : Addr × Obj} (N : News h₀ L h (a :: b :: c :: l)) : News h₀ L h l := newsSub N fun _ hp => .tail _ (.tail _ (.tail _ hp))
theorem reord7 {h₀ h : Heap} {L : Addr} {a b c i x d e : Addr × Obj} {own : List (Addr × Obj)} (N : News h₀ L h (a :: b :: c :: i :: x :: d :: e :: own)) : News h₀ L h (x :: d :: e :: i :: a :: b :: c :: own) := newsSub N fun p hp => by
  simp only [List.mem_cons] at hp ⊢
  rcases hp with hp | hp | hp | hp | hp | hp | hp | hp <;> simp [hp]
theorem FaultIn.mono {P : Params} {nx nx' : Ledger} {f : FT} (h : FaultIn P nx f) (hs : ∀ p ∈ nx, p ∈ nx') : FaultIn P nx' f := by
  obtain ⟨fl, k1, k2, k3, tm, ts, ts', en, ev, h0, h1, h2, h3, h4, h5⟩ := h
  exact ⟨fl, k1, k2, k3, tm, ts, ts', en, ev, h0, hs _ h1, hs _ h2, hs _ h3, hs _ h4, h5.mono fun _ _ hm => hs _ hm⟩
end Mine
end
section
open Lean PySem PySem.W PyProof.Rows PySem.Calls PySem.Spec PySem.Builtin
set_option Elab.async false
set_option maxRecDepth 100000
set_option maxHeartbeats 4000000
namespace Mine
section
variable {prog : Program} {w : World} {A : Around} {E : Value → Shared → Prop} {s : Shared} {env : Env} {h₀ : Heap} {target : PySem.Expr} {body : List Stmt} {Q : Flow → Shared → Prop}
theorem shiftW {I : Addr} {fp wr : List Addr} {n k : Nat} {P : Nat → Value → Prop} {St : Nat → Heap → Prop} (W : Walks prog w A I fp wr n P St) (hk : k ≤ n) : Walks prog w A I fp wr (n - k) (fun i v => P (i + k) v) (fun i h => St (i + k) h) where
  sub := W.sub
  frame := fun i h h' st => W.frame (i + k) h h' st
  item := fun i s Q E hi st hQ => W.item (i + k) s Q E (by omega) st fun v h' tk hP hs => hQ v h' tk hP (by rw [Nat.add_right_comm]; exact hs)
  done := fun s Q E st hQ => W.done s Q E (by rw [Nat.sub_add_cancel hk] at st; exact st) hQ
  self := fun i s Q E st hQ => W.self (i + k) s Q E st hQ
theorem turnsAt_it {It ax k : Nat} {vs : List Value} {n : Nat} {m₀ : PySem.Str → Option Value} {news : List (Addr × Obj)} (J : Nat → (PySem.Str → Option Value) → List (Addr × Obj) → Prop)
    (hh : A.handled = none) (F : Fr h₀ env.locals s.heap m₀) (N : News h₀ env.locals s.heap ((It, itO ax k) :: news)) (hm : (ax, W.listOf vs.toArray n) ∈ news) (hk : k ≤ vs.length) (off : ∀ p ∈ news, p.1 ≠ It) (hj : J 0 m₀ news)
    (turn : ∀ i v m₁ nx h tk own, vs[i + k]? = some v → J i m₁ nx → (∀ p ∈ nx, p.1 ≠ It) → (∀ p ∈ own, p.1 = It ∨ p.1 = ax) → (∃ o, (It, o) ∈ own ∧ o.cls = .type "list_iterator") → Fr h₀ env.locals h m₁ → News h₀ env.locals h (own ++ nx) →
      wpAny (model prog w) A (assign target env v) (fun _ s₃ => wpAny (model prog w) A (execs body env) (RowPost h₀ env.locals It (J (i + 1)) own { s with heap := h, toks := tk } Q) E s₃) E { s with heap := h, toks := tk })
    (done : ∀ m₁ nx h tk, J (vs.length - k) m₁ nx → Fr h₀ env.locals h m₁ → News h₀ env.locals h nx → Q .next { s with heap := h, toks := tk }) :
    TurnsAt prog w A h₀ env target body Q E (.ref It) s := by
  have hI := N _ (List.mem_cons_self ..)
  have Nn : News h₀ env.locals s.heap news := newsSub N fun p hp => .tail _ hp
  have hax := Nn _ hm
  have hl : s.heap.IsList ax vs.toArray := News.isList Nn hm
  have hne : ax ≠ It := off _ hm
  have hit : s.heap.IsListIter It ax k := ⟨_, hI.1, rfl, rfl⟩
  have hsz : vs.toArray.size = vs.length := by simp
  have W := shiftW (listH (prog := prog) (w := w) (A := A) none hh It ax hne vs.toArray ax default (.inl rfl)) (k := k) (by rw [hsz]; exact hk)
  have KW : KTurns prog w A target _ _ _ _ _ _ _ := KTurns.ofWalks W fun i v s Q E st q => letGo_listiter st.1 q
  refine ⟨_, _, _, _, _, _, _, m₀, news, J, rfl, KW, ?_, ?_, ?_, ⟨by simpa using hit, hl, .inl rfl⟩, F, Nn, hj, ?_, ?_⟩
  · intro hc
    simp only [List.mem_cons, List.not_mem_nil, or_false] at hc
    rcases hc with e | e | e
    · exact hI.2.1 e.symm
    · exact hax.2.1 e.symm
    · exact hax.2.1 e.symm
  · intro b hb
    rw [List.mem_singleton.mp hb]
    exact hI.2.2
  · intro p hp hc
    exact off p hp (List.mem_singleton.mp hc)
  · intro i v m₁ nx h₁ tk₁ own hin hP hJ hoff hown hget hall hst F₁ N₁
    have hv : vs[i + k]? = some v := by simpa using hP
    have hownF : ∀ p ∈ own, p.1 = It ∨ p.1 = ax := fun p hp => by
      have h := hown p hp
      simp only [List.mem_cons, List.not_mem_nil, or_false] at h
      rcases h with e | e | e
      · exact .inl e
      · exact .inr e
      · exact .inr e
    have hIn : ∃ o, (It, o) ∈ own ∧ o.cls = .type "list_iterator" := by
      obtain ⟨o, ho, hc, _⟩ := hst.1
      exact ⟨o, hall It (by simp) hI.2.2 o ho, hc⟩
    refine wpAny_mono (turn i v m₁ nx h₁ tk₁ own hv hJ (fun p hp e => hoff p hp (List.mem_singleton.mpr e)) hownF hIn F₁ N₁) (fun _ s₃ h₃ => wpAny_mono h₃ (fun f s₄ p => ?_) fun _ _ e => e) fun _ _ e => e
    have fin : (∃ h' tk m' nx, s₄ = { { s with heap := h₁, toks := tk₁ } with heap := h', toks := tk } ∧ Fr h₀ env.locals h' m' ∧ News h₀ env.locals h' (own ++ nx) ∧ (∀ p ∈ nx, p.1 ≠ It) ∧ J (i + 1) m' nx) → LoopStepU h₀ env.locals [It] own (J (i + 1)) { s with heap := h₁, toks := tk₁ } .next s₄ := by
      rintro ⟨h', tk, m', nx', e, F', N', ho, hj⟩
      exact ⟨rfl, h', tk, m', nx', e, F', N', fun p hp hI => ho p hp (List.mem_singleton.mp hI), hj⟩
    cases f with
    | ret v => exact .ret p
    | brk => exact .brk p
    | next => exact .next (fin p)
    | cont => exact .cont (fin p)
  · intro h' tk m' nx F' N' ho hJ
    rw [hsz] at hJ
    exact done m' nx h' tk hJ F' N'
theorem iter_iterG {It ax k : Nat} {vs : List Value} {n : Nat} {m₀ : PySem.Str → Option Value} {news : List (Addr × Obj)} (J : Nat → (PySem.Str → Option Value) → List (Addr × Obj) → Prop)
    (hh : A.handled = none) (F : Fr h₀ env.locals s.heap m₀) (N : News h₀ env.locals s.heap ((It, itO ax k) :: news)) (hm : (ax, W.listOf vs.toArray n) ∈ news) (hk : k ≤ vs.length) (off : ∀ p ∈ news, p.1 ≠ It) (hj : J 0 m₀ news)
    (turn : ∀ i v m₁ nx h tk own, vs[i + k]? = some v → J i m₁ nx → (∀ p ∈ nx, p.1 ≠ It) → (∀ p ∈ own, p.1 = It ∨ p.1 = ax) → (∃ o, (It, o) ∈ own ∧ o.cls = .type "list_iterator") → Fr h₀ env.locals h m₁ → News h₀ env.locals h (own ++ nx) →
      wpAny (model prog w) A (assign target env v) (fun _ s₃ => wpAny (model prog w) A (execs body env) (RowPost h₀ env.locals It (J (i + 1)) own { s with heap := h, toks := tk } Q) E s₃) E { s with heap := h, toks := tk })
    (done : ∀ m₁ nx h tk, J (vs.length - k) m₁ nx → Fr h₀ env.locals h m₁ → News h₀ env.locals h nx → Q .next { s with heap := h, toks := tk }) :
    wpAny (model prog w) A (pyIter (.ref It)) (fun it s₂ => TurnsAt prog w A h₀ env target body Q E it s₂) E s := by
  have hI := N _ (List.mem_cons_self ..)
  exact wpAny_pyIter_listiter (l := ax) (i := k) ⟨_, hI.1, rfl, rfl⟩ (turnsAt_it J hh F N hm hk off hj turn done)
theorem iter_listN {ax : Nat} {vs : List Value} {n : Nat} {m₀ : PySem.Str → Option Value} {news : List (Addr × Obj)} (J : Nat → (PySem.Str → Option Value) → List (Addr × Obj) → Prop)
    (hh : A.handled = none) (F : Fr h₀ env.locals s.heap m₀) (N : News h₀ env.locals s.heap news) (hm : (ax, W.listOf vs.toArray n) ∈ news) (hj : J 0 m₀ news)
    (turn : ∀ It i v m₁ nx h tk own, (∀ p ∈ news, p.1 < It) → vs[i]? = some v → J i m₁ nx → (∀ p ∈ nx, p.1 ≠ It) → (∀ p ∈ own, p.1 = It ∨ p.1 = ax) → (∃ o, (It, o) ∈ own ∧ o.cls = .type "list_iterator") → Fr h₀ env.locals h m₁ → News h₀ env.locals h (own ++ nx) →
      wpAny (model prog w) A (assign target env v) (fun _ s₃ => wpAny (model prog w) A (execs body env) (RowPost h₀ env.locals It (J (i + 1)) own { s with heap := h, toks := tk } Q) E s₃) E { s with heap := h, toks := tk })
    (done : ∀ m₁ nx h tk, J vs.length m₁ nx → Fr h₀ env.locals h m₁ → News h₀ env.locals h nx → Q .next { s with heap := h, toks := tk }) :
    wpAny (model prog w) A (pyIter (.ref ax)) (fun it s₂ => TurnsAt prog w A h₀ env target body Q E it s₂) E s := by
  have hl : s.heap.IsList ax vs.toArray := News.isList N hm
  refine wpAny_pyIter_list hl ?_
  have lt : ∀ p ∈ news, p.1 < s.heap.objs.size := fun p hp => Heap.lt_size (N p hp).1
  refine turnsAt_it (k := 0) (ax := ax) (vs := vs) J hh (F.push _) (News.push F N _ rfl) hm (Nat.zero_le _) (fun p hp => Nat.ne_of_lt (lt p hp)) hj (fun i v m₁ nx h tk own => turn _ i v m₁ nx h tk own lt) (fun m₁ nx h tk => done m₁ nx h tk)
end
end Mine
end
section
open PySem PySem.W PyProof.Rows PySem.Calls PySem.Spec
set_option Elab.async false
set_option maxRecDepth 100000
set_option maxHeartbeats 4000000
namespace Mine
noncomputable abbrev lns (ps : List (Int × PySem.Str)) : List PySem.Str := ps.map fun p => lineT p.1 p.2
structure CombS (P : Params) (own : Ledger) (x d e M : Nat) (fl : Array Value) (k1 k2 k3 : Nat) (ms so : PySem.Str) (tm ts : Nat) (ps : List (Int × PySem.Str)) (tx : List PySem.Str) (nx : Ledger) : Prop where
  hx : (x, excF d fl) ∈ nx
  hd : (d, fdict P k1 k2 k3 ms so tm ts e) ∈ nx
  keep : ∀ p ∈ own, p ∈ nx
  er : ∃ ev en, (e, W.listOf (List.toArray ev) en) ∈ nx ∧ PairsIn nx ev ps
  me : ∃ l mn, (M, W.listOf (List.toArray (strValues l)) mn) ∈ nx ∧ l.map (·.1) = tx
section
variable {P : Params} {own nx nx' : Ledger} {x d e M : Nat} {fl : Array Value} {k1 k2 k3 : Nat} {ms so : PySem.Str} {tm ts : Nat} {ps : List (Int × PySem.Str)} {tx : List PySem.Str}
theorem CombS.step {ev : List Value} {l : List (PySem.Str × Tok)} {en mn en' mn' D tn tl : Nat} {n : Int} {li t : PySem.Str} {k : Nat} (S : CombS P own x d e M fl k1 k2 k3 ms so tm ts ps tx nx) (F : Func nx) (off : OwnOff own [x, d, e, M])
    (he : (e, W.listOf (List.toArray ev) en) ∈ nx) (hp : PairsIn nx ev ps) (hM : (M, W.listOf (List.toArray (strValues l)) mn) ∈ nx) (hl : l.map (·.1) = tx) (hr : ∀ p ∈ restOf nx [x, d, e, M], p ∈ nx')
    (b1 : (x, excF d fl) ∈ nx') (b2 : (d, fdict P k1 k2 k3 ms so tm ts e) ∈ nx') (b3 : (e, W.listOf (List.toArray (ev ++ [.ref D])) en') ∈ nx') (b4 : (M, W.listOf (List.toArray (strValues l ++ [.str t k])) mn') ∈ nx') (b5 : (D, tupO [.int n tn, .str li tl]) ∈ nx') (ht : t = lineT n li) :
    CombS P own x d e M fl k1 k2 k3 ms so tm ts (ps ++ [(n, li)]) (tx ++ [lineT n li]) nx' := by
  have K : Keep nx nx' [e, M] := by
    refine keep_of F (ex := [(x, excF d fl), (d, fdict P k1 k2 k3 ms so tm ts e), (e, W.listOf (List.toArray ev) en), (M, W.listOf (List.toArray (strValues l)) mn)]) hr ?_ ?_ ?_ ?_
    · simp only [List.mem_cons, List.not_mem_nil, or_false, forall_eq_or_imp, forall_eq]
      exact ⟨S.hx, S.hd, he, hM⟩
    · simp only [List.mem_cons, List.not_mem_nil, or_false, forall_eq_or_imp, forall_eq]
      exact ⟨fun _ => b1, fun _ => b2, fun h => absurd (by simp) h, fun h => absurd (by simp) h⟩
    · intro r hr
      simp only [List.mem_cons, List.not_mem_nil, or_false] at hr
      rcases hr with rfl | rfl | rfl | rfl <;> simp
    · intro c hc
      simp only [List.mem_cons, List.not_mem_nil, or_false] at hc
      rcases hc with rfl | rfl
      · exact ⟨_, he, .inl rfl⟩
      · exact ⟨_, hM, .inl rfl⟩
  refine ⟨b1, b2, fun p hp => hr p (mem_restOf (S.keep p hp) fun hc => off p hp _ hc rfl), ⟨_, _, b3, (hp.mono (K.tup F)).snoc b5⟩, ⟨l ++ [(t, k)], mn', ?_, ?_⟩⟩
  · rw [show strValues (l ++ [(t, k)]) = strValues l ++ [.str t k] from by simp [strValues]]
    exact b4
  · rw [List.map_append, hl, ht]
    rfl
theorem CombS.own_sub {own' : Ledger} (S : CombS P own x d e M fl k1 k2 k3 ms so tm ts ps tx nx) (h : ∀ p ∈ own', p ∈ own) : CombS P own' x d e M fl k1 k2 k3 ms so tm ts ps tx nx := ⟨S.hx, S.hd, fun p hp => S.keep p (h p hp), S.er, S.me⟩
/-- the entries at one address are dropped -/
theorem CombS.drop {I : Nat} (S : CombS P own x d e M fl k1 k2 k3 ms so tm ts ps tx nx) (F : Func nx) (hI : ∃ o, (I, o) ∈ nx ∧ o.cls = .type "list_iterator") (hx : I ∉ [x, d, e, M]) (ho : ∀ p ∈ own, p.1 ≠ I) : CombS P own x d e M fl k1 k2 k3 ms so tm ts ps tx (restOf nx [I]) := by
  obtain ⟨o, hI, ho'⟩ := hI
  simp only [List.mem_cons, List.not_mem_nil, or_false, not_or] at hx
  obtain ⟨ev, en, h1, h2⟩ := S.er
  obtain ⟨l, mn, h3, h4⟩ := S.me
  have nt : ∀ a vs, (a, tupO vs) ∈ nx → (a, tupO vs) ∈ restOf nx [I] := fun a vs h => mem_restOf h fun hc => by
    have e : a = I := List.mem_singleton.mp hc
    subst e
    rw [F _ _ _ hI h] at ho'
    simp at ho'
  refine ⟨mem_restOf S.hx ?_, mem_restOf S.hd ?_, fun p hp => mem_restOf (S.keep p hp) fun hc => ho p hp (List.mem_singleton.mp hc), ⟨ev, en, mem_restOf h1 ?_, h2.mono nt⟩, ⟨l, mn, mem_restOf h3 ?_, h4⟩⟩
  · exact fun hc => hx.1 (List.mem_singleton.mp hc).symm
  · exact fun hc => hx.2.1 (List.mem_singleton.mp hc).symm
  · exact fun hc => hx.2.2.1 (List.mem_singleton.mp hc).symm
  · exact fun hc => hx.2.2.2 (List.mem_singleton.mp hc).symm
end
theorem end_row {h₀ h' : Heap} {L : Addr} {J : (PySem.Str → Option Value) → Ledger → Prop} {own ex rest nx : Ledger} {R : List Nat} {I : Nat} {s : Shared} {tk : Nat} {m' : PySem.Str → Option Value} (F : Fr h₀ L h' m') (N : News h₀ L h' (ex ++ rest)) (er : rest = restOf (nx ++ own) R) (hI : ∀ p ∈ nx, p.1 ≠ I) (hIo : ∃ o, (I, o) ∈ own ∧ o.cls = .type "list_iterator") (ownR : ∀ p ∈ own, p.1 ∉ R)
    (hx : ∀ p ∈ ex, p.1 ∈ R ∨ AllLt p.1 rest) (hJ : J m' (ex ++ restOf nx R)) :
    ∃ h'' tk' m'' nx'', ({ s with heap := h', toks := tk } : Shared) = { s with heap := h'', toks := tk' } ∧ Fr h₀ L h'' m'' ∧ News h₀ L h'' (own ++ nx'') ∧ (∀ p ∈ nx'', p.1 ≠ I) ∧ J m'' nx'' := by
  subst er
  have ow : ∀ p ∈ own, p ∈ restOf (nx ++ own) R := fun p hp => mem_restOf (List.mem_append_right _ hp) (ownR p hp)
  obtain ⟨o, hIo, -⟩ := hIo
  refine ⟨h', tk, m', _, rfl, F, newsSub N fun p hp => ?_, fun p hp => ?_, hJ⟩
  · rcases List.mem_append.mp hp with hp | hp
    · exact List.mem_append_right _ (ow p hp)
    · rcases List.mem_append.mp hp with hp | hp
      · exact List.mem_append_left _ hp
      · exact List.mem_append_right _ (mem_restOf (List.mem_append_left _ (restOf_sub hp)) fun hc => restOf_off _ _ p hp _ hc rfl)
  · rcases List.mem_append.mp hp with hp | hp
    · rcases hx p hp with h | h
      · exact fun e => ownR _ hIo (e ▸ h)
      · exact Nat.ne_of_gt (allLt_all h _ (ow _ hIo))
    · exact hI p (restOf_sub hp)
theorem foldl_front : ∀ (l : List PySem.Str) (c b : PySem.Str), c ++ l.foldl (· ++ ·) b = l.foldl (· ++ ·) (c ++ b)
  | [], _, _ => rfl
  | a :: r, c, b => by
    show c ++ r.foldl (· ++ ·) (b ++ a) = r.foldl (· ++ ·) (c ++ b ++ a)
    rw [foldl_front r c (b ++ a), PySem.Str.append_assoc]
theorem join_foldlS : ∀ (l : List PySem.Str) (a : PySem.Str), PySem.Str.join (PySem.Str.ofString "") (a :: l) = l.foldl (· ++ ·) a
  | [], a => rfl
  | b :: r, a => by
    show a ++ PySem.Str.ofString "" ++ PySem.Str.join (PySem.Str.ofString "") (b :: r) = r.foldl (· ++ ·) (a ++ b)
    rw [join_foldlS r b, show a ++ PySem.Str.ofString "" = a from PySem.Str.append_empty a, foldl_front]
theorem join_foldl (l : List PySem.Str) (a : PySem.Str) : Txt.join (PySem.Str.ofString "") (a :: l) = l.foldl (· ++ ·) a :=
  (PySem.StrLaws.glued_eq_join _ _).trans (join_foldlS l a)
theorem foldl_lns (ps : List (Int × PySem.Str)) : ∀ a : PySem.Str, (lns ps).foldl (· ++ ·) a = ps.foldl (fun a p => a ++ lineT p.1 p.2) a := by
  intro a
  rw [List.foldl_map]
theorem join_msg {so : PySem.Str} {ps qs : List (Int × PySem.Str)} : Txt.join (PySem.Str.ofString "") (msgT so ps :: lns qs) = msgT so (ps ++ qs) := by
  rw [join_foldl, foldl_lns, msgT, msgT, List.foldl_append]


theorem tup_rest {nx own ex : Ledger} {a : Nat} {vs : List Value} (F : Func nx) (mem : ∀ p ∈ ex, p ∈ nx) (hn : ∀ p ∈ ex, p.2.cls ≠ .type "tuple") (h : (a, tupO vs) ∈ nx) : (a, tupO vs) ∈ restOf (nx ++ own) (ex.map (·.1)) :=
  mem_restOf (List.mem_append_left _ h) fun hc => by
    obtain ⟨p, hp, e⟩ := List.mem_map.mp hc
    have := mem p hp
    rw [show p = (p.1, p.2) from rfl, e] at this
    exact hn p hp (by rw [F _ _ _ this h])
theorem fau2 {m : PySem.Str → Option Value} {f g : PySem.Str} {v u : Value} (h : m f = some v) (h2 : m g = some u) : m = fun z => if z = f then some v else if z = g then some u else m z := by
  funext z
  by_cases hz : z = f
  · simp [hz, h]
  · by_cases hy : z = g
    · subst hy
      simp [hz, h2]
    · simp [hz, hy]
theorem out5 {h₀ h : Heap} {L : Addr} {a b c d i : Addr × Obj} {own : Ledger} (N : News h₀ L h (a :: b :: c :: d :: i :: own)) : News h₀ L h (i :: a :: b :: c :: d :: own) := newsSub N fun p hp => by
  simp only [List.mem_cons] at hp ⊢
  rcases hp with hp | hp | hp | hp | hp | hp <;> simp [hp]
theorem joinOk_of {tx : List PySem.Str} (h : ∀ t ∈ tx, t.length ≤ 5000) (hn : tx.length ≤ 100) : JoinOk (PySem.Str.ofString "") tx = true := by
  unfold JoinOk
  rw [PySem.StrLaws.joinFits h (by have e : (PySem.Str.ofString "").length = 0 := by decide
                                   rw [e]
                                   have := Nat.mul_le_mul_right 5000 hn
                                   omega)]
  rfl
theorem rs_get {vs : List Value} {x i : Nat} {rs : List FT} {v : Value} (hvs : vs = .ref x :: rs.map fun f => Value.ref f.x) (hv : vs[i + 1]? = some v) : ∃ f, rs[i]? = some f ∧ v = .ref f.x := by
  subst hvs
  simp only [List.getElem?_cons_succ, List.getElem?_map] at hv
  cases hf : rs[i]? with
  | none => rw [hf] at hv; cases hv
  | some f => rw [hf] at hv; exact ⟨f, rfl, (Option.some.inj hv).symm⟩
theorem flat_next {rs : List FT} {i : Nat} {f : FT} (hf : rs[i]? = some f) : (rs.take (i + 1)).flatMap (·.ps) = (rs.take i).flatMap (·.ps) ++ f.ps := by
  rw [List.take_add_one, hf]
  simp
theorem flat_len (rs : List FT) (i : Nat) : ((rs.take i).flatMap (·.ps)).length + ((rs.drop i).map fun f => f.ps.length).sum = (rs.map fun f => f.ps.length).sum := by
  conv => rhs; rw [← List.take_append_drop i rs]
  simp only [List.length_flatMap, List.map_append, List.sum_append]
theorem name_head {P : Prop} {h₀ h : Heap} {L : Addr} {a : Nat} {o : Obj} {l : Ledger} (_N : News h₀ L h ((a, o) :: l)) (k : ∀ b : Nat, b = a → P) : P := k a rfl
theorem flat_ok {rs : List FT} (hok : ∀ f ∈ rs, ∀ p ∈ f.ps, OkPair p) : ∀ p ∈ rs.flatMap (·.ps), OkPair p := fun p hp => by
  obtain ⟨f, hf, h⟩ := List.mem_flatMap.mp hp
  exact hok f hf p h
theorem join_ok {ms : PySem.Str} {ps : List (Int × PySem.Str)} (h : ms.length ≤ 5000) (hok : ∀ p ∈ ps, OkPair p) (hn : ps.length ≤ 63) : JoinOk (PySem.Str.ofString "") (ms :: lns ps) = true := joinOk_of (fun t ht => by
  rcases List.mem_cons.mp ht with rfl | ht
  · exact h
  · obtain ⟨p, hp, rfl⟩ := List.mem_map.mp ht
    exact Nat.le_trans (lineT_len (hok p hp)) (by decide)) (by simp only [List.length_cons, List.length_map]; omega)
theorem flat_all (rs : List FT) : (rs.flatMap (·.ps)).length = (rs.map fun f => f.ps.length).sum := by
  simp only [List.length_flatMap]
theorem off_own {own : Ledger} {x d e It M : Nat} (O : OwnOff own [x, d, e, It]) (m5 : AllLt M own) : OwnOff own [x, d, e, M] := fun p hp b hb => by
  simp only [List.mem_cons, List.not_mem_nil, or_false] at hb
  rcases hb with rfl | rfl | rfl | rfl
  · exact O p hp _ (by simp)
  · exact O p hp _ (by simp)
  · exact O p hp _ (by simp)
  · exact Nat.ne_of_lt (allLt_all m5 p hp)
theorem off_head {rest : Ledger} {x d e M : Nat} {o : Obj} (h : OwnOff rest [x, d, e, M]) (h1 : @Ne Nat x M) (h2 : @Ne Nat d M) (h3 : @Ne Nat e M) : OwnOff ((M, o) :: rest) [x, d, e] := fun p hp b hb => by
  simp only [List.mem_cons, List.not_mem_nil, or_false] at hb
  rcases List.mem_cons.mp hp with rfl | hp
  · rcases hb with rfl | rfl | rfl
    · exact Ne.symm h1
    · exact Ne.symm h2
    · exact Ne.symm h3
  · exact h p hp b (by rcases hb with rfl | rfl | rfl <;> simp)
end Mine
end
section
open Lean PySem PySem.W PyProof.Rows PySem.Calls PySem.Spec PySem.Builtin PyProof.Rows.LCg
set_option Elab.async false
set_option maxRecDepth 100000
set_option maxHeartbeats 4000000
namespace Mine
/-- [y for x in iter for y in x] -/
noncomputable abbrev flatE (x y : PySem.Str) (px px2 py py2 : Pos) (iter : PySem.Expr) (scope : Scope) (pos : Pos) : PySem.Expr := .ListComp (.Name y py) [⟨.Name x px, iter, [], 0⟩, ⟨.Name y py2, .Name x px2, [], 0⟩] scope pos
theorem turn_in (x y : PySem.Str) (px px2 py py2 : Pos) (iter : PySem.Expr) (scope : Scope) (pos : Pos) (it acc : Value) (env : Env) :
    compTurn (flatE x y px px2 py py2 iter scope pos) 1 it acc env = (standAt px2 >>= fun _ => pyNext it >>= fun r => match r with
      | none => pure (.done .next)
      | some v => letOwnedTupleGo (.Name y py2) it v >>= fun _ => assign (.Name y py2) env v >>= fun _ =>
        (eval (.Name y py) env >>= fun z => call (.builtin "list.append") [acc, z] >>= fun _ => pure ()) >>= fun _ =>
          again (.compLoop (flatE x y px px2 py py2 iter scope pos) 1 it acc env)) := by rfl
theorem turn_out (x y : PySem.Str) (px px2 py py2 : Pos) (iter : PySem.Expr) (scope : Scope) (pos : Pos) (it acc : Value) (env : Env) :
    compTurn (flatE x y px px2 py py2 iter scope pos) 0 it acc env = (standAt iter.pos >>= fun _ => pyNext it >>= fun r => match r with
      | none => pure (.done .next)
      | some v => letOwnedTupleGo (.Name x px) it v >>= fun _ => assign (.Name x px) env v >>= fun _ =>
        (eval (.Name x px2) env >>= fun z => standAt px2 >>= fun _ => foldedSetIterable (.Name x px2) env z >>= fun z => holding [z] (pyIter z) >>= fun it2 =>
          runOwn (.compStart (flatE x y px px2 py py2 iter scope pos) 1 it2 acc env) env >>= fun _ => again (.compLoop (flatE x y px px2 py py2 iter scope pos) 0 it acc env))) := by rfl
section
variable {prog : Program} {w : World} {A : Around} {s : Shared} {env : Env} {h₀ : Heap} {L : Nat} {m : PySem.Str → Option Value} {x y : PySem.Str} {px px2 py py2 : Pos} {iter : PySem.Expr} {scope : Scope} {pos : Pos} {cl : List (PySem.Str × Addr)} {R : Result → Shared → Prop}
theorem start_in {it acc : Value} {cenv : Env}
    (h0 : codeAny (model prog w) A (.compLoop (flatE x y px px2 py py2 iter scope pos) 1 it acc cenv) R s)
    (h : wpAny (model prog w) A (pyIter it) (fun it' s' => codeAny (model prog w) A (.compLoop (flatE x y px px2 py py2 iter scope pos) 1 it' acc cenv) R s') (notedBy (model prog w) A cenv fun x s' => R (.error x) s') s) :
    codeAny (model prog w) A (.compStart (flatE x y px px2 py py2 iter scope pos) 1 it acc cenv) R s := by
  refine codeAny_of_tree ?_
  show wpAny _ _ ((compStart (flatE x y px px2 py py2 iter scope pos) 1 it acc cenv).onRaise (fun x => do noteFrame x cenv; standAt theWindowsPlace)) _ _ s
  refine wpAny_notedAt ?_
  unfold compStart
  show wpAny _ _ (ask >>= _) _ _ s
  refine wpAny_bind (wpAny_askSetting (wpAny_ite ?_))
  split
  · first
      | exact wpAny_bind (wpAny_pure (wpAny_pure (And.intro rfl h0)))
      | exact wpAny_pure (And.intro rfl h0)
  · first
      | exact wpAny_bind (wpAny_rule (wpAny_bind (wpAny_standAt (wpAny_bind (wpAny_mono h (fun it' s' h' => wpAny_pure (And.intro rfl h')) fun _ _ x => x)))))
      | (refine wpAny_bind (wpAny_rule ?_); show wpAny _ _ (standAt _ >>= _) _ _ s; exact wpAny_bind (wpAny_standAt (wpAny_bind (wpAny_mono h (fun it' s' h' => wpAny_pure (And.intro rfl h')) fun _ _ x => x))))
/-- what a heap in the comprehension holds -/
structure CompH (h₀ : Heap) (L : Nat) (m : PySem.Str → Option Value) (C D : Nat) (news : List (Addr × Obj)) (K : Heap → Prop) (ys : List Value) (h : Heap) : Prop where
  F : Fr h₀ L h m
  N : News h₀ L h ((D, lst ys) :: news)
  ns : ∃ m', h.Ns C m'
  k : K h
/-- the addresses of the comprehension's own -/
structure CompA (h₀ : Heap) (L C D : Nat) (news : List (Addr × Obj)) : Prop where
  CD : @Ne Nat C D
  CL : @Ne Nat C L
  DL : @Ne Nat D L
  C0 : h₀.get? C = none
  D0 : h₀.get? D = none
  off : ∀ p ∈ news, p.1 ≠ C ∧ p.1 ≠ D
theorem CompH.at {C D : Nat} {news : List (Addr × Obj)} {K : Heap → Prop} {ys : List Value} {h h' : Heap} {I : Nat} (H : CompH h₀ L m C D news K ys h) (hk : ∀ b o, b ≠ I → h.get? b = some o → h'.get? b = some o) (h1 : @Ne Nat I L) (h2 : h₀.get? I = none) (h3 : @Ne Nat I C) (h4 : @Ne Nat I D) (h5 : ∀ p ∈ news, p.1 ≠ I) (h6 : K h') : CompH h₀ L m C D news K ys h' := by
  have hk' : ∀ b o, b ∉ [I] → h.get? b = some o → h'.get? b = some o := fun b o hb e => hk b o (fun q => hb (List.mem_singleton.mpr q)) e
  refine ⟨fr_but H.F hk' h1.symm h2, news_but H.N hk' fun p hp => ?_, H.ns.imp fun m' n => n.at' fun o e => hk _ o h3.symm e, h6⟩
  rcases List.mem_cons.mp hp with rfl | hp
  · exact h4.symm
  · exact h5 p hp
theorem CompH.store {C D : Nat} {news : List (Addr × Obj)} {K : Heap → Prop} {ys : List Value} {h h' : Heap} {m' : PySem.Str → Option Value} (H : CompH h₀ L m C D news K ys h) (a : CompA h₀ L C D news) (hs : Heap.SameBut C h h') (n : h'.Ns C m') (k : K h') : CompH h₀ L m C D news K ys h' := by
  refine ⟨H.F.change hs a.CL a.C0, fun p hp => ⟨hs.extBut _ _ ?_ (H.N p hp).1, (H.N p hp).2⟩, ⟨m', n⟩, k⟩
  rcases List.mem_cons.mp hp with rfl | hp
  · exact a.CD.symm
  · exact (a.off p hp).1
theorem CompH.add {C D : Nat} {news : List (Addr × Obj)} {K : Heap → Prop} {ys : List Value} {v : Value} {h h' : Heap} (H : CompH h₀ L m C D news K ys h) (a : CompA h₀ L C D news) (hs : Heap.SameBut D h h') (hD : h'.get? D = some (lst (ys ++ [v]))) (k : K h') : CompH h₀ L m C D news K (ys ++ [v]) h' := by
  refine ⟨H.F.change hs a.DL a.D0, fun p hp => ?_, H.ns.imp fun m' n => n.sameBut hs a.CD, k⟩
  rcases List.mem_cons.mp hp with rfl | hp
  · exact ⟨hD, (H.N _ (List.mem_cons_self ..)).2⟩
  · have z := H.N p (.tail _ hp)
    exact ⟨hs.extBut _ _ (a.off p hp).2 z.1, z.2⟩
theorem flat_inner {hd : Option Value} {C D I u c : Nat} {news : List (Addr × Obj)} {K : Heap → Prop} {fp : List Nat} {ys vs : List Value} (a : CompA h₀ L C D news) (hh : A.handled = hd) (xe : Nat) (xo : Obj) (hW : hd = none ∨ (hd = some (.ref xe) ∧ (∃ fl, xo.data = .fields fl ∧ fl[2]? = some .none) ∧ (∃ c, xo.cls = .ref c) ∧ xe ≠ I))
    (hxe : hd = none ∨ (xe, xo) ∈ news) (hu : (u, W.listOf vs.toArray c) ∈ news) (hy : scope.names.lookup y = some .local) (hkind : scope.kind = .function) (hdb : (y == ("__debug__" : PySem.Str)) = false)
    (H : CompH h₀ L m C D news K ys s.heap) (hit : s.heap.IsListIter I u 0) (i1 : @Ne Nat I L) (i2 : h₀.get? I = none) (i3 : @Ne Nat I C) (i4 : @Ne Nat I D) (i5 : ∀ p ∈ news, p.1 ≠ I)
    (hK : ∀ h h', K h → (∀ b ∈ fp, ∀ o, h.get? b = some o → h'.get? b = some o) → K h') (k1 : C ∉ fp) (k2 : D ∉ fp) (k3 : I ∉ fp) (hsz : ys.length + vs.length ≤ 10000)
    (post : ∀ h' tk, CompH h₀ L m C D news K (ys ++ vs) h' → R (.ok .next) { s with heap := h', toks := tk }) :
    codeAny (model prog w) A (.compLoop (flatE x y px px2 py py2 iter scope pos) 1 (.ref I) (.ref D) (compEnvC scope cl C env)) R s := by
  have hsz' : vs.toArray.size = vs.length := by simp
  have une : u ≠ I := i5 _ hu
  have W := listH (prog := prog) (w := w) (A := A) hd hh I u une vs.toArray xe xo hW
  have st : ∀ {h : Heap} {i : Nat} {ys : List Value}, CompH h₀ L m C D news K ys h → h.IsListIter I u i → (h.IsListIter I u i ∧ h.IsList u vs.toArray ∧ (hd = none ∨ h.get? xe = some xo)) := fun H hi => ⟨hi, News.isList H.N (.tail _ hu), hxe.imp id fun z => (H.N _ (.tail _ z)).1⟩
  refine codeAny_loop rfl (fun k s' => ∃ h' tk j, s' = { s with heap := h', toks := tk } ∧ j ≤ vs.length ∧ k = vs.length + 1 - j ∧ h'.IsListIter I u j ∧ CompH h₀ L m C D news K (ys ++ vs.take j) h') (fun k s' hI => ?_) (vs.length + 1) ⟨s.heap, s.toks, 0, rfl, Nat.zero_le _, rfl, hit, by simpa using H⟩
  obtain ⟨h', tk, j, rfl, hj, rfl, hi, H'⟩ := hI
  show wpAny _ _ ((compTurn (flatE x y px px2 py py2 iter scope pos) 1 (.ref I) (.ref D) (compEnvC scope cl C env)).onRaise (fun x => do noteFrame x (compEnvC scope cl C env); theTreesLotGoes x)) _ _ _
  refine wpAny_noted ?_
  rw [turn_in]
  refine wpAny_bind (wpAny_standAt ?_)
  by_cases hlt : j < vs.length
  · refine wpAny_bind (W.item j _ _ _ (by rw [hsz']; exact hlt) (st H' hi) fun v h₂ tk₂ hPv hst₂ hk₂ => ?_)
    have hv : vs[j]? = some v := by simpa using hPv
    have H₂ : CompH h₀ L m C D news K (ys ++ vs.take j) h₂ := H'.at (fun b o hb e => hk₂ b o (fun q => hb (List.mem_singleton.mp q)) e) i1 i2 i3 i4 i5 (hK _ _ H'.k fun b hb o e => hk₂ b o (fun q => k3 (by rw [← List.mem_singleton.mp q]; exact hb)) e)
    dsimp only
    refine wpAny_bind (wpAny_of_eq (a := ()) rfl ?_)
    obtain ⟨m₂, n₂⟩ := H₂.ns
    refine wpAny_bind (wpAny_assign_Name (wpAny_storeName_local (lookup_relabel_local hy) n₂ (fun h₃ hn₃ hs₃ => ?_) (by simp [compEnvC, relabel, hkind])))
    have H₃ := H₂.store a hs₃ hn₃ (hK _ _ H₂.k fun b hb o e => hs₃.extBut b o (fun q => k1 (by have q' : b = C := q; rw [← q']; exact hb)) e)
    have hi₃ : h₃.IsListIter I u (j + 1) := hst₂.1.at fun o e => hs₃.extBut _ o i3 e
    refine wpAny_bind (wpAny_bind (ldVarK (v := v) hn₃ (by simp) ?_ (by simp [compEnvC, relabel, hkind]) (lookup_relabel_local hy) hdb))
    refine wpAny_bind ?_
    have zD := (H₃.N _ (List.mem_cons_self ..)).1
    have hl4 : (ys ++ vs.take j).length ≤ 10000 := by
      rw [List.length_append, List.length_take]
      omega
    refine append_at (hsz := by rw [List.size_toArray]; exact Nat.le_trans hl4 (by decide)) zD fun h₅ hs₅ hD₅ => ?_
    have e5 : (ys ++ vs.take j) ++ [v] = ys ++ vs.take (j + 1) := by
      rw [List.take_add_one, hv, List.append_assoc]
      rfl
    have H₅ := H₃.add a hs₅ (hD₅.trans (congrArg some (lst_snoc _ v))) (hK _ _ H₃.k fun b hb o e => hs₅.extBut b o (fun q => k2 (by have q' : b = D := q; rw [← q']; exact hb)) e)
    rw [e5] at H₅
    refine wpAny_pure (wpAny_pure ⟨rfl, vs.length + 1 - (j + 1), by omega, h₅, _, j + 1, rfl, hlt, rfl, hi₃.at fun o e => hs₅.extBut _ o i4 e, H₅⟩)
  · have hje : j = vs.length := Nat.le_antisymm hj (Nat.not_lt.mp hlt)
    subst hje
    refine wpAny_bind (W.done _ _ _ (by rw [hsz']; exact st H' hi) fun h₂ tk₂ hk₂ => ?_)
    rw [List.take_length] at H'
    have H₂ : CompH h₀ L m C D news K (ys ++ vs) h₂ := H'.at (fun b o hb e => hk₂ b o (fun q => hb (List.mem_singleton.mp q)) e) i1 i2 i3 i4 i5 (hK _ _ H'.k fun b hb o e => hk₂ b o (fun q => k3 (by rw [← List.mem_singleton.mp q]; exact hb)) e)
    exact wpAny_pure (post h₂ tk₂ H₂)
theorem CompH.up {C D : Nat} {news : List (Addr × Obj)} {K K' : Heap → Prop} {ys : List Value} {h h' : Heap} (H : CompH h₀ L m C D news K ys h) (hk : ∀ b o, h.get? b = some o → h'.get? b = some o) (k : K' h') : CompH h₀ L m C D news K' ys h' := ⟨H.F.keeps hk, H.N.grown hk, H.ns.imp fun _ n => n.at' fun o e => hk _ o e, k⟩
theorem mark_none (A : Around) : A.mark none = A := by cases A; rfl
structure FlatOf (us : List Value) (xs : List (List Value)) (news : List (Addr × Obj)) : Prop where
  len : xs.length = us.length
  each : ∀ (i : Nat) (v : Value), us[i]? = some v → ∃ (u c : Nat) (zs : List Value), v = .ref u ∧ xs[i]? = some zs ∧ (u, W.listOf zs.toArray c) ∈ news
  size : xs.flatten.length ≤ 10000
theorem flat_take {xs : List (List Value)} {i : Nat} {zs : List Value} (h : xs[i]? = some zs) : (xs.take (i + 1)).flatten = (xs.take i).flatten ++ zs := by
  rw [List.take_add_one, h]
  simp
theorem flat_le {xs : List (List Value)} {i : Nat} : (xs.take i).flatten.length ≤ xs.flatten.length := by
  conv => rhs; rw [← List.take_append_drop i xs]
  rw [List.flatten_append, List.length_append]
  omega
theorem flat_outer {hd : Option Value} {C D I Ta tn : Nat} {news : List (Addr × Obj)} {us : List Value} {xs : List (List Value)} (a : CompA h₀ L C D news) (hh : A.handled = hd) (hC : CalmIn hd news)
    (hT : (Ta, W.listOf us.toArray tn) ∈ news) (X : FlatOf us xs news) (hx : scope.names.lookup x = some .local) (hy : scope.names.lookup y = some .local) (hkind : scope.kind = .function) (hdx : (x == ("__debug__" : PySem.Str)) = false) (hdb : (y == ("__debug__" : PySem.Str)) = false)
    (H : CompH h₀ L m C D news (fun _ => True) [] s.heap) (hit : s.heap.IsListIter I Ta 0) (i1 : @Ne Nat I L) (i2 : h₀.get? I = none) (i3 : @Ne Nat I C) (i4 : @Ne Nat I D) (i5 : ∀ p ∈ news, p.1 ≠ I)
    (post : ∀ h' tk, CompH h₀ L m C D news (fun _ => True) xs.flatten h' → R (.ok .next) { s with heap := h', toks := tk }) :
    codeAny (model prog w) A (.compLoop (flatE x y px px2 py py2 iter scope pos) 0 (.ref I) (.ref D) (compEnvC scope cl C env)) R s := by
  have hsz' : us.toArray.size = us.length := by simp
  have une : Ta ≠ I := i5 _ hT
  have hcalm : ∃ xe xo, (hd = none ∨ (hd = some (.ref xe) ∧ (∃ fl, xo.data = .fields fl ∧ fl[2]? = some .none) ∧ (∃ c, xo.cls = .ref c))) ∧ (hd = none ∨ (xe, xo) ∈ news) := by
    rcases hC with c | ⟨xe, d, fl, c1, c2, c3⟩
    · exact ⟨0, default, .inl c, .inl c⟩
    · exact ⟨xe, _, .inr ⟨c1, ⟨fl, rfl, c3⟩, ⟨_, rfl⟩⟩, .inr c2⟩
  obtain ⟨xe, xo, hW, hxe⟩ := hcalm
  have hWn : ∀ J : Nat, (∀ p ∈ news, p.1 ≠ J) → (hd = none ∨ (hd = some (.ref xe) ∧ (∃ fl, xo.data = .fields fl ∧ fl[2]? = some .none) ∧ (∃ c, xo.cls = .ref c) ∧ xe ≠ J)) := fun J hJ => by
    rcases hxe with z | z
    · exact .inl z
    · exact hW.imp id fun q => ⟨q.1, q.2.1, q.2.2, hJ _ z⟩
  have W := listH (prog := prog) (w := w) (A := A) hd hh I Ta une us.toArray xe xo (hWn I i5)
  have st : ∀ {h : Heap} {i : Nat} {ys : List Value}, CompH h₀ L m C D news (fun _ => True) ys h → h.IsListIter I Ta i → (h.IsListIter I Ta i ∧ h.IsList Ta us.toArray ∧ (hd = none ∨ h.get? xe = some xo)) := fun H hi => ⟨hi, News.isList H.N (.tail _ hT), hxe.imp id fun z => (H.N _ (.tail _ z)).1⟩
  refine codeAny_loop rfl (fun k s' => ∃ h' tk i, s' = { s with heap := h', toks := tk } ∧ i ≤ us.length ∧ k = us.length + 1 - i ∧ h'.IsListIter I Ta i ∧ CompH h₀ L m C D news (fun _ => True) ((xs.take i).flatten) h') (fun k s' hI => ?_) (us.length + 1) ⟨s.heap, s.toks, 0, rfl, Nat.zero_le _, rfl, hit, by simpa using H⟩
  obtain ⟨h', tk, i, rfl, hi, rfl, hi', H'⟩ := hI
  show wpAny _ _ ((compTurn (flatE x y px px2 py py2 iter scope pos) 0 (.ref I) (.ref D) (compEnvC scope cl C env)).onRaise (fun x => do noteFrame x (compEnvC scope cl C env); theTreesLotGoes x)) _ _ _
  refine wpAny_noted ?_
  rw [turn_out]
  refine wpAny_bind (wpAny_standAt ?_)
  by_cases hlt : i < us.length
  · refine wpAny_bind (W.item i _ _ _ (by rw [hsz']; exact hlt) (st H' hi') fun v h₂ tk₂ hPv hst₂ hk₂ => ?_)
    have hv : us[i]? = some v := by simpa using hPv
    obtain ⟨u, c, zs, rfl, hzs, hu⟩ := X.each i v hv
    have H₂ : CompH h₀ L m C D news (fun _ => True) ((xs.take i).flatten) h₂ := H'.at (fun b o hb e => hk₂ b o (fun q => hb (List.mem_singleton.mp q)) e) i1 i2 i3 i4 i5 trivial
    dsimp only
    refine wpAny_bind (wpAny_of_eq (a := ()) rfl ?_)
    obtain ⟨m₂, n₂⟩ := H₂.ns
    refine wpAny_bind (wpAny_assign_Name (wpAny_storeName_local (lookup_relabel_local hx) n₂ (fun h₃ hn₃ hs₃ => ?_) (by simp [compEnvC, relabel, hkind])))
    have H₃ := H₂.store a hs₃ hn₃ trivial
    have hi₃ : h₃.IsListIter I Ta (i + 1) := hst₂.1.at fun o e => hs₃.extBut _ o i3 e
    refine wpAny_bind (ldVarK (v := .ref u) hn₃ (if_pos rfl) ?_ (by simp [compEnvC, relabel, hkind]) (lookup_relabel_local hx) hdx)
    refine wpAny_bind (wpAny_standAt (wpAny_bind (wpAny_of_eq (a := Value.ref u) rfl (wpAny_bind (wpAny_holding (wpAny_pyIter_list (News.isList H₃.N (.tail _ hu)) ?_))))))
    have up : ∀ b o, h₃.get? b = some o → (h₃.push { cls := .type "list_iterator", data := .fields #[.ref u, .int 0 0] }).get? b = some o := fun b o e => Heap.get?_push_of_some _ e
    have H₄ : CompH h₀ L m C D news (fun h => h.IsListIter I Ta (i + 1)) ((xs.take i).flatten) (h₃.push { cls := .type "list_iterator", data := .fields #[.ref u, .int 0 0] }) := H₃.up up (hi₃.at fun o e => up _ o e)
    have hitn : (h₃.push { cls := .type "list_iterator", data := .fields #[.ref u, .int 0 0] }).IsListIter h₃.objs.size u 0 := ⟨_, Heap.get?_push_size _ rfl, rfl, rfl⟩
    have j1 : @Ne Nat h₃.objs.size L := Nat.ne_of_gt H₃.F.ns.lt
    have j2 : h₀.get? h₃.objs.size = none := next_is_new H₃.F
    have j3 : @Ne Nat h₃.objs.size C := Nat.ne_of_gt (by obtain ⟨m', n⟩ := H₃.ns; exact n.lt)
    have j4 : @Ne Nat h₃.objs.size D := Nat.ne_of_gt (Heap.lt_size (H₃.N _ (List.mem_cons_self ..)).1)
    have j5 : ∀ p ∈ news, p.1 ≠ h₃.objs.size := fun p hp => Nat.ne_of_lt (Heap.lt_size (H₃.N p (.tail _ hp)).1)
    have j6 : @Ne Nat h₃.objs.size I := Nat.ne_of_gt (by obtain ⟨o, e, _⟩ := hi₃; exact Heap.lt_size e)
    have hlz : ((xs.take i).flatten).length + zs.length ≤ 10000 := by
      have z := flat_take hzs
      have z2 := flat_le (xs := xs) (i := i + 1)
      rw [z, List.length_append] at z2
      exact Nat.le_trans z2 X.size
    refine wpAny_bind (wpAny_runOwn ?_)
    rw [mark_none]
    have inner : ∀ s₄ : Shared, s₄ = { s with heap := h₃.push { cls := .type "list_iterator", data := .fields #[.ref u, .int 0 0] }, toks := s₄.toks } → codeAny (model prog w) A (.compLoop (flatE x y px px2 py py2 iter scope pos) 1 (.ref h₃.objs.size) (.ref D) (compEnvC scope cl C env))
        (fun r s' => match r with
          | .ok f => wpAny (model prog w) A (again (.compLoop (flatE x y px px2 py py2 iter scope pos) 0 (.ref I) (.ref D) (compEnvC scope cl C env))) (fun fin s' => match fin with | .done f => R (.ok f) s' | .again c' => c' = (.compLoop (flatE x y px px2 py py2 iter scope pos) 0 (.ref I) (.ref D) (compEnvC scope cl C env)) ∧ ∃ k, k < us.length + 1 - i ∧ ∃ h' tk i, s' = { s with heap := h', toks := tk } ∧ i ≤ us.length ∧ k = us.length + 1 - i ∧ h'.IsListIter I Ta i ∧ CompH h₀ L m C D news (fun _ => True) ((xs.take i).flatten) h') (notedBy (model prog w) A (compEnvC scope cl C env) fun e s' => R (.error e) s') s'
          | .error e => cameBackBy (model prog w) A (compEnvC scope cl C env) (notedBy (model prog w) A (compEnvC scope cl C env) fun e s' => R (.error e) s') e s') s₄ := fun s₄ e4 => by
      rw [e4]
      refine flat_inner a hh xe xo (hWn _ j5) hxe hu hy hkind hdb H₄ hitn j1 j2 j3 j4 j5 (fp := [I]) (fun h h' k hk => k.at fun o e => hk I (by simp) o e) (fun q => i3 (List.mem_singleton.mp q).symm) (fun q => i4 (List.mem_singleton.mp q).symm) (fun q => j6 (List.mem_singleton.mp q)) hlz fun h₆ tk₆ H₆ => ?_
      rw [← flat_take hzs] at H₆
      exact wpAny_pure ⟨rfl, us.length + 1 - (i + 1), by omega, h₆, tk₆, i + 1, rfl, hlt, rfl, H₆.k, ⟨H₆.F, H₆.N, H₆.ns, trivial⟩⟩
    exact start_in (inner _ rfl) (wpAny_pyIter_listiter hitn (inner _ rfl))
  · have hie : i = us.length := Nat.le_antisymm hi (Nat.not_lt.mp hlt)
    subst hie
    refine wpAny_bind (W.done _ _ _ (by rw [hsz']; exact st H' hi') fun h₂ tk₂ hk₂ => ?_)
    rw [← X.len, List.take_length] at H'
    exact wpAny_pure (post h₂ tk₂ (H'.at (fun b o hb e => hk₂ b o (fun q => hb (List.mem_singleton.mp q)) e) i1 i2 i3 i4 i5 trivial))
theorem flat_block {E : Value → Shared → Prop} {hd : Option Value} {I Ta tn : Nat} {news : List (Addr × Obj)} {us : List Value} {xs : List (List Value)} {RR : Value → Addr → Result → Shared → Prop} (hh : A.handled = hd) (hC : CalmIn hd news)
    (hT : (Ta, W.listOf us.toArray tn) ∈ news) (X : FlatOf us xs news) (hcell : ∀ y ∈ scope.names, y.2 ≠ .cell) (hx : scope.names.lookup x = some .local) (hy : scope.names.lookup y = some .local) (hkind : scope.kind = .function) (hdx : (x == ("__debug__" : PySem.Str)) = false) (hdb : (y == ("__debug__" : PySem.Str)) = false)
    (F : Fr h₀ L s.heap m) (N : News h₀ L s.heap news) (hit : s.heap.IsListIter I Ta 0) (i1 : @Ne Nat I L) (i2 : h₀.get? I = none) (i5 : ∀ p ∈ news, p.1 ≠ I)
    (hRR : ∀ (D C : Nat) h tk, CompA h₀ L C D news → CompH h₀ L m C D news (fun _ => True) xs.flatten h → RR (.ref D) C (.ok .next) { s with heap := h, toks := tk }) :
    wpAny (model prog w) A (newList []) (fun acc s₃ => wpAny (model prog w) A (newFunctionEnv scope env.globals cl [] env.qual none .none (some env)) (fun cenv s₄ =>
      codeAny (model prog w) A (.compStart (flatE x y px px2 py py2 iter scope pos) 0 (.ref I) acc { cenv with scope := relabel scope env }) (RR acc cenv.locals) s₄) E s₃) E s := by
  refine wpAny_newObj_type (wpAny_newFunctionEnv hcell (by intro y hy; simp at hy) (fun h₁ hns₁ hsb₁ => ?_) hkind)
  dsimp only at hns₁ hsb₁ ⊢
  generalize hH2 : s.heap.push { cls := .type "list", dict := none, data := .seq ([] : List Value).toArray } = H2 at hns₁ hsb₁ ⊢
  have hC2 : H2.objs.size = s.heap.objs.size + 1 := by rw [← hH2, Heap.size_push]
  have hDC : s.heap.objs.size ≠ H2.objs.size := by rw [hC2]; exact Nat.ne_of_lt (Nat.lt_succ_self _)
  have below : ∀ b, b < s.heap.objs.size → b ≠ H2.objs.size ∧ b ≠ s.heap.objs.size := fun b hb => ⟨by rw [hC2]; exact Nat.ne_of_lt (Nat.lt_succ_of_lt hb), Nat.ne_of_lt hb⟩
  have old : ∀ b o, s.heap.get? b = some o → h₁.get? b = some o := fun b o e => hsb₁.extBut b o (below b (Heap.lt_size e)).1 (Heap.get?_push_of_some _ (hH2 ▸ Heap.get?_push_of_some _ e))
  have hacc : h₁.get? s.heap.objs.size = some (lst []) := hsb₁.extBut _ _ hDC (Heap.get?_push_of_some _ (hH2 ▸ Heap.get?_push_size _ rfl))
  have fresh₀ : ∀ b, s.heap.objs.size ≤ b → h₀.get? b = none := fun b hb => by
    cases e : h₀.get? b with
    | none => rfl
    | some o' => exact absurd (Heap.lt_size (F.keep b o' e)) (Nat.not_lt.mpr hb)
  have hD₀ : h₀.get? s.heap.objs.size = none := fresh₀ _ (Nat.le_refl _)
  have hC₀ : h₀.get? H2.objs.size = none := fresh₀ _ (by rw [hC2]; exact Nat.le_succ _)
  have hLlt : L < s.heap.objs.size := F.ns.lt
  have hDL : s.heap.objs.size ≠ L := Ne.symm (below L hLlt).2
  have hIlt : I < s.heap.objs.size := by obtain ⟨o, e, _⟩ := hit; exact Heap.lt_size e
  have a : CompA h₀ L H2.objs.size s.heap.objs.size news := ⟨hDC.symm, Ne.symm (below L hLlt).1, hDL, hC₀, hD₀, fun p hp => below _ (Heap.lt_size (N p hp).1)⟩
  have H : CompH h₀ L m H2.objs.size s.heap.objs.size news (fun _ => True) [] h₁ := ⟨F.keeps old, fun p hp => by
    rcases List.mem_cons.mp hp with rfl | hp
    · exact ⟨hacc, hDL, hD₀⟩
    · exact ⟨old _ _ (N p hp).1, (N p hp).2⟩, ⟨_, hns₁⟩, trivial⟩
  have hit₁ : h₁.IsListIter I Ta 0 := hit.at fun o e => old _ _ e
  have loop : ∀ s₃ : Shared, s₃ = { s with heap := h₁, toks := s.toks + ([] : List (PySem.Str × Value)).length } →
      codeAny (model prog w) A (.compLoop (flatE x y px px2 py py2 iter scope pos) 0 (.ref I) (.ref s.heap.objs.size) (compEnvC scope cl H2.objs.size env))
        (RR (.ref s.heap.objs.size) H2.objs.size) s₃ := by
    rintro s₃ rfl
    exact flat_outer a hh hC hT X hx hy hkind hdx hdb H hit₁ i1 i2 (below I hIlt).1 (below I hIlt).2 i5 fun h' tk H' => hRR _ _ h' tk a H'
  exact codeAny_compStart_list (loop _ rfl) (wpAny_pyIter_listiter hit₁ (loop _ rfl))
inductive SrcF (hd : Option Value) (h₀ : Heap) (L : Nat) (m : PySem.Str → Option Value) (Q : Value → Shared → Prop) (xv : Value) (s₁ : Shared) : Prop
  | mk (Ta tn : Nat) (us : List Value) (xs : List (List Value)) (news : List (Addr × Obj)) (e : xv = .ref Ta) (F : Fr h₀ L s₁.heap m) (N : News h₀ L s₁.heap news) (hm : (Ta, W.listOf us.toArray tn) ∈ news) (C : CalmIn hd news) (fl : FlatOf us xs news)
    (fin : ∀ (D : Nat) h tk, Fr h₀ L h m → News h₀ L h ((D, lst xs.flatten) :: news) → (∀ p ∈ news, p.1 ≠ D) → Q (.ref D) { s₁ with heap := h, toks := tk }) : SrcF hd h₀ L m Q xv s₁
theorem ListComp_F {E : Value → Shared → Prop} {hd : Option Value} {Q : Value → Shared → Prop} (_F₀ : Fr h₀ L s.heap m) (hh : A.handled = hd)
    (hclos : closureFor scope env = pure cl) (hcell : ∀ y ∈ scope.names, y.2 ≠ .cell) (hkind : scope.kind = .function)
    (hnames : ∀ y ∈ scope.names, y.2 = .local → scope.names.lookup y.1 = some .local) (hx : scope.names.lookup x = some .local) (hy : scope.names.lookup y = some .local) (hdx : (x == ("__debug__" : PySem.Str)) = false) (hdb : (y == ("__debug__" : PySem.Str)) = false)
    (h : wpAny (model prog w) A (eval iter env) (SrcF hd h₀ L m Q) E s)
    (hs : ∀ x, foldedSetIterable iter env x = pure x := by intro _; rfl) :
    wpAny (model prog w) A (eval (flatE x y px px2 py py2 iter scope pos) env) Q E s := by
  rw [eval_ListComp]
  refine wpAny_comprehension_free (use := none) rfl hs hclos hkind hnames (wpAny_mono h (fun xv s₁ h₁ => ?_) fun _ _ e => e)
  obtain ⟨Ta, tn, us, xs, news, rfl, F, N, hT, hC, X, fin⟩ := h₁
  have hl : s₁.heap.IsList Ta us.toArray := News.isList N hT
  refine wpAny_pyIter_list hl ?_
  have up : ∀ b o, s₁.heap.get? b = some o → (s₁.heap.push { cls := .type "list_iterator", data := .fields #[.ref Ta, .int 0 0] }).get? b = some o := fun b o e => Heap.get?_push_of_some _ e
  refine flat_block hh hC hT X hcell hx hy hkind hdx hdb (F.keeps up) (N.grown up) ⟨_, Heap.get?_push_size _ rfl, rfl, rfl⟩ (Nat.ne_of_gt F.ns.lt) (next_is_new F) (fun p hp => Nat.ne_of_lt (Heap.lt_size (N p hp).1)) fun D C h tk a H => ?_
  obtain ⟨m', n⟩ := H.ns
  refine ⟨m', n, fun h'' hs'' => fin D h'' tk (H.F.change hs'' a.CL a.C0) (fun p hp => ⟨hs''.extBut _ _ ?_ (H.N p hp).1, (H.N p hp).2⟩) fun p hp => (a.off p hp).2⟩
  rcases List.mem_cons.mp hp with rfl | hp
  · exact a.CD.symm
  · exact (a.off p hp).1
end
end Mine
end
section
open Lean PySem PySem.W PyProof.Rows PySem.Calls PySem.Spec PyProof.Rows.LCg
set_option Elab.async false
set_option maxRecDepth 100000
set_option maxHeartbeats 4000000
namespace Mine
theorem range_ok {n : Nat} (h : n ≤ 63) : Builtin.Range.small 0 (n : Int) 1 = true ∧ Builtin.Range.rangeSize 0 (n : Int) 1 = ((n : Nat) : Int) := by
  have : ∀ n : Nat, n < 64 → Builtin.Range.small 0 (n : Int) 1 = true ∧ Builtin.Range.rangeSize 0 (n : Int) 1 = ((n : Nat) : Int) := by decide +kernel
  exact this n (by omega)
theorem mem_sum_le : ∀ {l : List Nat} {a : Nat}, a ∈ l → a ≤ l.sum
  | b :: r, a, h => by
    rw [List.sum_cons]
    rcases List.mem_cons.mp h with rfl | h
    · omega
    · have := mem_sum_le h
      omega
theorem sum_le_of {fs : List FT} {n : Nat} (h : (fs.map fun f => f.ps.length).sum ≤ n) : ∀ f ∈ fs, f.ps.length ≤ n := fun f hf => by
  have : f.ps.length ≤ (fs.map fun f => f.ps.length).sum := mem_sum_le (List.mem_map_of_mem (f := fun f : FT => f.ps.length) hf)
  omega
theorem views_ok {fs : List FT} (hok : ∀ f ∈ fs, ∀ p ∈ f.ps, OkPair p) (hfile : ∀ k f, fs[k]? = some f → f.so = fileT k) (hn : fs.length ≤ 63) : ∀ x ∈ fs.map (fun f => viewD f.so f.ps), kqdOk 8 x = true := fun x hx => by
  obtain ⟨f, hf, rfl⟩ := List.mem_map.mp hx
  obtain ⟨k, hk, e⟩ := List.mem_iff_getElem.mp hf
  have hs := hfile k f (by rw [List.getElem?_eq_getElem hk, e])
  rw [hs]
  exact viewD_ok (hok f hf) (fileT_le (by omega)).2.2 (fileR_ok (by omega))
theorem name_two {P : Prop} {h₀ h : Heap} {L : Addr} {a b : Nat} {o o' : Obj} {l : Ledger} (_N : News h₀ L h ((a, o) :: (b, o') :: l)) (k : ∀ a' b' : Nat, a' = a → b' = b → P) : P := k a b rfl rfl
theorem news2 {h₀ h : Heap} {L : Addr} {l : List (Addr × Obj)} {a b : Addr × Obj} (N : News h₀ L h l) (h1 : a ∈ l) (h2 : b ∈ l) : News h₀ L h (a :: b :: l) := newsSub N (List.forall_mem_cons.mpr ⟨h1, List.forall_mem_cons.mpr ⟨h2, fun _ hp => hp⟩⟩)
end Mine
end
section
open PySem PySem.W PyProof.Rows PySem.Calls PySem.Spec PyProof.Rows.LCg
set_option Elab.async false
set_option maxRecDepth 100000
set_option maxHeartbeats 4000000
namespace Mine
/-- what is left when the first fault is taken out -/
structure Rest1 (P : Params) (L Fa Ta : Nat) (oc : Obj) (f0 : FT) (rs : List FT) (rest : Ledger) : Prop where
  tup : ∃ ts', (f0.t, tupO [.str f0.so ts']) ∈ rest
  fa : ∃ fn, (Fa, W.listOf (List.toArray (Value.ref f0.x :: rs.map fun f => Value.ref f.x)) fn) ∈ rest
  ta : ∃ tn, (Ta, W.listOf (List.toArray (Value.ref f0.u :: rs.map fun f => Value.ref f.u)) tn) ∈ rest
  cell : (L + 1, oc) ∈ rest
  faults : ∀ g ∈ rs, FaultIn P rest g
  told : ∀ g ∈ f0 :: rs, ToldIn rest g
inductive Split1 (P : Params) (nw : Ledger) (L Fa Ta : Nat) (oc : Obj) (f0 : FT) (rs : List FT) : Prop
  | mk (k1 k2 k3 tm ts en : Nat) (ev : List Value) (q1 : (f0.x, excF f0.d (exFl f0.t)) ∈ nw) (q2 : (f0.d, fdict P k1 k2 k3 (msgT f0.so f0.ps) f0.so tm ts f0.e) ∈ nw) (q3 : (f0.e, W.listOf (List.toArray ev) en) ∈ nw) (q4 : PairsIn (restOf nw [f0.x, f0.d, f0.e]) ev f0.ps)
      (n1 : @Ne Nat f0.x f0.d) (n2 : @Ne Nat f0.x f0.e) (n3 : @Ne Nat f0.d f0.e) (R1 : Rest1 P L Fa Ta oc f0 rs (restOf nw [f0.x, f0.d, f0.e])) : Split1 P nw L Fa Ta oc f0 rs
theorem split_first {P : Params} {nx nw : Ledger} {L Fa Ta c : Nat} {f0 : FT} {rs : List FT} {oc : Obj} (S : St P nx Fa Ta c (f0 :: rs)) (up : ∀ p ∈ nx, p ∈ nw) (F : Func nw) (hcell : (L + 1, oc) ∈ nx) (hoc : oc.data = cellV Ta) :
    Split1 P nw L Fa Ta oc f0 rs := by
  have Fx : Func nx := fun a o o' h1 h2 => F a o o' (up _ h1) (up _ h2)
  have hraw := S.raw f0 (by simp)
  obtain ⟨fl, k1, k2, k3, tm, ts, ts', en, ev, h0, h1, h2, h3, h4, h5⟩ := S.fault f0 (by simp)
  obtain ⟨fn, hF⟩ := S.fa
  obtain ⟨tn, hT⟩ := S.ta
  have nod := S.nod
  simp only [List.map_cons, List.cons_append] at nod
  have nF := (List.nodup_cons.mp nod).1
  have nT := (List.nodup_cons.mp (List.nodup_cons.mp nod).2).1
  have nE := (List.nodup_cons.mp (List.nodup_cons.mp (List.nodup_cons.mp nod).2).2).1
  simp only [List.mem_cons, List.mem_append, not_or] at nF nT nE
  have keep : ∀ (a : Nat) (o : Obj), (a, o) ∈ nx → o ≠ excF f0.d (exFl f0.t) → o ≠ fdict P k1 k2 k3 (msgT f0.so f0.ps) f0.so tm ts f0.e → (@Ne Nat a f0.e) → (a, o) ∈ restOf nw [f0.x, f0.d, f0.e] := fun a o h q1 q2 q3 => mem_restOf (up _ h) fun hc => by
    simp only [List.mem_cons, List.not_mem_nil, or_false] at hc
    rcases hc with z | z | z
    · exact Fx.ne h hraw q1 z
    · exact Fx.ne h h2 q2 z
    · exact q3 z
  have keepT : ∀ (a : Nat) (vs : List Value), (a, tupO vs) ∈ nx → (a, tupO vs) ∈ restOf nw [f0.x, f0.d, f0.e] := fun a vs h => keep a _ h (by simp) (by simp) (Fx.ne h h4 (by simp))
  have keepL : ∀ (a : Nat) (xs : Array Value) (n : Nat), (a, W.listOf xs n) ∈ nx → (@Ne Nat a f0.e) → (a, W.listOf xs n) ∈ restOf nw [f0.x, f0.d, f0.e] := fun a xs n h q => keep a _ h (by simp) (by simp) q
  refine ⟨k1, k2, k3, tm, ts, en, ev, up _ hraw, up _ h2, up _ h4, h5.mono keepT, Fx.ne hraw h2 (by simp), Fx.ne hraw h4 (by simp), Fx.ne h2 h4 (by simp), ⟨⟨ts', keepT _ _ h3⟩, ⟨fn, keepL _ _ _ hF (fun z => nF.2.1 z)⟩, ⟨tn, keepL _ _ _ hT (fun z => nT.1 z)⟩, ?_, fun g hg => ?_, fun g hg => ?_⟩⟩
  · refine keep _ _ hcell (fun z => ?_) (fun z => ?_) (Fx.ne hcell h4 fun z => ?_)
    · rw [z] at hoc; cases hoc
    · rw [z] at hoc; cases hoc
    · rw [z] at hoc; cases hoc
  · have gF := S.fault g (List.mem_cons_of_mem _ hg)
    have gR := S.raw g (List.mem_cons_of_mem _ hg)
    have ge : g.e ≠ f0.e := fun z => nE.1 (z ▸ List.mem_map_of_mem (f := (·.e)) hg)
    have gd : g.d ≠ f0.d := fun z => ge (fault_inj Fx gF (S.fault f0 (by simp)) z)
    obtain ⟨fl', g1, g2, g3, gm, gs, gs', gn, gv, q0, q1, q2, q3, q4, q5⟩ := gF
    have ed : excF g.d fl' ≠ excF f0.d (exFl f0.t) := fun z => gd (by
      simp only [Obj.mk.injEq, Option.some.injEq, true_and] at z
      exact z.1)
    exact ⟨fl', g1, g2, g3, gm, gs, gs', gn, gv, q0, keep _ _ q1 ed (by simp) (Fx.ne q1 h4 (by simp)), keep _ _ q2 (by simp) (fun z => ge (by
      simp only [Obj.mk.injEq, Data.dict.injEq, true_and, and_true] at z
      simp at z
      exact z.2.2.2)) (Fx.ne q2 h4 (by simp)), keepT _ _ q3, keepL _ _ _ q4 ge, q5.mono keepT⟩
  · obtain ⟨un, uv, t1, t2⟩ := S.told g hg
    refine ⟨un, uv, keepL _ _ _ t1 fun z => ?_, t2.mono keepT⟩
    have hm : g.u ∈ (f0 :: rs).map (·.u) := List.mem_map_of_mem (f := (·.u)) hg
    simp only [List.map_cons, List.mem_cons] at hm
    rcases hm with q | q
    · exact nE.2.1 (z ▸ q)
    · exact nE.2.2 (z ▸ q)
/-- the told lists, one behind the other -/
theorem told_flat {nx : Ledger} : ∀ {fs : List FT}, (∀ f ∈ fs, ToldIn nx f) → ∃ xs : List (List Value), xs.length = fs.length ∧ (∀ (i : Nat) (f : FT), fs[i]? = some f → ∃ (c : Nat) (zs : List Value), xs[i]? = some zs ∧ (f.u, W.listOf (List.toArray zs) c) ∈ nx) ∧ PairsIn nx xs.flatten (fs.flatMap (·.ps))
  | [], _ => ⟨[], rfl, fun i f h => by simp at h, by simpa using PairsIn.nil⟩
  | f :: r, h => by
    obtain ⟨un, uv, h1, h2⟩ := h f (by simp)
    obtain ⟨xs, l1, l2, l3⟩ := told_flat (fs := r) fun g hg => h g (by simp [hg])
    refine ⟨uv :: xs, by simp [l1], fun i g hg => ?_, by simpa using h2.append l3⟩
    cases i with
    | zero =>
      simp at hg
      subst hg
      exact ⟨un, uv, by simp, h1⟩
    | succ j =>
      simp at hg
      simpa using l2 j g hg
theorem flatOf {nx : Ledger} {fs : List FT} {us : List Value} {xs : List (List Value)} (hus : us = fs.map fun f => Value.ref f.u) (h1 : xs.length = fs.length) (h2 : ∀ (i : Nat) (f : FT), fs[i]? = some f → ∃ (c : Nat) (zs : List Value), xs[i]? = some zs ∧ (f.u, W.listOf (List.toArray zs) c) ∈ nx) (h3 : PairsIn nx xs.flatten (fs.flatMap (·.ps))) (hn : (fs.map fun f => f.ps.length).sum ≤ 63) : FlatOf us xs nx := by
  refine ⟨by rw [h1, hus, List.length_map], fun i v hv => ?_, ?_⟩
  · rw [hus, List.getElem?_map] at hv
    cases hf : fs[i]? with
    | none => rw [hf] at hv; cases hv
    | some f =>
      rw [hf] at hv
      cases hv
      obtain ⟨c, zs, q1, q2⟩ := h2 i f hf
      exact ⟨f.u, c, zs, rfl, q1, q2⟩
  · rw [h3.length, flat_all]
    omega
theorem w_back0 {h₀ g' h : Heap} {L : Addr} {m : PySem.Str → Option Value} {news : List (Addr × Obj)} (Fg : Fr h₀ L g' m ∨ h₀.objs.size ≤ L) (Tn : KtsTurn [] h₀ g') (F' : Fr g' L h m) (N' : News g' L h news) : Fr h₀ L h m ∧ News h₀ L h news := by
  have up : ∀ b o, h₀.get? b = some o → g'.get? b = some o := fun b o e => Tn.other b o e (by simp)
  refine ⟨⟨F'.ns, fun b o e => F'.keep b o (up b o e), Fg.elim (fun z => z.above) id⟩, fun p hp => ⟨(N' p hp).1, (N' p hp).2.1, ?_⟩⟩
  cases q : h₀.get? p.1 with
  | none => rfl
  | some o => have := (N' p hp).2.2; rw [up _ _ q] at this; cases this
structure Caught (P : Params) (L Fa : Nat) (oc : Obj) (f0 : FT) (rs : List FT) (led : Ledger) : Prop where
  calm : CalmIn (some (.ref f0.x)) led
  first : FaultIn P led { f0 with ps := f0.ps ++ rs.flatMap (·.ps) }
  faults : ∀ g ∈ rs, FaultIn P led g
  told : ∀ g ∈ f0 :: rs, ToldIn led g
  cell : (L + 1, oc) ∈ led
  fa : ∃ fn, (Fa, W.listOf (List.toArray (Value.ref f0.x :: rs.map fun f => Value.ref f.x)) fn) ∈ led
theorem ToldIn.mono {nx nx' : Ledger} {f : FT} (h : ToldIn nx f) (hs : ∀ p ∈ nx, p ∈ nx') : ToldIn nx' f := by
  obtain ⟨un, uv, h1, h2⟩ := h
  exact ⟨un, uv, hs _ h1, h2.mono fun _ _ hm => hs _ hm⟩
theorem caught_of {P : Params} {L Fa Ta T : Nat} {oc oT : Obj} {f0 : FT} {rs : List FT} {rest nx' : Ledger} {fl : Array Value} {ev' : List Value} {k1 k2 k3 tm' ts en' : Nat} (R1 : Rest1 P L Fa Ta oc f0 rs rest) (up : ∀ p ∈ rest, p ∈ nx') (b : Bears (excF f0.d #[]) (.ref f0.t) .none f0.x T fl oT) (hp : PairsIn nx' ev' (f0.ps ++ rs.flatMap (·.ps))) :
    Caught P L Fa oc f0 rs ((f0.x, asF (excF f0.d #[]) fl) :: (T, oT) :: (f0.d, fdict P k1 k2 k3 (msgT f0.so (f0.ps ++ rs.flatMap (·.ps))) f0.so tm' ts f0.e) :: (f0.e, W.listOf (List.toArray ev') en') :: nx') ∧
      ∃ tn, (Ta, W.listOf (List.toArray (Value.ref f0.u :: rs.map fun f => Value.ref f.u)) tn) ∈ ((f0.x, asF (excF f0.d #[]) fl) :: (T, oT) :: (f0.d, fdict P k1 k2 k3 (msgT f0.so (f0.ps ++ rs.flatMap (·.ps))) f0.so tm' ts f0.e) :: (f0.e, W.listOf (List.toArray ev') en') :: nx' : Ledger) := by
  have up9 : ∀ p ∈ rest, p ∈ ((f0.x, asF (excF f0.d #[]) fl) :: (T, oT) :: (f0.d, fdict P k1 k2 k3 (msgT f0.so (f0.ps ++ rs.flatMap (·.ps))) f0.so tm' ts f0.e) :: (f0.e, W.listOf (List.toArray ev') en') :: nx' : Ledger) := fun p hp => .tail _ (.tail _ (.tail _ (.tail _ (up p hp))))
  obtain ⟨tt, hTt⟩ := R1.tup
  obtain ⟨fn, hFa⟩ := R1.fa
  obtain ⟨tn, hTa⟩ := R1.ta
  exact ⟨⟨.inr ⟨f0.x, f0.d, fl, rfl, .head _, b.f2⟩, ⟨fl, k1, k2, k3, tm', ts, tt, en', ev', b.f0, .head _, .tail _ (.tail _ (.head _)), up9 _ hTt, .tail _ (.tail _ (.tail _ (.head _))), hp.mono fun _ _ hm => .tail _ (.tail _ (.tail _ (.tail _ hm)))⟩, fun g hg => (R1.faults g hg).mono up9, fun g hg => (R1.told g hg).mono up9, up9 _ R1.cell, ⟨fn, up9 _ hFa⟩⟩, tn, up9 _ hTa⟩
theorem caught_rest {P : Params} {L Fa Ta tn : Nat} {oc : Obj} {f0 : FT} {rs : List FT} {led : Ledger} {us : Array Value} (C : Caught P L Fa oc f0 rs led) (F : Func led) (hT : (Ta, W.listOf us tn) ∈ led) (hoc : oc.data = cellV Ta) (hFT : @Ne Nat Fa Ta) (ne : ∀ g ∈ f0 :: rs, (@Ne Nat g.e Ta) ∧ (@Ne Nat g.u Ta)) : Caught P L Fa oc f0 rs (restOf led [Ta]) ∧ @Ne Nat (L + 1) Ta := by
  have keep : ∀ (a : Nat) (o : Obj), (a, o) ∈ led → (@Ne Nat a Ta) → (a, o) ∈ restOf led [Ta] := fun a o h q => mem_restOf h fun hc => q (List.mem_singleton.mp hc)
  have keepT : ∀ (a : Nat) (vs : List Value), (a, tupO vs) ∈ led → (a, tupO vs) ∈ restOf led [Ta] := fun a vs h => keep a _ h (F.ne h hT (by simp))
  have keepF : ∀ {g : FT}, FaultIn P led g → (@Ne Nat g.e Ta) → FaultIn P (restOf led [Ta]) g := fun h q => by
    obtain ⟨fl, k1, k2, k3, tm, ts, ts', en, ev, h0, h1, h2, h3, h4, h5⟩ := h
    exact ⟨fl, k1, k2, k3, tm, ts, ts', en, ev, h0, keep _ _ h1 (F.ne h1 hT (by simp)), keep _ _ h2 (F.ne h2 hT (by simp)), keepT _ _ h3, keep _ _ h4 q, h5.mono keepT⟩
  have hLT : @Ne Nat (L + 1) Ta := F.ne C.cell hT fun z => by rw [z] at hoc; cases hoc
  obtain ⟨fn, hFa⟩ := C.fa
  refine ⟨⟨C.calm.mono fun _ _ _ h => keep _ _ h (F.ne h hT (by simp)), keepF C.first (ne f0 (by simp)).1, fun g hg => keepF (C.faults g hg) (ne g (by simp [hg])).1, fun g hg => ?_, keep _ _ C.cell hLT, ⟨fn, keep _ _ hFa hFT⟩⟩, hLT⟩
  obtain ⟨un, uv, h1, h2⟩ := C.told g hg
  exact ⟨un, uv, keep _ _ h1 (ne g hg).2, h2.mono keepT⟩
theorem st_ne {P : Params} {nx : Ledger} {Fa Ta c : Nat} {fs : List FT} (S : St P nx Fa Ta c fs) : (@Ne Nat Fa Ta) ∧ ∀ g ∈ fs, (@Ne Nat g.e Ta) ∧ (@Ne Nat g.u Ta) := by
  have nF := (List.nodup_cons.mp S.nod).1
  have nT := (List.nodup_cons.mp (List.nodup_cons.mp S.nod).2).1
  simp only [List.mem_cons, List.mem_append, not_or] at nF nT
  exact ⟨nF.1, fun g hg => ⟨fun z => nT.1 (z ▸ List.mem_map_of_mem (f := (·.e)) hg), fun z => nT.2 (z ▸ List.mem_map_of_mem (f := (·.u)) hg)⟩⟩
/-- the state at the end -/
noncomputable abbrev endF (f0 : FT) (rs : List FT) (D : Nat) : List FT := { f0 with ps := f0.ps ++ rs.flatMap (·.ps), u := D } :: rs
structure EndS (P : Params) (lf : Ledger) (f0 : FT) (rs : List FT) (D : Nat) : Prop where
  faults : ∀ f ∈ endF f0 rs D, FaultIn P lf f
  told : ∀ f ∈ endF f0 rs D, ToldIn lf f
  file : ∀ k f, (endF f0 rs D)[k]? = some f → f.so = fileT k
  okp : ∀ f ∈ endF f0 rs D, ∀ p ∈ f.ps, OkPair p
  small : ∀ f ∈ endF f0 rs D, f.ps.length ≤ 63
theorem end_state {P : Params} {nx led lf : Ledger} {L Fa Ta c D n : Nat} {oc : Obj} {f0 : FT} {rs : List FT} {zs : List Value} (S : St P nx Fa Ta c (f0 :: rs)) (C : Caught P L Fa oc f0 rs led) (up : ∀ p ∈ led, p ∈ lf) (hD : (D, W.listOf (List.toArray zs) n) ∈ lf) (hz : PairsIn led zs (f0.ps ++ rs.flatMap (·.ps))) (htot : f0.ps.length + (rs.map fun f => f.ps.length).sum ≤ 63) : EndS P lf f0 rs D := by
  refine ⟨fun f hf => ?_, fun f hf => ?_, fun k f hk => ?_, fun f hf => ?_, fun f hf => ?_⟩
  · rcases List.mem_cons.mp hf with rfl | hf
    · obtain ⟨fl, k1, k2, k3, tm, ts, ts', en, ev, h0, h1, h2, h3, h4, h5⟩ := FaultIn.mono C.first up
      exact ⟨fl, k1, k2, k3, tm, ts, ts', en, ev, h0, h1, h2, h3, h4, h5⟩
    · exact (C.faults f hf).mono up
  · rcases List.mem_cons.mp hf with rfl | hf
    · exact ⟨_, _, hD, hz.mono fun _ _ hm => up _ hm⟩
    · exact (C.told f (List.mem_cons_of_mem _ hf)).mono up
  · cases k with
    | zero =>
      have e : _ = f := Option.some.inj hk
      subst e
      exact S.file 0 f0 rfl
    | succ j => exact S.file (j + 1) f (by simpa using hk)
  · rcases List.mem_cons.mp hf with rfl | hf
    · intro p hp
      rcases List.mem_append.mp hp with hp | hp
      · exact S.okp f0 (by simp) p hp
      · exact flat_ok (fun f hf => S.okp f (List.mem_cons_of_mem _ hf)) p hp
    · exact S.okp f (List.mem_cons_of_mem _ hf)
  · rcases List.mem_cons.mp hf with rfl | hf
    · show (f0.ps ++ rs.flatMap (·.ps)).length ≤ 63
      rw [List.length_append, flat_all]
      exact htot
    · have := sum_le_of (fs := rs) (n := 63) (by omega) f hf
      exact this
end Mine
end
section
open Lean Elab Tactic Meta PySem PySem.W PyProof.Rows PySem.Calls PySem.Spec
set_option maxRecDepth 100000
set_option maxHeartbeats 8000000
set_option rowWalk.seconds 0
namespace Mine
local macro_rules | `(tactic| walk_at $s:str) => `(tactic| k_extra $s)
local macro_rules | `(tactic| k_inst) => `(tactic| k_extra "zz k_inst")
local macro_rules | `(tactic| k_room) => `(tactic| k_extra "zz k_room")
local macro_rules | `(tactic| k_units) => `(tactic| k_extra "zz k_units")
local macro_rules | `(tactic| k_all) => `(tactic| k_extra "zz k_all")
local macro_rules | `(tactic| k_ne) => `(tactic| k_extra "zz k_ne")
theorem words1 : True := by
  (k_with "zz k_inst" => (refine' Mine.InstAt.of_newsE ?N ?h1 ?h2; (case N => k_asm); (case h1 => k_mem); (case h2 => k_mem)))
  (k_with "zz k_inst" => (refine' Mine.InstAt.of_newsE0 ?N ?h1; (case N => k_asm); (case h1 => k_mem)))
  (k_with "getAttr ref" => (k_here; k_dflt (refine' x_own ?k1 ?k2 ?k3 ?k4 ?k5 ?k6 ?k7 ?_; (case k1 => k_asm); (case k2 => k_asm); (case k3 => k_inst); (case k4 => k_is); (case k5 => k_is); (case k6 => k_get); (case k7 => k_handed); k_whole)))
  (k_with "getAttr ref" => (k_here; (with_reducible show wpAny _ _ (getAttr (Value.ref _) (PySem.Str.ofString "args") _) _ _ _); k_dflt (refine' x_args ?k1 ?k2 ?k3 ?k4 ?k5 ?_; (case k1 => k_asm); (case k2 => k_asm); (case k3 => k_inst); (case k4 => exact rfl); (case k5 => first | exact rfl | assumption); k_whole)))
  (k_with "getMethod ref" => (k_here; k_dflt (refine' x_method ?k1 ?k2 ?k3 ?k4 ?k5 ?k6 ?_; (case k1 => k_asm); (case k2 => k_asm); (case k3 => k_inst); (case k4 => k_is); (case k5 => k_is); (case k6 => k_get); k_whole)))
  (k_with "setAttr ref" => (k_here; k_dflt (refine' x_set ?k1 ?k2 ?k3 ?k4 ?k5 ?k6 ?k7 ?k8 ?k9 ?k10 ?_; (case k1 => k_asm); (case k2 => k_asm); (case k3 => k_asm); (case k4 => k_inst); (case k5 => exact rfl); (case k6 => k_is); (case k7 => k_get); (case k8 => k_put); (case k9 => k_upd); (case k10 => exact Nat.le_of_ble_eq_true rfl); k_whole; intro hzz Fzz Nzz; (try k_sweep))))
  (k_with "setAttr ref" => (k_here; k_dflt (refine' x_new ?k1 ?k2 ?k3 ?k4 ?k5 ?k6 ?_; (case k1 => k_asm); (case k2 => k_asm); (case k3 => k_asm); (case k4 => k_inst); (case k5 => k_is); (case k6 => (intro dzz; k_upd)); k_whole; intro dzz hzz Fzz Nzz l1zz; (try k_lt l1zz); (try k_sweep))))
  (k_with "setAttr ref" => (k_here; (with_reducible show wpAny _ _ (setAttr (Value.ref _) (PySem.Str.ofString "args") _) _ _ _); k_dflt (refine' x_setArgs ?k1 ?k2 ?k3 ?k4 ?k5 ?k6 ?_; (case k1 => k_asm); (case k2 => k_asm); (case k3 => k_asm); (case k4 => k_inst); (case k5 => k_mem); (case k6 => k_upd); k_whole; intro hzz Fzz Nzz; (try k_sweep))))
  (k_with "call builtin:Exception.__init__" => (k_here; k_dflt (refine' x_excInit ?k1 ?k2 ?k3 ?k4 ?_; (case k1 => k_asm); (case k2 => k_asm); (case k3 => k_asm); (case k4 => (intro t1zz; k_upd)); k_whole; intro tzz hzz Fzz Nzz l1zz; (try k_lt l1zz); (try k_sweep))))
  (k_with "formatField int" => (k_here; (with_reducible show wpAny _ _ (formatField (Value.int _ _) (PySem.Str.ofString "2d")) _ _ _); k_dflt (refine' x_fmt ?k1 ?k2 ?k3 ?k4 ?_; (case k1 => k_asm); (case k2 => k_asm); (case k3 => k_asm); (case k4 => k_asm); intro hpadLezz)))
  (k_with "call ref" => (k_here; (with_reducible show wpAny _ _ (call (Value.ref 189) _) _ _ _); k_dflt (refine' x_call ?k1 ?k2 ?k3 ?k4 ?_; (case k1 => k_asm); (case k2 => k_asm); (case k3 => k_asm); (case k4 => exact Nat.le_of_ble_eq_true rfl); intro xzz tzz hzz Fzz Nzz l1zz l2zz; (try k_lt l1zz); (try k_lt2 l2zz); (refine' super_rest ?k1 ?k2 ?k3 ?k4 ?k5 ?kA ?kF ?kK ?k6 ?k7 ?k8 ?kV ?kP ?kG ?kB ?_ ?c1 ?c2 ?c3 ?c4; (case kA => exact rfl); (case kF => exact rfl); (case kK => first | exact rfl | assumption); (case k1 => k_asm); (case k2 => k_asm); (case k3 => k_asm); (case k4 => k_asm); (case k5 => k_asm); (case k6 => k_is); (case k7 => k_is); (case k8 => first | k_room | ktr_room); (case kV => kl_lit); (case kP => exact rfl); (case kG => exact fun _ => rfl); (case kB => exact fun _ => locs rfl); (case c1 => decide); (case c2 => exact rfl); (case c3 => exact rfl); (case c4 => exact rfl); intro Dzz gzz Lzz hzz l1zz FGzz Fzz Nzz Bzz Xzz Tzz; (try k_lt l1zz); (try dsimp only); (try k_lift Bzz)))))
  (k_with "getMethod type:Exception" => (k_here; refine' method_type ?F ?X ?m (by decide +kernel) ?e ?h ?_; (case F => k_asm); (case X => k_asm); (case m => exact meta_exc); (case e => k_dflt k_is); (case h => k_handed)))
  (k_with "zz k_room" => ktr_room)
  (k_with "zz k_units" => ktr_units)
  (k_with "zz k_all" => exact offLt (by assumption) (by omega))
  (k_with "eval Call Attribute" => (k_here; (with_reducible show wpAny _ _ (eval (PySem.Expr.Call (PySem.Expr.Attribute _ _ _) [PySem.Expr.Starred _ _] _ _) _) _ _ _); refine methodCall_star ?_))
  (k_with "callWith ref" => (k_here; (with_reducible show wpAny _ _ (callWith _ (Value.ref _) [] (backTo _ (starEach [PySem.Expr.Starred _ _] _)) []) _ _ _); k_dflt (refine' callWith_SM ?k1 ?k2 ?k3 ?k4 ?_; (case k1 => k_asm); (case k2 => k_asm); (case k3 => k_mem); (case k4 => k_is); k_whole)))
  (k_with "getAttr ref" => (k_here; k_dflt (refine' x_bound ?k1 ?k2 ?k3 ?k4 ?k5 ?k6 ?k7 ?k8 ?k9 ?k10 ?_; (case k1 => k_asm); (case k2 => k_asm); (case k3 => k_asm); (case k4 => k_inst); (case k5 => k_is); (case k6 => k_is); (case k7 => k_is); (case k8 => k_is); (case k9 => decide +kernel); (case k10 => k_get); k_whole); intro qzz hzz Fzz Nzz l1zz; (try k_lt l1zz); (try k_sweep)))
  (k_with "zz k_ne" => (refine neN ?_; (try dsimp only); first | with_reducible assumption | exact Ne.symm (by with_reducible assumption) | exact ne_r (by with_reducible assumption) | exact ne_s (by with_reducible assumption) | exact ne_p0 (by with_reducible assumption) | exact ne_q0 (by with_reducible assumption) | exact ne_p1 (by with_reducible assumption) | exact ne_q1 (by with_reducible assumption) | exact ne_p2 (by with_reducible assumption) | exact ne_q2 (by with_reducible assumption) | exact ne_p3 (by with_reducible assumption) | exact ne_q3 (by with_reducible assumption) | exact ne_p4 (by with_reducible assumption) | exact ne_q4 (by with_reducible assumption) | exact ne_p5 (by with_reducible assumption) | exact ne_q5 (by with_reducible assumption) | exact ne_p6 (by with_reducible assumption) | exact ne_q6 (by with_reducible assumption) | exact ne_p7 (by with_reducible assumption) | exact ne_q7 (by with_reducible assumption) | exact ne_p8 (by with_reducible assumption) | exact ne_q8 (by with_reducible assumption) | exact ne_p9 (by with_reducible assumption) | exact ne_q9 (by with_reducible assumption) | exact ne_p10 (by with_reducible assumption) | exact ne_q10 (by with_reducible assumption) | exact ne_p11 (by with_reducible assumption) | exact ne_q11 (by with_reducible assumption) | exact ne_p12 (by with_reducible assumption) | exact ne_q12 (by with_reducible assumption) | exact ne_p13 (by with_reducible assumption) | exact ne_q13 (by with_reducible assumption) | exact ne_p14 (by with_reducible assumption) | exact ne_q14 (by with_reducible assumption)))
  trivial
theorem words2 : True := by
  (k_with "storeName" => (fin_once zzNorm (refine norm_s (by dsimp only) ?_; walk1)))
  (k_with "newList" => (fin_once zzNorm (refine norm_s (by dsimp only) ?_; walk1)))
  (k_with "newTuple" => (fin_once zzNorm (refine norm_s (by dsimp only) ?_; walk1)))
  (k_with "call ref" => (fin_once zzNorm (refine norm_s (by dsimp only) ?_; walk1)))
  (k_with "call builtin:list.append" => (fin_once zzNorm (refine norm_s (by dsimp only) ?_; walk1)))
  (k_with "binaryOp" => (fin_once zzNorm (refine norm_s (by dsimp only) ?_; walk1)))
  (k_with "ite" => (fin_once zzNorm (refine norm_s (by dsimp only) ?_; walk1)))
  (k_with "setAttr ref" => (fin_once zzNorm (refine norm_s (by dsimp only) ?_; walk1)))
  (k_with "inplaceOp" => (fin_once zzNorm (refine norm_s (by dsimp only) ?_; walk1)))
  trivial
theorem append_code {wd : World} {mean : ExcName → Option Value} {mg mb : PySem.Str → Option Value} {dp un : Nat} {gd : Option (List Code)} {cn : PySem.Str} {cs : Scope} {a : Addr} {ccd : Value} {cl : List (PySem.Str × Addr)} {outer : List Env} {A₀ : Around} {base h₀ : Heap} {L : Addr} {m : PySem.Str → Option Value} {own : List (Addr × Obj)} {s : Shared}
    {R : Result → Shared → Prop} {x d e : Nat} {fl : Array Value} {ms so : PySem.Str} {tm ts k1 k2 k3 : Nat} {es : List Value} {en : Nat} {no : Int} {tno tli : Nat} {li : PySem.Str}
    (B : Below A₀ base outer h₀) (F : Fr h₀ L s.heap m) (X : (lawTop.heap_39 wd.params).In h₀)
    (T : Top lawTop.view_39 LO mean mg mb h₀) (hk : cs.kind = .function) (hdp : dp + 50 < recursionLimit) (hun : un + 500 < cLine)
    (N : News h₀ L s.heap ((x, excF d fl) :: (d, fdict wd.params k1 k2 k3 ms so tm ts e) :: (e, listOf es.toArray en) :: own))
    (O : OwnOff own [x, d, e]) (hxd : @Ne Nat x d) (hxe : @Ne Nat x e) (hde : @Ne Nat d e) (hes : es.length ≤ 100) (hms : ms.length ≤ 100000) (hrp : (PySem.reprText li).length ≤ 20) (hno1 : -100 ≤ no) (hno2 : no < 1100)
    (h : ∀ (D : Nat) h' tk tm', Fr h₀ L h' m → News h₀ L h' ((D, tupO [.int no tno, .str li tli]) :: (x, excF d fl) :: (d, fdict wd.params k1 k2 k3 (ms ++ lineT no li) so tm' ts e) :: (e, listOf (es ++ [Value.ref D]).toArray (en + 1)) :: own) →
      (x < D ∧ d < D ∧ e < D ∧ AllLt D own) → R (.ok (.ret .none)) { s with heap := h', toks := tk }) :
    codeAny (model PySem.Challenge.rw_dn0008_01.row.prog wd) (ktrTop dp un gd cn cs L a ccd cl outer) (.call (.ref 169) ⟨[.ref x, .int no tno, .str li tli], []⟩) R s := by
  revert X; k_fill; intro X; w_top off
  k_dflt ktr_enter
  k_steps
  (rename News h₀ _ _ _ => kN9)
  (rename Fr h₀ _ _ _ => kF9)
  simp only [PySem.Str.empty_append, List.push_toArray] at kN9
  exact h _ _ _ _ kF9 kN9 (by assumption)
theorem append_ok {wd : World} {mean : ExcName → Option Value} {mg mb : PySem.Str → Option Value} {dp un : Nat} {gd : Option (List Code)} {cn : PySem.Str} {cs : Scope} {a : Addr} {ccd : Value} {cl : List (PySem.Str × Addr)} {outer : List Env} {A₀ : Around} {base h₀ : Heap} {L : Addr} {m : PySem.Str → Option Value} {own : List (Addr × Obj)} {s : Shared}
    {Q E : Value → Shared → Prop} {x d e : Nat} {fl : Array Value} {ms so : PySem.Str} {tm ts k1 k2 k3 : Nat} {es : List Value} {en : Nat} {no : Int} {tno tli : Nat} {li : PySem.Str}
    (B : Below A₀ base outer h₀) (F : Fr h₀ L s.heap m) (X : (lawTop.heap_39 wd.params).In h₀)
    (T : Top lawTop.view_39 LO mean mg mb h₀) (hk : cs.kind = .function) (hdp : dp + 100 < recursionLimit) (hun : un + 1000 < cLine)
    (N : News h₀ L s.heap ((x, excF d fl) :: (d, fdict wd.params k1 k2 k3 ms so tm ts e) :: (e, listOf es.toArray en) :: own))
    (O : OwnOff own [x, d, e]) (hxd : @Ne Nat x d) (hxe : @Ne Nat x e) (hde : @Ne Nat d e) (hes : es.length ≤ 100) (hms : ms.length ≤ 100000) (hrp : (PySem.reprText li).length ≤ 20) (hno1 : -100 ≤ no) (hno2 : no < 1100)
    (h : ∀ (D : Nat) h' tk tm', Fr h₀ L h' m → News h₀ L h' ((D, tupO [.int no tno, .str li tli]) :: (x, excF d fl) :: (d, fdict wd.params k1 k2 k3 (ms ++ lineT no li) so tm' ts e) :: (e, listOf (es ++ [Value.ref D]).toArray (en + 1)) :: own) →
      (x < D ∧ d < D ∧ e < D ∧ AllLt D own) → Q .none { s with heap := h', toks := tk }) :
    wpAny (model PySem.Challenge.rw_dn0008_01.row.prog wd) (ktrTop dp un gd cn cs L a ccd cl outer) (call (.ref 169) [.ref x, .int no tno, .str li tli]) Q E s :=
  wpAny_call (append_code B F X T hk (Nat.lt_of_le_of_lt (Nat.add_le_add_left (by decide) _) hdp) (Nat.lt_of_le_of_lt (Nat.add_le_add_left (by decide) _) hun) N O hxd hxe hde hes hms hrp hno1 hno2 h)
theorem off3 {own : List (Addr × Obj)} {b x d e D : Nat} {o : Obj} (lo : ∀ p ∈ own, p.1 < b) (hx : b < x) (hd : b < d) (he : b < e) (h1 : x < D) (h2 : d < D) (h3 : e < D) : OwnOff ((D, o) :: own) [x, d, e] := fun p hp c hc => by
  simp only [List.mem_cons, List.not_mem_nil, or_false] at hc
  rcases List.mem_cons.mp hp with rfl | hp
  · rcases hc with rfl | rfl | rfl <;> exact Nat.ne_of_gt (by assumption)
  · have := lo p hp
    rcases hc with rfl | rfl | rfl <;> exact Nat.ne_of_lt (Nat.lt_trans this (by assumption))
theorem headT_len {so : PySem.Str} (h : (PySem.reprText so).length ≤ 40) : (headT so).length ≤ 100000 := by
  unfold headT
  rw [PySem.Str.length_append]
  have : (PySem.Str.ofString "Source contains parsing errors: ").length = 32 := by decide
  omega
theorem mk_ok {wd : World} {mean : ExcName → Option Value} {mg mb : PySem.Str → Option Value} {dp un : Nat} {gd : Option (List Code)} {cn : PySem.Str} {cs : Scope} {a : Addr} {ccd : Value} {cl : List (PySem.Str × Addr)} {outer : List Env} {A₀ : Around} {base h₀ : Heap} {L : Addr} {m : PySem.Str → Option Value} {own : List (Addr × Obj)} {s : Shared}
    {Q E : Value → Shared → Prop} {so : PySem.Str} {ts : Nat} {no : Int} {tno tli : Nat} {li : PySem.Str} {rest : List Value} (hrest : rest = [] ∨ rest = [.int no tno, .str li tli])
    (B : Below A₀ base outer h₀) (F : Fr h₀ L s.heap m) (X : (lawTop.heap_39 wd.params).In h₀)
    (T : Top lawTop.view_39 LO mean mg mb h₀) (hk : cs.kind = .function) (hdp : dp + 100 < recursionLimit) (hun : un + 1000 < cLine)
    (N : News h₀ L s.heap own)
    (hso : so.length ≤ 20) (hrs : (PySem.reprText so).length ≤ 40)
    (h1 : rest = [] → ∀ (b x d t e : Nat) h' tk tm ts' k1 k2 k3, Fr h₀ L h' m → News h₀ L h' ((x, excF d (exFl t)) :: (d, fdict wd.params k1 k2 k3 (headT so) so tm ts' e) :: (t, tupO [.str so ts']) :: (e, listOf ([] : List Value).toArray 0) :: own) →
      (∀ p ∈ own, p.1 < b) → (b < x ∧ b < d ∧ b < t ∧ b < e) → Q (.ref x) { s with heap := h', toks := tk })
    (h3 : rest = [.int no tno, .str li tli] → ((PySem.reprText li).length ≤ 20 ∧ -100 ≤ no ∧ no < 1100) ∧ ∀ (b x d t e D : Nat) h' tk tm ts' k1 k2 k3, Fr h₀ L h' m → News h₀ L h' ((D, tupO [.int no tno, .str li tli]) :: (x, excF d (exFl t)) :: (d, fdict wd.params k1 k2 k3 (headT so ++ lineT no li) so tm ts' e) :: (t, tupO [.str so ts']) :: (e, listOf [Value.ref D].toArray 1) :: own) →
      (∀ p ∈ own, p.1 < b) → (b < x ∧ b < d ∧ b < t ∧ b < e ∧ b < D) → Q (.ref x) { s with heap := h', toks := tk }) :
    wpAny (model PySem.Challenge.rw_dn0008_01.row.prog wd) (ktrTop dp un gd cn cs L a ccd cl outer) (call (.ref 189) (.str so ts :: rest)) Q E s := by
  have hr2 : rest.length ≤ 2 := by rcases hrest with rfl | rfl <;> simp only [List.length_cons, List.length_nil] <;> decide
  revert X; k_fill; intro X; w_top off
  k_dflt (refine' x_call F X N (Nat.le_trans (Nat.succ_le_succ hr2) (Nat.le_of_ble_eq_true rfl)) ?_)
  intro x' t' h' F' N' l1 l2
  (try k_lt l1); (try k_lt2 l2)
  k_dflt (refine' super_rest (vs := rest) (g₁ := fun D => some [(PySem.Str.ofString "self", .ref x'), (PySem.Str.ofString "source", .str so ts), (PySem.Str.ofString "args", .ref D)]) (binds := fun D => [(PySem.Str.ofString "self", .ref x'), (PySem.Str.ofString "source", .str so ts), (PySem.Str.ofString "args", .ref D)]) ?k1 ?k2 ?k3 ?k4 ?k5 ?kA ?kF ?kK ?k6 ?k7 ?k8 ?kV ?kP ?kG ?kB ?_ ?c1 ?c2 ?c3 ?c4; (case kA => exact rfl); (case kF => exact rfl); (case kK => first | exact rfl | assumption); (case k1 => k_asm); (case k2 => k_asm); (case k3 => k_asm); (case k4 => k_asm); (case k5 => k_asm); (case k6 => k_is); (case k7 => k_is); (case k8 => first | k_room | ktr_room); (case kV => exact rfl); (case kP => clear N' h1 h3 hr2; rcases hrest with rfl | rfl <;> exact rfl); (case kG => exact fun _ => rfl); (case kB => exact fun _ => locs rfl); (case c1 => decide); (case c2 => exact rfl); (case c3 => exact rfl); (case c4 => exact rfl); intro D' g' L' h' l1 FG' F' N' B' X' T'; (try k_lt l1); (try dsimp only); (try k_lift B'))
  iterate 73 (first | (k_unfold; (try dsimp only)) | (k_end; wrow_close) | walk1 | (dsimp only; walk1))
  rcases hrest with rfl | rfl
  · iterate 6 (first | (k_unfold; (try dsimp only)) | (k_end; wrow_close) | walk1 | (dsimp only; walk1))
    (rename News h₀ _ _ _ => kN9)
    (rename Fr h₀ _ _ _ => kF9)
    (rename (∀ p ∈ own, p.1 < _) => lo9)
    (rename (_ ∧ _ : Prop) => lD)
    revert lD
    (rename (_ ∧ _ : Prop) => ll)
    revert ll
    (rename (_ ∧ _ : Prop) => lt)
    clear lt
    (rename (_ ∧ _ : Prop) => ld)
    intro ll lD
    (rename (@LT.lt Nat _ t' x') => l2)
    simp only [PySem.Str.empty_append] at kN9
    exact h1 rfl _ _ _ _ _ _ _ _ _ _ _ _ kF9 (newsSub kN9 (List.forall_mem_cons.mpr ⟨.tail _ (.tail _ (.tail _ (.tail _ (.tail _ (.tail _ (.tail _ (.head _))))))), List.forall_mem_cons.mpr ⟨.tail _ (.tail _ (.tail _ (.head _))), List.forall_mem_cons.mpr ⟨.head _, List.forall_mem_cons.mpr ⟨.tail _ (.head _), fun p hp => .tail _ (.tail _ (.tail _ (.tail _ (.tail _ (.tail _ (.tail _ (.tail _ (.tail _ hp))))))))⟩⟩⟩⟩)) lo9 ⟨l2, ld.2.2.2.2.1, lD.2.2.2.2.2.2.2.1, ll.2.2.2.2.2.2.1⟩
  · iterate 13 (first | (k_unfold; (try dsimp only)) | (k_end; wrow_close) | walk1 | (dsimp only; walk1))
    (rename News _ _ _ _ => N9)
    (rename Fr _ _ _ _ => F9)
    (rename (∀ p ∈ own, p.1 < _) => lo9)
    (rename (_ ∧ _ : Prop) => lq)
    clear lq
    (rename (_ ∧ _ : Prop) => lD)
    revert lD
    (rename (_ ∧ _ : Prop) => ll)
    revert ll
    (rename (_ ∧ _ : Prop) => lt)
    clear lt
    (rename (_ ∧ _ : Prop) => ld)
    intro ll lD
    (rename (@LT.lt Nat _ t' x') => l2)
    simp only [PySem.Str.empty_append] at N9
    obtain ⟨⟨g1, g2, g3⟩, h3⟩ := h3 rfl
    refine' call_meth ?N9 ?m9 ?_
    case N9 => exact N9
    case m9 => exact .head _
    have NA := newsSub N9 (small := (x', _) :: (_, _) :: (_, _) :: (_, _) :: own) (List.forall_mem_cons.mpr ⟨.tail _ (.tail _ (.tail _ (.tail _ (.tail _ (.tail _ (.tail _ (.tail _ (.head _)))))))), List.forall_mem_cons.mpr ⟨.tail _ (.tail _ (.tail _ (.tail _ (.head _)))), List.forall_mem_cons.mpr ⟨.tail _ (.tail _ (.head _)), List.forall_mem_cons.mpr ⟨.tail _ (.head _), fun p hp => .tail _ (.tail _ (.tail _ (.tail _ (.tail _ (.tail _ (.tail _ (.tail _ (.tail _ (.tail _ hp)))))))))⟩⟩⟩⟩)
    k_dflt (refine' append_code (es := []) ?B ?F ?X ?T ?hk ?dp ?un ?N ?O ?n1 ?n2 ?n3 ?l1 ?ms g1 g2 g3 ?_; (case F => exact F9); (case X => k_asm); (case T => k_asm); (case B => k_asm); (case hk => exact rfl); (case N => exact NA); (case l1 => decide))
    case dp => exact Nat.lt_of_le_of_lt (show dp + 52 ≤ dp + 100 from Nat.add_le_add_left (by decide) dp) hdp
    case un => exact Nat.lt_of_le_of_lt (show un + 504 ≤ un + 1000 from Nat.add_le_add_left (by decide) un) hun
    case n1 => exact Nat.ne_of_lt ld.2.2.2.1
    case n2 => exact Nat.ne_of_lt ll.2.2.2.2.2.1
    case n3 => exact Nat.ne_of_lt ll.2.1
    case O => exact off3 lo9 l2 ld.2.2.2.2.1 ll.2.2.2.2.2.2.1 lD.2.2.2.2.2.2.1 lD.2.2.1 lD.1
    case ms => exact (headT_len hrs)
    intro D9 h9 tk9 tm9 F9' N9' l9
    iterate 3 (first | (k_unfold; (try dsimp only)) | (k_end; wrow_close) | walk1 | (dsimp only; walk1))
    (rename Fr h₀ _ _ _ => kF9)
    (rename News h₀ _ _ _ => kN9)
    exact h3 _ _ _ _ _ _ _ _ _ _ _ _ _ kF9 (newsSub kN9 (List.forall_mem_cons.mpr ⟨.head _, List.forall_mem_cons.mpr ⟨.tail _ (.head _), List.forall_mem_cons.mpr ⟨.tail _ (.tail _ (.head _)), List.forall_mem_cons.mpr ⟨.tail _ (.tail _ (.tail _ (.tail _ (.head _)))), List.forall_mem_cons.mpr ⟨.tail _ (.tail _ (.tail _ (.head _))), fun p hp => .tail _ (.tail _ (.tail _ (.tail _ (.tail _ hp))))⟩⟩⟩⟩⟩)) lo9 ⟨l2, ld.2.2.2.2.1, lD.2.2.2.2.2.2.2.1, ll.2.2.2.2.2.2.1, Nat.lt_trans l2 l9.1⟩
theorem mk3_ok {wd : World} {mean : ExcName → Option Value} {mg mb : PySem.Str → Option Value} {dp un : Nat} {gd : Option (List Code)} {cn : PySem.Str} {cs : Scope} {a : Addr} {ccd : Value} {cl : List (PySem.Str × Addr)} {outer : List Env} {A₀ : Around} {base h₀ : Heap} {L : Addr} {m : PySem.Str → Option Value} {own : List (Addr × Obj)} {s : Shared}
    {Q E : Value → Shared → Prop} {so : PySem.Str} {ts : Nat} {no : Int} {tno tli : Nat} {li : PySem.Str}
    (B : Below A₀ base outer h₀) (F : Fr h₀ L s.heap m) (X : (lawTop.heap_39 wd.params).In h₀)
    (T : Top lawTop.view_39 LO mean mg mb h₀) (hk : cs.kind = .function) (hdp : dp + 100 < recursionLimit) (hun : un + 1000 < cLine)
    (N : News h₀ L s.heap own)
    (hso : so.length ≤ 20) (hrs : (PySem.reprText so).length ≤ 40) (hrp : (PySem.reprText li).length ≤ 20) (hno1 : -100 ≤ no) (hno2 : no < 1100)
    (h : ∀ (b x d t e D : Nat) h' tk tm ts' k1 k2 k3, Fr h₀ L h' m → News h₀ L h' ((D, tupO [.int no tno, .str li tli]) :: (x, excF d (exFl t)) :: (d, fdict wd.params k1 k2 k3 (headT so ++ lineT no li) so tm ts' e) :: (t, tupO [.str so ts']) :: (e, listOf [Value.ref D].toArray 1) :: own) →
      (∀ p ∈ own, p.1 < b) → (b < x ∧ b < d ∧ b < t ∧ b < e ∧ b < D) → Q (.ref x) { s with heap := h', toks := tk }) :
    wpAny (model PySem.Challenge.rw_dn0008_01.row.prog wd) (ktrTop dp un gd cn cs L a ccd cl outer) (call (.ref 189) [.str so ts, .int no tno, .str li tli]) Q E s :=
  mk_ok (.inr rfl) B F X T hk hdp hun N hso hrs (fun e => nomatch e) fun _ => ⟨⟨hrp, hno1, hno2⟩, h⟩
theorem mk1_ok {wd : World} {mean : ExcName → Option Value} {mg mb : PySem.Str → Option Value} {dp un : Nat} {gd : Option (List Code)} {cn : PySem.Str} {cs : Scope} {a : Addr} {ccd : Value} {cl : List (PySem.Str × Addr)} {outer : List Env} {A₀ : Around} {base h₀ : Heap} {L : Addr} {m : PySem.Str → Option Value} {own : List (Addr × Obj)} {s : Shared}
    {Q E : Value → Shared → Prop} {so : PySem.Str} {ts : Nat}
    (B : Below A₀ base outer h₀) (F : Fr h₀ L s.heap m) (X : (lawTop.heap_39 wd.params).In h₀)
    (T : Top lawTop.view_39 LO mean mg mb h₀) (hk : cs.kind = .function) (hdp : dp + 100 < recursionLimit) (hun : un + 1000 < cLine)
    (N : News h₀ L s.heap own)
    (hso : so.length ≤ 20) (hrs : (PySem.reprText so).length ≤ 40)
    (h : ∀ (b x d t e : Nat) h' tk tm ts' k1 k2 k3, Fr h₀ L h' m → News h₀ L h' ((x, excF d (exFl t)) :: (d, fdict wd.params k1 k2 k3 (headT so) so tm ts' e) :: (t, tupO [.str so ts']) :: (e, listOf ([] : List Value).toArray 0) :: own) →
      (∀ p ∈ own, p.1 < b) → (b < x ∧ b < d ∧ b < t ∧ b < e) → Q (.ref x) { s with heap := h', toks := tk }) :
    wpAny (model PySem.Challenge.rw_dn0008_01.row.prog wd) (ktrTop dp un gd cn cs L a ccd cl outer) (call (.ref 189) [.str so ts]) Q E s :=
  mk_ok (no := 0) (tno := 0) (tli := 0) (li := PySem.Str.empty) (.inl rfl) B F X T hk hdp hun N hso hrs (fun _ => h) fun e => nomatch e
theorem words3 : True := by
  (k_with "subscriptTail" => (k_here; (with_reducible show wpAny _ _ (subscriptTail _ _ (Value.ref _) (Value.int _ _)) _ _ _); k_dflt (refine' x_line ?k1 ?k2 ?k3 ?k4 ?k5 ?k6 ?_ ?k7; (case k1 => k_asm); (case k2 => k_mem); (case k3 => exact lines6); (case k4 => exact fm_lo _ (by decide)); (case k5 => exact fm_six _); (case k6 => exact fm_fit _); (case k7 => with_unfolding_all rfl)); intro lizz tzz hrzz hozz hkzz))
  (k_with "subscriptTail" => (k_here; (with_reducible show wpAny _ _ (subscriptTail _ _ (Value.ref _) (Value.int (-1) _)) _ _ _); k_dflt (refine' x_last ?k1 ?k2 ?k3 ?_ ?k7; (case k1 => k_asm); (case k2 => k_mem); (case k3 => omega); (case k7 => with_unfolding_all rfl))))
  (k_with "call builtin:len" => (k_here; (with_reducible show wpAny _ _ (call (Value.builtin "len") [Value.ref _]) _ _ _); k_dflt (refine' x_len ?k1 ?k2 ?k3 ?_; (case k1 => k_asm); (case k2 => k_mem); (case k3 => first | omega | (simp only [List.length_append, List.length_cons, List.length_nil]; omega)))))
  trivial
theorem words4 : True := by
  (k_with "assign Tuple" => (k_here; (with_reducible show wpAny _ _ (assign (PySem.Expr.Tuple _ _ _) _ (Value.ref _)) _ _ _); k_dflt (refine' x_unpack ?F ?N ?hh ?C ?m ?k1 ?k2 ?_; (case F => k_asm); (case N => k_asm); (case hh => exact rfl); (case C => exact calmIn_app (by assumption)); (case m => exact List.mem_append_right _ (by assumption)); (case k1 => exact rfl); (case k2 => exact rfl)); intro hzz Fzz Nzz; (try k_sweep)))
  trivial
theorem words_ok {wd : World} {mean : ExcName → Option Value} {mg mb : PySem.Str → Option Value} {hd : Option Value} {dp un : Nat} {gd : Option (List Code)} {cn : PySem.Str} {cs : Scope} {a : Addr} {ccd : Value} {cl : List (PySem.Str × Addr)} {outer : List Env} {A₀ : Around} {base h₀ : Heap} {L : Addr} {m : PySem.Str → Option Value} {own : List (Addr × Obj)} {s : Shared}
    {Q E : Value → Shared → Prop} {e : Nat} {so : PySem.Str} {ts : Nat} {ev : List Value} {en : Nat} {ps : List (Int × PySem.Str)}
    (B : Below A₀ base outer h₀) (F : Fr h₀ L s.heap m) (X : (lawTop.heap_39 wd.params).In h₀)
    (T : Top lawTop.view_39 LO mean mg mb h₀) (hk : cs.kind = .function) (hdp : dp + 100 < recursionLimit) (hun : un + 1000 < cLine)
    (N : News h₀ L s.heap own) (hC : CalmIn hd own) (hm : (e, W.listOf ev.toArray en) ∈ own) (hp : PairsIn own ev ps) (hok : ∀ p ∈ ps, OkPair p) (hlen : ps.length ≤ 63)
    (hso : so.length ≤ 20) (hrs : (PySem.reprText so).length ≤ 40)
    (h : ∀ h' tk t, Fr h₀ L h' m → News h₀ L h' own → Q (.str (msgT so ps) t) { s with heap := h', toks := tk }) :
    wpAny (model PySem.Challenge.rw_dn0008_01.row.prog wd) (kT hd dp un gd cn cs L a ccd cl outer) (call (.ref 198) [.str so ts, .ref e]) Q E s := by
  have hm0 := hp.length
  revert X; k_fill; intro X; w_top off
  refine wpAny_call ?_
  k_dflt ktr_enter
  iterate 16 (first | (k_unfold; (try dsimp only)) | (k_end; wrow_close) | walk1 | (dsimp only; walk1))
  (rename Fr _ _ _ _ => lF')
  (rename News _ _ _ _ => lN')
  k_dflt (refine For_turns lF' ?_)
  walk1
  refine' iter_listG (fun i m nx => nx = own ∧ ∃ t, m (PySem.Str.ofString "words") = some (.str (msgT so (ps.take i)) t)) rfl lF' lN' hm hC ⟨rfl, _, by with_unfolding_all rfl⟩ ?turn ?done
  case done =>
    intro m₁ nx h₁ tk₁ hJ F₁ N₁
    obtain ⟨rfl, t₁, hw⟩ := hJ
    rw [hm0, List.take_length] at hw
    have em := fau_ext hw
    rw [em] at F₁
    clear lF' lN' em
    k_steps
    (rename Fr _ _ _ _ => F12)
    (rename News _ _ _ _ => N12)
    exact h _ _ _ F12 N12
  intro I i v m₁ nx h₁ tk₁ own' hI hv hJ hnI hown F₁ N₁
  obtain ⟨rfl, t₁, hw⟩ := hJ
  obtain ⟨p, ap, t1, t2, hpi, rfl, hmem⟩ := hp.get hv
  have em := fau_ext hw
  rw [em] at F₁
  have okp := hok p (List.mem_of_getElem? hpi)
  have hw5 : (msgT so (ps.take i)).length ≤ 5000 := msgT_fit (fun q hq => hok q (List.mem_of_mem_take hq)) hrs (Nat.le_trans (by rw [List.length_take]; exact Nat.min_le_right _ _) (Nat.le_trans hlen (by decide)))
  have hrp := okp.rp
  have hrj : (Txt.rjust (PySem.Str.ofString (toString p.1)) 2).length ≤ 5 := by rw [padR okp.lo okp.hi]; exact padT_len okp.lo okp.hi
  have hno1 := okp.lo
  have hno2 := okp.hi
  clear lF' lN' em
  k_steps
  (rename Fr _ _ _ _ => F12)
  (rename News _ _ _ _ => N12)
  exact ⟨_, _, _, _, rfl, F12, N12, hnI, rfl, _, Eq.trans (by with_unfolding_all rfl) (congrArg (fun z => some (Value.str z _)) (words_next hpi okp))⟩
theorem words5 : True := by
  (k_with "call ref" => (k_here; (with_reducible show wpAny _ _ (call (Value.ref 198) _) _ _ _); k_dflt (refine' words_ok ?B ?F ?X ?T ?hk ?hdp ?hun ?N ?hC ?hm ?hp ?n1 ?n2 ?n3 ?n4 ?_; (case B => k_asm); (case F => k_asm); (case X => k_asm); (case T => k_asm); (case hk => exact rfl); (case hdp => ktr_room); (case hun => ktr_units); (case N => k_asm); (case hC => first | with_reducible assumption | (refine calmIn_cons ?_; with_reducible assumption) | (refine calmIn_cons (calmIn_cons ?_); with_reducible assumption) | (refine calmIn_app ?_; with_reducible assumption)); (case hm => first | with_reducible assumption | (refine List.mem_cons_of_mem _ ?_; with_reducible assumption) | (refine List.mem_cons_of_mem _ (List.mem_cons_of_mem _ ?_); with_reducible assumption) | (refine List.mem_append_right _ ?_; with_reducible assumption)); (case hp => first | with_reducible assumption | (apply pairsIn_cons; with_reducible assumption) | (apply pairsIn_cons; apply pairsIn_cons; with_reducible assumption) | (apply pairsIn_app; with_reducible assumption)); (case n1 => with_reducible assumption); (case n2 => with_reducible assumption); (case n3 => with_reducible assumption); (case n4 => with_reducible assumption)); intro hzz tkzz tzz Fzz Nzz))
  trivial
theorem view_ok {wd : World} {mean : ExcName → Option Value} {mg mb : PySem.Str → Option Value} {hd : Option Value} {dp un : Nat} {gd : Option (List Code)} {cn : PySem.Str} {cs : Scope} {a : Addr} {ccd : Value} {cl : List (PySem.Str × Addr)} {outer : List Env} {A₀ : Around} {base h₀ : Heap} {L : Addr} {m : PySem.Str → Option Value} {own : List (Addr × Obj)} {s : Shared}
    {Q E : Value → Shared → Prop} {x d e t : Nat} {fl : Array Value} {ms so : PySem.Str} {tm ts k1 k2 k3 : Nat}
    (B : Below A₀ base outer h₀) (F : Fr h₀ L s.heap m) (X : (lawTop.heap_39 wd.params).In h₀)
    (T : Top lawTop.view_39 LO mean mg mb h₀) (hk : cs.kind = .function) (hdp : dp + 100 < recursionLimit) (hun : un + 1000 < cLine)
    (N : News h₀ L s.heap own) (h0 : fl[0]? = some (.ref t)) (hx : (x, excF d fl) ∈ own) (hd' : (d, fdict wd.params k1 k2 k3 ms so tm ts e) ∈ own)
    (h : ∀ (V : Nat) h' tk t1, Fr h₀ L h' m → News h₀ L h' ((V, W.listOf [Value.str ms tm, .str so ts, .ref t, .ref e, .str ms t1].toArray 0) :: own) → (∀ p ∈ own, p.1 < V) → Q (.ref V) { s with heap := h', toks := tk }) :
    wpAny (model PySem.Challenge.rw_dn0008_01.row.prog wd) (kT hd dp un gd cn cs L a ccd cl outer) (call (.ref 205) [.ref x]) Q E s := by
  revert X; k_fill; intro X; w_top off
  refine wpAny_call ?_
  k_dflt ktr_enter
  k_steps
  (rename Fr _ _ _ _ => F12)
  (rename News _ _ _ _ => N12)
  (rename (∀ p ∈ own, p.1 < _) => lo9)
  exact h _ _ _ _ F12 N12 lo9
theorem due_ok {wd : World} {mean : ExcName → Option Value} {mg mb : PySem.Str → Option Value} {hd : Option Value} {dp un : Nat} {gd : Option (List Code)} {cn : PySem.Str} {cs : Scope} {a : Addr} {ccd : Value} {cl : List (PySem.Str × Addr)} {outer : List Env} {A₀ : Around} {base h₀ : Heap} {L : Addr} {m : PySem.Str → Option Value} {own : List (Addr × Obj)} {s : Shared}
    {Q E : Value → Shared → Prop} {k tk0 e : Nat} {ev : List Value} {en : Nat} {ps : List (Int × PySem.Str)}
    (B : Below A₀ base outer h₀) (F : Fr h₀ L s.heap m) (X : (lawTop.heap_39 wd.params).In h₀)
    (T : Top lawTop.view_39 LO mean mg mb h₀) (hk : cs.kind = .function) (hdp : dp + 200 < recursionLimit) (hun : un + 2000 < cLine)
    (N : News h₀ L s.heap own) (hC : CalmIn hd own) (hm : (e, W.listOf ev.toArray en) ∈ own) (hp : PairsIn own ev ps) (hok : ∀ p ∈ ps, OkPair p) (hlen : ps.length ≤ 63) (hk63 : k ≤ 63)
    (h : ∀ (V U : Nat) h' tk t1 t2 t3 t4, Fr h₀ L h' m → News h₀ L h' ((V, W.listOf [Value.str (msgT (fileT k) ps) t1, .str (fileT k) t2, .ref U, .ref e, .str (msgT (fileT k) ps) t3].toArray 0) :: (U, tupO [.str (fileT k) t4]) :: own) → (∀ p ∈ own, p.1 < V ∧ p.1 < U) → Q (.ref V) { s with heap := h', toks := tk }) :
    wpAny (model PySem.Challenge.rw_dn0008_01.row.prog wd) (kT hd dp un gd cn cs L a ccd cl outer) (call (.ref 212) [.int (k : Int) tk0, .ref e]) Q E s := by
  have hso1 : (PySem.Str.ofString "file " ++ PySem.Str.ofString (toString (k : Int))).length ≤ 20 := (fileT_le hk63).1
  have hso2 : (PySem.reprText (PySem.Str.ofString "file " ++ PySem.Str.ofString (toString (k : Int)))).length ≤ 40 := (fileT_le hk63).2.1
  revert X; k_fill; intro X; w_top off
  refine wpAny_call ?_
  k_dflt ktr_enter
  k_steps
  (rename Fr _ _ _ _ => F12)
  (rename News _ _ _ _ => N12)
  (rename (_ ∧ _ : Prop) => lA)
  (rename (∀ p ∈ own, p.1 < _) => lo9)
  exact h _ _ _ _ _ _ _ _ F12 N12 fun p hp => ⟨allLt_all lA.2 p hp, lo9 p hp⟩
theorem words6 : True := by
  (k_with "call builtin:iter" => (k_here; (with_reducible show wpAny _ _ (call (Value.builtin "iter") [Value.ref _]) _ _ _); k_dflt (refine' x_iter ?F ?N ?m ?_; (case F => k_asm); (case N => k_asm); (case m => first | with_reducible assumption | ((repeat with_reducible refine List.mem_cons_of_mem _ ?_); with_reducible assumption) | k_mem); intro Izz hzz Fzz Nzz l1zz; (try k_lt l1zz))))
  (k_with "exec Raise some none" => (k_here; k_dflt (refine' x_raise ?hh ?F ?X ?_; (case hh => exact rfl); (case F => k_asm); (case X => k_asm))))
  (k_with "KwIn" => (k_here; (with_reducible show KwIn _ _ _ _ _ _ none _ _ _ _ _); k_dflt (refine' kwx_in0 ?F ?X ?I ?hE ?hEf ?hX ?hXf ?_; (case F => k_asm); (case X => k_asm); (case I => k_inst); (case hE => k_is); (case hEf => k_is); (case hX => k_is); (case hXf => k_is); k_whole)))
  (k_with "call builtin:next" => (k_here; (with_reducible show wpAny _ _ (call (Value.builtin "next") [Value.ref _]) _ _ _); k_dflt (first
  | (refine' x_next ?F ?N ?U ?m ?x ?_; (case F => k_asm); (case N => k_asm); (case U => k_updF); (case m => first | with_reducible assumption | ((repeat with_reducible refine List.mem_cons_of_mem _ ?_); with_reducible assumption) | k_mem); (case x => with_reducible assumption); intro hzz Fzz Nzz; (try k_sweep))
  | (refine' x_nextEnd ?hh ?F ?N ?U ?m ?x ?_; (case hh => exact rfl); (case F => k_asm); (case N => k_asm); (case U => k_updF); (case m => first | with_reducible assumption | ((repeat with_reducible refine List.mem_cons_of_mem _ ?_); with_reducible assumption) | k_mem); (case x => exact rfl); intro xzz flzz hzz Fzz Nzz f0zz f1zz f2zz l1zz; (try k_lt l1zz)))))
  (k_with "call builtin:issubclass" => (k_here; (with_reducible show wpAny _ _ (call (Value.builtin "issubclass") [_, _]) _ _ _); k_dflt (first
  | (refine' x_issubF ?F ?X ?N ?m ?_; (case F => k_asm); (case X => k_asm); (case N => k_asm); (case m => k_mem))
  | (refine' x_issubS ?F ?X ?N ?m ?_; (case F => k_asm); (case X => k_asm); (case N => k_asm); (case m => k_mem))
  | (refine' x_issubG ?F ?X ?_; (case F => k_asm); (case X => k_asm)))))
  (k_with "compareOp Is" => (k_here; (with_reducible show wpAny _ _ (compareOp CmpOp.Is (Value.type _) Value.none) _ _ _); refine wpAny_is_other (by rfl) (by intro xzz; cases xzz) ?_))
  trivial
noncomputable abbrev supD (P : Params) (k t : Nat) : Obj := dictOf [ent P "_exceptions" k (.ref t)] 1
theorem exitF_ok {wd : World} {mean : ExcName → Option Value} {mg mb : PySem.Str → Option Value} {hd : Option Value} {dp un : Nat} {gd : Option (List Code)} {cn : PySem.Str} {cs : Scope} {a : Addr} {ccd : Value} {cl : List (PySem.Str × Addr)} {outer : List Env} {A₀ : Around} {base h₀ : Heap} {L : Addr} {m : PySem.Str → Option Value} {own : List (Addr × Obj)} {s : Shared}
    {R : Result → Shared → Prop} {x d t k : Nat} {e tb : Value}
    (B : Below A₀ base outer h₀) (F : Fr h₀ L s.heap m) (X : (lawTop.heap_39 wd.params).In h₀)
    (T : Top lawTop.view_39 LO mean mg mb h₀) (hk : cs.kind = .function) (hdp : dp + 100 < recursionLimit) (hun : un + 1000 < cLine)
    (N : News h₀ L s.heap ((t, tupO [.type "StopIteration"]) :: (x, instObj 142 d) :: (d, supD wd.params k t) :: own))
    (h : ∀ h' tk, Fr h₀ L h' m → News h₀ L h' ((t, tupO [.type "StopIteration"]) :: (x, instObj 142 d) :: (d, supD wd.params k t) :: own) → R (.ok (.ret (.bool false))) { s with heap := h', toks := tk }) :
    codeAny (model PySem.Challenge.rw_dn0008_01.row.prog wd) (kT hd dp un gd cn cs L a ccd cl outer) (.call (.ref 139) ⟨[.ref x, .ref 189, e, tb], []⟩) R s := by
  revert X; k_fill; intro X; w_top off
  k_dflt ktr_enter
  k_steps
  (rename Fr _ _ _ _ => F12)
  (rename News _ _ _ _ => N12)
  exact h _ _ F12 N12
theorem exitS_ok {wd : World} {mean : ExcName → Option Value} {mg mb : PySem.Str → Option Value} {hd : Option Value} {dp un : Nat} {gd : Option (List Code)} {cn : PySem.Str} {cs : Scope} {a : Addr} {ccd : Value} {cl : List (PySem.Str × Addr)} {outer : List Env} {A₀ : Around} {base h₀ : Heap} {L : Addr} {m : PySem.Str → Option Value} {own : List (Addr × Obj)} {s : Shared}
    {R : Result → Shared → Prop} {x d t k : Nat} {e tb : Value}
    (B : Below A₀ base outer h₀) (F : Fr h₀ L s.heap m) (X : (lawTop.heap_39 wd.params).In h₀)
    (T : Top lawTop.view_39 LO mean mg mb h₀) (hk : cs.kind = .function) (hdp : dp + 100 < recursionLimit) (hun : un + 1000 < cLine)
    (N : News h₀ L s.heap ((t, tupO [.type "StopIteration"]) :: (x, instObj 142 d) :: (d, supD wd.params k t) :: own))
    (h : ∀ h' tk, Fr h₀ L h' m → News h₀ L h' ((t, tupO [.type "StopIteration"]) :: (x, instObj 142 d) :: (d, supD wd.params k t) :: own) → R (.ok (.ret (.bool true))) { s with heap := h', toks := tk }) :
    codeAny (model PySem.Challenge.rw_dn0008_01.row.prog wd) (kT hd dp un gd cn cs L a ccd cl outer) (.call (.ref 139) ⟨[.ref x, .type "StopIteration", e, tb], []⟩) R s := by
  revert X; k_fill; intro X; w_top off
  k_dflt ktr_enter
  k_steps
  (rename Fr _ _ _ _ => F12)
  (rename News _ _ _ _ => N12)
  exact h _ _ F12 N12
theorem ra0_ok {wd : World} {mean : ExcName → Option Value} {mg mb : PySem.Str → Option Value} {dp un : Nat} {gd : Option (List Code)} {cn : PySem.Str} {cs : Scope} {a : Addr} {ccd : Value} {cl : List (PySem.Str × Addr)} {A₀ : Around} {base h₀ : Heap} {L : Addr} {m : PySem.Str → Option Value} {own : List (Addr × Obj)} {s : Shared}
    {Q E : Value → Shared → Prop} {e en : Nat}
    (B : Below A₀ base [] h₀) (F : Fr h₀ L s.heap m) (X : (lawTop.heap_39 wd.params).In h₀)
    (T : Top lawTop.view_39 LO mean mg mb h₀) (hk : cs.kind = .function) (hdp : dp + 200 < recursionLimit) (hun : un + 2000 < cLine)
    (N : News h₀ L s.heap own) (hm : (e, W.listOf (List.toArray []) en) ∈ own)
    (h : ∀ h' tk, Fr h₀ L h' m → News h₀ L h' own → Q .none { s with heap := h', toks := tk }) :
    wpAny (model PySem.Challenge.rw_dn0008_01.row.prog wd) (kT none dp un gd cn cs L a ccd cl []) (call (.ref 183) [.ref e]) Q E s := by
  revert X; k_fill; intro X; w_top off
  refine wpAny_call ?_
  k_dflt (refine' code_defW ?k1 ?k2 ?k3 ?k4 ?k5 ?kA ?kF ?kK ?k6 ?k7 ?k8 ?k9 ?kB ?_ ?c2 ?c3 ?c4 ?c5; (case kA => exact rfl); (case kF => exact rfl); (case kK => assumption); (case k1 => k_asm); (case k2 => k_asm); (case k3 => k_asm); (case k4 => k_asm); (case k5 => k_asm); (case k6 => k_is); (case k7 => k_is); (case k8 => ktr_room); (case k9 => exact BindsTo.of_eq rfl); (case c5 => decide); (case kB => exact locs rfl); (case c2 => exact rfl); (case c3 => exact rfl); (case c4 => exact rfl); k_whole; intro g1 L1 h1 FG1 F1 N1 B1 X1 T1; (try dsimp only); (try k_fold))
  k_steps
  (rename News g1 L1 _ _ => N9)
  (rename Fr g1 L1 _ _ => F9)
  (rename (∃ t, _ = some (Value.ref t)) => e0)
  obtain ⟨t0, f0⟩ := e0
  (rename (_ ∧ _ : Prop) => lx)
  refine x_withRaised (oe := { cls := .type "StopIteration", data := .fields #[] }) B1 rfl rfl rfl F9 N9 (by intro p hp; exact Nat.ne_of_lt (allLt_all (by exact lx) p hp)) f0 (by assumption) (by assumption) fun g' h' T2 oT fl' tb a1 a2 a3 a4 a5 a6 => ?_
  have gr := grounded FG1 a1 X T
  dsimp only
  refine exitS_ok a2 a3 gr.1 gr.2 rfl (by ktr_room) (by ktr_units) (news3 a4 (.tail _ (.tail _ (.head _))) (.tail _ (.tail _ (.tail _ (.head _)))) (.tail _ (.tail _ (.tail _ (.tail _ (.head _)))))) fun h2 tk2 F2 N2 => ?_
  refine ⟨true, rfl, ?_⟩
  rw [if_pos rfl]
  refine x_flightN F2 (newsTail3 N2) a6 a5 fun h3 oT' F3 N3 b3 => ?_
  dsimp only
  k_steps
  have bk := w_back FG1 a1 F3 N3
  exact h _ _ bk.1 (newsSub bk.2 fun p hp => .tail _ (.tail _ (.tail _ (.tail _ (.tail _ (.tail _ hp))))))
theorem words7 : True := by
  (k_with "assign Tuple" => (k_here; (with_reducible show wpAny _ _ (assign (PySem.Expr.Tuple _ _ _) _ (Value.ref _)) _ _ _); k_dflt (refine' x_unpack ?F ?N ?hh ?C ?m ?k1 ?k2 ?_; (case F => k_asm); (case N => k_asm); (case hh => exact rfl); (case C => exact .inl rfl); (case m => ((repeat with_reducible refine List.mem_cons_of_mem _ ?_); with_reducible assumption)); (case k1 => exact rfl); (case k2 => exact rfl)); intro hzz Fzz Nzz; (try k_sweep)))
  (k_with "call builtin:str.join" => (k_here; (with_reducible show wpAny _ _ (call (Value.builtin "str.join") [_, Value.ref _]) _ _ _); k_dflt (refine SC.join (News.isList (by k_asm) (by k_mem)) (by with_reducible assumption) (by with_reducible assumption) ?_); intro tzz kzz))
  trivial
theorem off_rows {own own' : Ledger} {x d e M It Fa : Nat} {o : Obj} (O : OwnOff own [x, d, e, M]) (hF : (Fa, o) ∈ own) (hown : ∀ p ∈ own', p.1 = It ∨ p.1 = Fa) (n1 : @Ne Nat x It) (n2 : @Ne Nat d It) (n3 : @Ne Nat e It) (m : It < M) : OwnOff (own' ++ own) [x, d, e, M] := fun q hq b hb => by
  rcases List.mem_append.mp hq with hq | hq
  · rcases hown q hq with z | z
    · rw [z]
      simp only [List.mem_cons, List.not_mem_nil, or_false] at hb
      rcases hb with rfl | rfl | rfl | rfl
      · exact n1.symm
      · exact n2.symm
      · exact n3.symm
      · exact Nat.ne_of_lt m
    · rw [z]
      exact O _ hF b hb
  · exact O q hq b hb
theorem combine_ok {wd : World} {mean : ExcName → Option Value} {mg mb : PySem.Str → Option Value} {dp un : Nat} {gd : Option (List Code)} {cn : PySem.Str} {cs : Scope} {a : Addr} {ccd : Value} {cl : List (PySem.Str × Addr)} {outer : List Env} {A₀ : Around} {base h₀ : Heap} {L : Addr} {m : PySem.Str → Option Value} {own : List (Addr × Obj)} {s : Shared}
    {Q E : Value → Shared → Prop} {x d e It Fa fn : Nat} {fl : Array Value} {so : PySem.Str} {tm ts k1 k2 k3 en : Nat} {ev vs : List Value} {ps0 : List (Int × PySem.Str)} {rs : List FT}
    (B : Below A₀ base outer h₀) (F : Fr h₀ L s.heap m) (X : (lawTop.heap_39 wd.params).In h₀)
    (T : Top lawTop.view_39 LO mean mg mb h₀) (hk : cs.kind = .function) (hdp : dp + 200 < recursionLimit) (hun : un + 2000 < cLine)
    (N : News h₀ L s.heap ((x, excF d fl) :: (d, fdict wd.params k1 k2 k3 (msgT so ps0) so tm ts e) :: (e, listOf ev.toArray en) :: (It, itO Fa 1) :: own))
    (O : OwnOff own [x, d, e, It]) (nd : List.Nodup [x, d, e, It]) (hF : (Fa, W.listOf vs.toArray fn) ∈ own) (hvs : vs = .ref x :: rs.map fun f => Value.ref f.x)
    (hr : ∀ f ∈ rs, FaultIn wd.params own f) (hok : ∀ f ∈ rs, ∀ p ∈ f.ps, OkPair p) (hp0 : PairsIn own ev ps0)
    (htot : ps0.length + (rs.map fun f => f.ps.length).sum ≤ 63) (hms : (msgT so ps0).length ≤ 5000)
    (h : ∀ nx' h' tk tm' ev' en', Fr h₀ L h' m → News h₀ L h' ((x, excF d fl) :: (d, fdict wd.params k1 k2 k3 (msgT so (ps0 ++ rs.flatMap (·.ps))) so tm' ts e) :: (e, listOf (List.toArray ev') en') :: nx') → (∀ p ∈ own, p ∈ nx') → PairsIn nx' ev' (ps0 ++ rs.flatMap (·.ps)) → OwnOff nx' [x, d, e] → Q (.ref x) { s with heap := h', toks := tk }) :
    wpAny (model PySem.Challenge.rw_dn0008_01.row.prog wd) (kT none dp un gd cn cs L a ccd cl outer) (call (.ref 176) [.ref x, .ref It]) Q E s := by
  obtain ⟨⟨n1, n2, n3⟩, ⟨n4, n5⟩, n6⟩ : (@Ne Nat x d ∧ @Ne Nat x e ∧ @Ne Nat x It) ∧ (@Ne Nat d e ∧ @Ne Nat d It) ∧ @Ne Nat e It := by
    simp only [List.nodup_cons, List.mem_cons, List.not_mem_nil, or_false, not_or, List.nodup_nil, and_true, not_false_eq_true] at nd
    exact ⟨nd.1, nd.2.1, nd.2.2⟩
  revert X; k_fill; intro X; w_top off
  refine wpAny_call ?_
  k_dflt ktr_enter
  iterate 13 (first | (k_unfold; (try dsimp only)) | (k_end; wrow_close) | walk1 | (dsimp only; walk1))
  (rename Fr _ _ _ _ => lF')
  (rename News _ _ _ _ => lN')
  (rename (_ ∧ _ : Prop) => lM)
  refine name_head lN' fun M eM => ?_
  subst eM
  obtain ⟨m1, m2, m3, m4, m5⟩ := lM
  k_dflt (refine For_turns lF' ?_)
  walk1
  refine' iter_iterG (fun i m nx => m (PySem.Str.ofString "self") = some (.ref x) ∧ m (PySem.Str.ofString "messages") = some (.ref M) ∧ CombS wd.params own x d e M fl k1 k2 k3 (msgT so ps0) so tm ts (ps0 ++ (rs.take i).flatMap (·.ps)) (msgT so ps0 :: lns ((rs.take i).flatMap (·.ps))) nx) rfl lF' (out5 lN') (.tail _ (.tail _ (.tail _ (.tail _ hF)))) (by rw [hvs]; simp) ?off ⟨by with_unfolding_all rfl, by with_unfolding_all rfl, ?start⟩ ?turn ?done
  case start =>
    simp only [List.take_zero, List.flatMap_nil, List.append_nil, List.map_nil]
    exact ⟨.tail _ (.head _), .tail _ (.tail _ (.head _)), fun p hp => .tail _ (.tail _ (.tail _ (.tail _ hp))), ⟨ev, en, .tail _ (.tail _ (.tail _ (.head _))), hp0.mono fun _ _ hm => .tail _ (.tail _ (.tail _ (.tail _ hm)))⟩, ⟨[(msgT so ps0, tm)], 0, .head _, rfl⟩⟩
  case off =>
    intro p hp
    simp only [List.mem_cons] at hp
    rcases hp with rfl | rfl | rfl | rfl | hp
    · exact Nat.ne_of_gt m4
    · exact n3
    · exact n5
    · exact n6
    · exact O p hp It (by simp)
  case done =>
    intro m₁ nx h₁ tk₁ hJ F₁ N₁
    refine gen_QE fun Qx Ex hQx hEx => ?_
    obtain ⟨hs, hme, S⟩ := hJ
    have hl : vs.length - 1 = rs.length := by rw [hvs]; simp
    rw [hl, List.take_length] at S
    obtain ⟨ev2, en2, he2, hp2⟩ := S.er
    obtain ⟨l2, mn2, hM2, hl2⟩ := S.me
    have FN := Func.of N₁
    have em := fau2 hs hme
    rw [em] at F₁
    clear em
    have mem : ∀ p ∈ [(x, excF d fl), (d, fdict wd.params k1 k2 k3 (msgT so ps0) so tm ts e), (e, W.listOf (List.toArray ev2) en2), (M, W.listOf (List.toArray (strValues l2)) mn2)], p ∈ nx := by
      simp only [List.mem_cons, List.not_mem_nil, or_false, forall_eq_or_imp, forall_eq]
      exact ⟨S.hx, S.hd, he2, hM2⟩
    obtain ⟨rest, erest, offR, N10⟩ := split_led (own := []) N₁ (fun p hp => by simpa using hp) mem
    have hp3 : PairsIn rest ev2 (ps0 ++ rs.flatMap (·.ps)) := hp2.mono fun a vs h => erest ▸ tup_rest FN mem (by simp) h
    simp only [List.map_cons, List.map_nil] at erest offR
    simp only [List.cons_append, List.nil_append] at N10
    clear N₁ lN' lF'
    have hjo := join_ok hms (flat_ok hok) (by rw [flat_all]; omega)
    have m1' : @Ne Nat x M := Nat.ne_of_lt m1
    have m2' : @Ne Nat d M := Nat.ne_of_lt m2
    have m3' : @Ne Nat e M := Nat.ne_of_lt m3
    subst hQx hEx
    k_steps
    (rename Fr h₀ _ _ _ => F12)
    (rename News h₀ _ _ _ => N12)
    rw [join_msg] at N12
    have O' := off_own O m5
    exact h ((M, _) :: rest) _ _ _ _ _ F12 N12 (fun p hp => .tail _ (erest ▸ mem_restOf (List.mem_append_left _ (S.keep p hp)) fun hc => O' p hp _ hc rfl)) (pairsIn_cons hp3) (off_head offR m1' m2' m3')
  intro i v m₁ nx h₁ tk₁ own' hv hJ hnI hown hIo F₁ N₁
  refine gen_QE fun Qx Ex hQx hEx => ?_
  obtain ⟨hs, hme, S⟩ := hJ
  obtain ⟨f, hf, rfl⟩ := rs_get hvs hv
  have em := fau2 hs hme
  rw [em] at F₁
  clear em
  obtain ⟨flf, g1, g2, g3, gm, gs, gs', gn, evf, q0, q1, q2, q3, q4, q5⟩ := hr f (List.mem_of_getElem? hf)
  have up : ∀ p ∈ own, p ∈ own' ++ nx := fun p hp => List.mem_append_right _ (S.keep p hp)
  have N₂ : News _ _ _ ((f.x, excF f.d flf) :: (f.d, fdict wd.params g1 g2 g3 (msgT f.so f.ps) f.so gm gs f.e) :: (own' ++ nx)) := newsSub N₁ (List.forall_mem_cons.mpr ⟨up _ q1, List.forall_mem_cons.mpr ⟨up _ q2, fun _ hp => hp⟩⟩)
  clear lN' lF' N₁
  subst hQx hEx
  iterate 4 (first | (k_unfold; (try dsimp only)) | (k_end; wrow_close) | walk1 | (dsimp only; walk1))
  (rename Fr _ _ _ _ => lF2)
  (rename News _ _ _ _ => lN2)
  k_dflt (refine For_turns lF2 ?_)
  iterate 3 walk1
  obtain ⟨ev1, en1, he1, hp1⟩ := S.er
  obtain ⟨l1, mn1, hM1, hl1⟩ := S.me
  obtain ⟨oI, hIm, hIc⟩ := hIo
  have O' := off_own O m5
  refine' iter_listN (fun j m nx2 => m (PySem.Str.ofString "self") = some (.ref x) ∧ m (PySem.Str.ofString "messages") = some (.ref M) ∧ CombS wd.params (own' ++ own) x d e M fl k1 k2 k3 (msgT so ps0) so tm ts (ps0 ++ ((rs.take i).flatMap (·.ps) ++ f.ps.take j)) (msgT so ps0 :: lns ((rs.take i).flatMap (·.ps) ++ f.ps.take j)) nx2) rfl lF2 lN2 (.tail _ (.tail _ (up _ q4))) ⟨by with_unfolding_all rfl, by with_unfolding_all rfl, ?start2⟩ ?turn2 ?done2
  case start2 =>
    simp only [List.take_zero, List.append_nil]
    have lift : ∀ p ∈ nx, p ∈ (f.x, excF f.d flf) :: (f.d, fdict wd.params g1 g2 g3 (msgT f.so f.ps) f.so gm gs f.e) :: (own' ++ nx) := fun p hp => .tail _ (.tail _ (List.mem_append_right _ hp))
    refine ⟨lift _ S.hx, lift _ S.hd, fun p hp => ?_, ⟨ev1, en1, lift _ he1, hp1.mono fun _ _ hm => lift _ hm⟩, ⟨l1, mn1, lift _ hM1, hl1⟩⟩
    rcases List.mem_append.mp hp with hp | hp
    · exact .tail _ (.tail _ (List.mem_append_left _ hp))
    · exact lift _ (S.keep p hp)
  case done2 =>
    intro m₂ nx2 h₂ tk₂ hJ2 F₂ N2
    refine gen_QE fun Qx Ex hQx hEx => ?_
    obtain ⟨hs2, hme2, S2⟩ := hJ2
    rw [q5.length, List.take_length, ← flat_next hf] at S2
    clear lN2 lF2
    subst hQx hEx
    k_steps
    have hI2 := S2.keep _ (List.mem_append_left _ hIm)
    refine ⟨h₂, tk₂, m₂, restOf nx2 [It], rfl, F₂, newsSub N2 fun p hp => ?_, fun p hp => ?_, hs2, hme2, (S2.own_sub fun p hp => List.mem_append_right _ hp).drop (Func.of N2) ⟨oI, hI2, hIc⟩ ?_ fun p hp => O p hp It (by simp)⟩
    · rcases List.mem_append.mp hp with hp | hp
      · exact S2.keep _ (List.mem_append_left _ hp)
      · exact restOf_sub hp
    · exact restOf_off _ _ p hp It (by simp)
    · simp only [List.mem_cons, List.not_mem_nil, or_false, not_or]
      exact ⟨fun q => n3 q.symm, fun q => n5 q.symm, fun q => n6 q.symm, Nat.ne_of_lt m4⟩
  intro I2 j v2 m₂ nx2 h₂ tk₂ own2 hlt hv2 hJ2 hnI2 hown2 hIo2 F₂ N2
  refine gen_QE fun Qx Ex hQx hEx => ?_
  obtain ⟨hs2, hme2, S2⟩ := hJ2
  obtain ⟨p, ap, t1, t2, hpj, rfl, hmem⟩ := q5.get hv2
  obtain ⟨ev2, en2, he2, hp2⟩ := S2.er
  obtain ⟨l2, mn2, hM2, hl2⟩ := S2.me
  have FN := Func.of N2
  have FN' : Func nx2 := Func.of (newsSub N2 fun p hp => List.mem_append_right _ hp)
  have em := fau2 hs2 hme2
  rw [em] at F₂
  clear em lN2 lF2
  have mem : ∀ p ∈ [(x, excF d fl), (d, fdict wd.params k1 k2 k3 (msgT so ps0) so tm ts e), (e, W.listOf (List.toArray ev2) en2), (M, W.listOf (List.toArray (strValues l2)) mn2)], p ∈ nx2 := by
    simp only [List.mem_cons, List.not_mem_nil, or_false, forall_eq_or_imp, forall_eq]
    exact ⟨S2.hx, S2.hd, he2, hM2⟩
  obtain ⟨rest, erest, offR, N10⟩ := split_led (own := own2) N2 (fun p hp => by
    rcases List.mem_append.mp hp with hp | hp
    · exact List.mem_append_right _ hp
    · exact List.mem_append_left _ hp) mem
  have hmem2 : (ap, tupO [.int p.1 t1, .str p.2 t2]) ∈ rest := erest ▸ tup_rest FN' mem (by simp) (S2.keep _ (List.mem_append_right _ hmem))
  simp only [List.map_cons, List.map_nil] at erest offR
  simp only [List.cons_append, List.nil_append] at N10
  have lft : ∀ q ∈ nx, q.1 < I2 := fun q hq => hlt q (.tail _ (.tail _ (List.mem_append_right _ hq)))
  have ownR : ∀ q ∈ own2, q.1 ∉ [x, d, e, M] := fun q hq => by
    rcases hown2 q hq with z | z
    · rw [z]
      simp only [List.mem_cons, List.not_mem_nil, or_false, not_or]
      exact ⟨Nat.ne_of_gt (lft _ S.hx), Nat.ne_of_gt (lft _ S.hd), Nat.ne_of_gt (lft _ he1), Nat.ne_of_gt (lft _ hM1)⟩
    · rw [z]
      exact fun hc => O' _ q4 _ hc rfl
  have offO : OwnOff (own' ++ own) [x, d, e, M] := off_rows O' hF hown n3 n5 n6 m4
  have okp := hok f (List.mem_of_getElem? hf) p (List.mem_of_getElem? hpj)
  have hrp := okp.rp
  have hno1 := okp.lo
  have hno2 := okp.hi
  have hlen : (ps0 ++ ((rs.take i).flatMap (·.ps) ++ f.ps.take j)).length ≤ 63 := by
    have z1 := flat_len rs i
    have z2 : f.ps.length ≤ ((rs.drop i).map fun f => f.ps.length).sum := by
      rw [List.drop_eq_getElem_cons (List.getElem?_eq_some_iff.mp hf).1, (List.getElem?_eq_some_iff.mp hf).2]
      simp
    have z3 : (f.ps.take j).length ≤ f.ps.length := by rw [List.length_take]; exact Nat.min_le_right _ _
    simp only [List.length_append]
    omega
  have hev : ev2.length ≤ 100 := by rw [hp2.length]; omega
  have hlv : (strValues l2).length ≤ 100 := by
    have z : l2.length = (l2.map (·.1)).length := by simp
    simp only [strValues, List.length_map]
    rw [z, hl2]
    simp only [List.length_append, List.length_cons, List.length_map] at hlen ⊢
    omega
  obtain ⟨r1, r2, r3⟩ : @Ne Nat x M ∧ @Ne Nat d M ∧ @Ne Nat e M := ⟨Nat.ne_of_lt m1, Nat.ne_of_lt m2, Nat.ne_of_lt m3⟩
  clear N2
  subst hQx hEx
  k_steps
  (rename News _ _ _ _ => N12)
  (rename Fr _ _ _ _ => F12)
  simp only [List.push_toArray] at N12
  (rename (_ ∧ _ : Prop) => lD)
  obtain ⟨-, -, -, -, lD⟩ := lD
  have tk1 : f.ps.take (j + 1) = f.ps.take j ++ [p] := by rw [List.take_add_one, hpj]; rfl
  rw [tk1]
  refine end_row (ex := [_, _, _, _, _]) F12 N12 erest hnI2 hIo2 ownR ?hx ⟨by with_unfolding_all rfl, by with_unfolding_all rfl, ?hJ⟩
  case hx =>
    iterate 5 (first | (refine hx_out lD ?_) | (refine hx_in (by k_mem) ?_))
    exact hx_nil
  case hJ =>
    have e1 : ps0 ++ ((rs.take i).flatMap (·.ps) ++ (f.ps.take j ++ [p])) = (ps0 ++ ((rs.take i).flatMap (·.ps) ++ f.ps.take j)) ++ [(p.1, p.2)] := by simp only [List.append_assoc]
    have e2 : msgT so ps0 :: lns ((rs.take i).flatMap (·.ps) ++ (f.ps.take j ++ [p])) = (msgT so ps0 :: lns ((rs.take i).flatMap (·.ps) ++ f.ps.take j)) ++ [lineT p.1 p.2] := by simp only [lns, List.map_append, List.map_cons, List.map_nil, List.cons_append, List.append_assoc]
    rw [e1, e2]
    exact S2.step FN' offO he2 hp2 hM2 hl2 (n := p.1) (li := p.2) (fun p hp => List.mem_append_right _ hp) (List.mem_append_left _ (.tail _ (.head _))) (List.mem_append_left _ (.tail _ (.tail _ (.head _)))) (List.mem_append_left _ (.tail _ (.tail _ (.tail _ (.head _))))) (List.mem_append_left _ (.tail _ (.tail _ (.tail _ (.tail _ (.head _)))))) (List.mem_append_left _ (.head _)) rfl
theorem nd4 {a b c d : Nat} (h1 : @Ne Nat a b) (h2 : @Ne Nat a c) (h3 : @Ne Nat a d) (h4 : @Ne Nat b c) (h5 : @Ne Nat b d) (h6 : @Ne Nat c d) : List.Nodup [a, b, c, d] := by
  simp only [List.nodup_cons, List.mem_cons, List.not_mem_nil, or_false, not_or, List.nodup_nil, and_true, not_false_eq_true]
  exact ⟨⟨h1, h2, h3⟩, ⟨h4, h5⟩, h6⟩
theorem off_sup {own : Ledger} {x d e I D X d' : Nat} {o1 o2 o3 : Obj} (O : OwnOff own [x, d, e]) (lI : x < I ∧ d < I ∧ e < I ∧ AllLt I own) (l1 : I < d') (l2 : d' < X) (l3 : X < D) : OwnOff ((D, o1) :: (X, o2) :: (d', o3) :: own) [x, d, e, I] := fun p hp b hb => by
  have far : b ≤ I := by
    simp only [List.mem_cons, List.not_mem_nil, or_false] at hb
    rcases hb with rfl | rfl | rfl | rfl
    · exact Nat.le_of_lt lI.1
    · exact Nat.le_of_lt lI.2.1
    · exact Nat.le_of_lt lI.2.2.1
    · exact Nat.le_refl _
  have h1 := Nat.lt_of_le_of_lt far l1
  rcases List.mem_cons.mp hp with rfl | hp
  · exact Nat.ne_of_gt (Nat.lt_trans h1 (Nat.lt_trans l2 l3))
  rcases List.mem_cons.mp hp with rfl | hp
  · exact Nat.ne_of_gt (Nat.lt_trans h1 l2)
  rcases List.mem_cons.mp hp with rfl | hp
  · exact Nat.ne_of_gt h1
  rcases (show b ∈ [x, d, e] ∨ b = I by simpa [or_assoc] using hb) with q | rfl
  · exact O p hp b q
  · exact Nat.ne_of_lt (allLt_all lI.2.2.2 p hp)
theorem ra2_ok {wd : World} {mean : ExcName → Option Value} {mg mb : PySem.Str → Option Value} {dp un : Nat} {gd : Option (List Code)} {cn : PySem.Str} {cs : Scope} {a : Addr} {ccd : Value} {cl : List (PySem.Str × Addr)} {A₀ : Around} {base h₀ : Heap} {L : Addr} {m : PySem.Str → Option Value} {own : List (Addr × Obj)} {s : Shared}
    {Q E : Value → Shared → Prop} {x d e t Fa fn : Nat} {so : PySem.Str} {tm ts k1 k2 k3 en : Nat} {ev vs : List Value} {ps0 : List (Int × PySem.Str)} {rs : List FT}
    (B : Below A₀ base [] h₀) (F : Fr h₀ L s.heap m) (X : (lawTop.heap_39 wd.params).In h₀)
    (T : Top lawTop.view_39 LO mean mg mb h₀) (hk : cs.kind = .function) (hdp : dp + 400 < recursionLimit) (hun : un + 4000 < cLine)
    (N : News h₀ L s.heap ((x, excF d (exFl t)) :: (d, fdict wd.params k1 k2 k3 (msgT so ps0) so tm ts e) :: (e, listOf ev.toArray en) :: own))
    (O : OwnOff own [x, d, e]) (n1 : @Ne Nat x d) (n2 : @Ne Nat x e) (n3 : @Ne Nat d e) (hF : (Fa, W.listOf vs.toArray fn) ∈ own) (hvs : vs = .ref x :: rs.map fun f => Value.ref f.x)
    (hr : ∀ f ∈ rs, FaultIn wd.params own f) (hok : ∀ f ∈ rs, ∀ p ∈ f.ps, OkPair p) (hp0 : PairsIn own ev ps0)
    (htot : ps0.length + (rs.map fun f => f.ps.length).sum ≤ 63) (hms : (msgT so ps0).length ≤ 5000)
    (h : ∀ nx' h' tk tm' ev' en' T' oT fl', Fr h₀ L h' m → News h₀ L h' ((x, excF d fl') :: (T', oT) :: (d, fdict wd.params k1 k2 k3 (msgT so (ps0 ++ rs.flatMap (·.ps))) so tm' ts e) :: (e, listOf (List.toArray ev') en') :: nx') → Bears (excF d #[]) (.ref t) .none x T' fl' oT → (∀ p ∈ own, p ∈ nx') → PairsIn nx' ev' (ps0 ++ rs.flatMap (·.ps)) → OwnOff nx' [x, d, e] →
      ((@Ne Nat d T') ∧ (@Ne Nat e T') ∧ ∀ p ∈ nx', p.1 ≠ T') → E (.ref x) { s with heap := h', toks := tk }) :
    wpAny (model PySem.Challenge.rw_dn0008_01.row.prog wd) (kT none dp un gd cn cs L a ccd cl []) (call (.ref 183) [.ref Fa]) Q E s := by
  have hv0 : vs[0]? = some (.ref x) := by rw [hvs]; rfl
  revert X; k_fill; intro X; w_top off
  refine wpAny_call ?_
  k_dflt (refine' code_defW ?k1 ?k2 ?k3 ?k4 ?k5 ?kA ?kF ?kK ?k6 ?k7 ?k8 ?k9 ?kB ?_ ?c2 ?c3 ?c4 ?c5; (case kA => exact rfl); (case kF => exact rfl); (case kK => assumption); (case k1 => k_asm); (case k2 => k_asm); (case k3 => k_asm); (case k4 => k_asm); (case k5 => k_asm); (case k6 => k_is); (case k7 => k_is); (case k8 => ktr_room); (case k9 => exact BindsTo.of_eq rfl); (case c5 => decide); (case kB => exact locs rfl); (case c2 => exact rfl); (case c3 => exact rfl); (case c4 => exact rfl); k_whole; intro g1 L1 h1 FG1 F1 N1 B1 X1 T1; (try dsimp only); (try k_fold))
  iterate 53 (first | (k_unfold; (try dsimp only)) | (k_end; wrow_close) | walk1 | (dsimp only; walk1))
  (rename News g1 L1 _ _ => N9)
  (rename Fr g1 L1 _ _ => F9)
  (rename (@LT.lt Nat _ x _ ∧ @LT.lt Nat _ d _ ∧ @LT.lt Nat _ e _ ∧ AllLt _ own) => lI)
  (rename (_ ∧ _ : Prop) => l3)
  revert l3
  (rename (_ ∧ _ : Prop) => l1)
  intro l3
  (rename (@LT.lt Nat _ _ _) => l2)
  refine combine_ok B1 F9 X1 T1 rfl (by ktr_room) (by ktr_units) (reord7 N9) ?O ?nd (.tail _ (.tail _ (.tail _ hF))) hvs (fun f hf => (hr f hf).mono fun p hp => .tail _ (.tail _ (.tail _ hp))) hok (hp0.mono fun _ _ hm => .tail _ (.tail _ (.tail _ hm))) htot hms ?_
  case O => exact off_sup O lI l1.1 l2 l3.1
  case nd => exact nd4 n1 n2 (Nat.ne_of_lt lI.1) n3 (Nat.ne_of_lt lI.2.1) (Nat.ne_of_lt lI.2.2.1)
  intro nx' h2 tk2 tm' ev' en' F2 N2 up hp2 off2
  refine ⟨x, _, _, _, _, rfl, F2, InstAt.of_newsE N2 (.head _) (.tail _ (.head _)), rfl, rfl, ?_⟩
  refine x_withRaised (oe := excF d #[]) B1 rfl rfl rfl F2 N2 ?off rfl rfl rfl fun g' h3 T2 oT fl' tb a1 a2 a3 a4 a5 a6 => ?_
  case off =>
    intro p hp
    simp only [List.mem_cons] at hp
    rcases hp with rfl | rfl | hp
    · exact n1.symm
    · exact n2.symm
    · exact off2 p hp x (by simp)
  have gr := grounded FG1 a1 X T
  dsimp only
  refine exitF_ok a2 a3 gr.1 gr.2 rfl (by ktr_room) (by ktr_units) (news3 a4 (.tail _ (.tail _ (.tail _ (.tail _ (up _ (.head _)))))) (.tail _ (.tail _ (.tail _ (.tail _ (up _ (.tail _ (.head _))))))) (.tail _ (.tail _ (.tail _ (.tail _ (up _ (.tail _ (.tail _ (.head _))))))))) fun h4 tk4 F4 N4 => ?_
  refine ⟨false, rfl, ?_⟩
  rw [if_neg (by decide)]
  refine x_passN rfl F4 (newsTail3 N4) a6 a5 fun h5 oT5 F5 N5 b5 => ?_
  refine x_leavingN rfl F5 N5 a6 b5 fun h6 oT6 F6 N6 b6 => ?_
  have bk := w_back FG1 a1 F6 N6
  exact h _ _ _ _ _ _ _ _ _ bk.1 bk.2 b6 (fun p hp => up p (.tail _ (.tail _ (.tail _ hp)))) hp2 off2 ⟨a6 _ (.head _), a6 _ (.tail _ (.head _)), fun p hp => a6 p (.tail _ (.tail _ hp))⟩
section
open PyProof.Rows.LCg
abbrev sc1 : Scope := { kind := .function, names := [(PySem.Str.ofString ".0", .local), (PySem.Str.ofString "fault", .local), (PySem.Str.ofString "_law_view", .globalImplicit)], isGenerator := false, isCoroutine := false }
theorem perm4 {h₀ h : Heap} {L : Addr} {v a b c : Addr × Obj} {l : Ledger} (N : News h₀ L h (v :: a :: b :: c :: l)) : News h₀ L h (a :: b :: c :: v :: l) := newsSub N fun p hp => by
  simp only [List.mem_cons] at hp ⊢
  rcases hp with hp | hp | hp | hp | hp <;> simp [hp]
theorem perm5 {h₀ h : Heap} {L : Addr} {u v a b c : Addr × Obj} {l : Ledger} (N : News h₀ L h (u :: v :: a :: b :: c :: l)) : News h₀ L h (a :: b :: c :: u :: v :: l) := newsSub N fun p hp => by
  simp only [List.mem_cons] at hp ⊢
  rcases hp with hp | hp | hp | hp | hp | hp <;> simp [hp]
theorem views_turn {wd : World} {mean : ExcName → Option Value} {mg mb : PySem.Str → Option Value} {hd : Option Value} {dp un : Nat} {gd : Option (List Code)} {cn : PySem.Str} {cs : Scope} {a : Addr} {ccd : Value} {cl : List (PySem.Str × Addr)} {outer : List Env} {A₀ : Around} {base h₀ : Heap} {L : Addr} {m : PySem.Str → Option Value} {own : List (Addr × Obj)} {s : Shared}
    {fs : List FT} {vs : List Value} {p1 p2 p3 : Pos}
    (B : Below A₀ base outer h₀) (X : (lawTop.heap_39 wd.params).In h₀)
    (T : Top lawTop.view_39 LO mean mg mb h₀) (hk : cs.kind = .function) (hdp : dp + 200 < recursionLimit) (hun : un + 2000 < cLine)
    (hvs : vs = fs.map fun f => Value.ref f.x) (hf : ∀ f ∈ fs, FaultIn wd.params own f) :
    CompTurn PySem.Challenge.rw_dn0008_01.row.prog wd (kT hd dp un gd cn cs L a ccd cl outer) h₀ L m (envX cn cs L a ccd cl) (.Call (.Name (PySem.Str.ofString "_law_view") p1) [.Name (PySem.Str.ofString "fault") p2] [] p3) (PySem.Str.ofString "fault") sc1 [] own (fun i v => vs[i]? = some v) (ViewJ fs) vs.length s := by
  intro i v ys nw I oI C oC D m₂ h tk E' hi hP hJ hS hn hm F N off ne
  subst hvs
  rw [List.getElem?_map] at hP
  cases hfi : fs[i]? with
  | none => rw [hfi] at hP; cases hP
  | some f =>
    rw [hfi] at hP
    cases hP
    obtain ⟨fl, k1, k2, k3, tm, ts, h0, h1, h2, vd⟩ := view_dat (hf f (List.mem_of_getElem? hfi))
    revert X; k_fill; intro X; w_top off
    iterate 8 (first | (k_unfold; (try dsimp only)) | (k_end; wrow_close) | walk1 | (dsimp only; walk1))
    refine view_ok B F X T hk (by omega) (by omega) N h0 (.tail _ (.tail _ (.tail _ (hS _ h1)))) (.tail _ (.tail _ (.tail _ (hS _ h2)))) fun V h' tk' t1 F' N' lt => ?_
    have lI := lt (I, oI) (.head _)
    have lC := lt (C, oC) (.tail _ (.head _))
    have lD := lt (D, lst ys) (.tail _ (.tail _ (.head _)))
    exact ⟨h', tk', (V, _) :: nw, rfl, F', perm4 N', ⟨⟨Nat.ne_of_gt lI, Nat.ne_of_gt lC, Nat.ne_of_gt lD⟩, off⟩, fun p hp => .tail _ (hS p hp), hJ.succ (fun p hp => .tail _ hp) hfi (vd _ _ _ (fun p hp => .tail _ (hS p hp)) (.head _))⟩
end
theorem words8 : True := by
  (k_with "subscriptTail" => (k_here; (with_reducible show wpAny _ _ (subscriptTail _ _ (Value.ref _) (Value.int _ _)) _ _ _); k_dflt (refine' x_at ?k1 ?k2 ?k3 ?k4 ?k5 ?_ ?k7; (case k1 => k_asm); (case k2 => k_mem); (case k3 => with_reducible assumption); (case k4 => with_reducible assumption); (case k5 => with_reducible assumption); (case k7 => with_unfolding_all rfl))))
  trivial
section
open PyProof.Rows.LCg
abbrev sc2 : Scope := { kind := .function, names := [(PySem.Str.ofString ".0", .local), (PySem.Str.ofString "k", .local), (PySem.Str.ofString "_law_due", .globalImplicit), (PySem.Str.ofString "told", .free)], isGenerator := false, isCoroutine := false }
theorem dues_turn {wd : World} {mean : ExcName → Option Value} {mg mb : PySem.Str → Option Value} {hd : Option Value} {dp un : Nat} {gd : Option (List Code)} {cn : PySem.Str} {cs : Scope} {a : Addr} {ccd : Value} {cl : List (PySem.Str × Addr)} {outer : List Env} {A₀ : Around} {base h₀ : Heap} {L : Addr} {m : PySem.Str → Option Value} {own : List (Addr × Obj)} {s : Shared}
    {fs : List FT} {us : List Value} {p1 p2 p3 p4 p5 p6 : Pos} {c Ta tn : Nat} {oc : Obj}
    (B : Below A₀ base outer h₀) (X : (lawTop.heap_39 wd.params).In h₀)
    (T : Top lawTop.view_39 LO mean mg mb h₀) (hk : cs.kind = .function) (hdp : dp + 400 < recursionLimit) (hun : un + 4000 < cLine)
    (hC : CalmIn hd own) (hus : us = fs.map fun f => Value.ref f.u) (ht : ∀ f ∈ fs, ToldIn own f) (hc : (c, oc) ∈ own) (hoc : oc.data = .cell (some (.ref Ta))) (hT : (Ta, W.listOf us.toArray tn) ∈ own)
    (hfile : ∀ k f, fs[k]? = some f → f.so = fileT k) (hok : ∀ f ∈ fs, ∀ p ∈ f.ps, OkPair p) (hps : ∀ f ∈ fs, f.ps.length ≤ 63) (hn : fs.length ≤ 63)
    (hkd : ∀ C, (compEnvC sc2 [(PySem.Str.ofString "told", c)] C (envX cn cs L a ccd cl)).kindOf (PySem.Str.ofString "told") = some .cell) :
    CompTurn PySem.Challenge.rw_dn0008_01.row.prog wd (kT hd dp un gd cn cs L a ccd cl outer) h₀ L m (envX cn cs L a ccd cl) (.Call (.Name (PySem.Str.ofString "_law_due") p1) [.Name (PySem.Str.ofString "k") p2, .Subscript (.Name (PySem.Str.ofString "told") p3) (.Name (PySem.Str.ofString "k") p4) p5] [] p6) (PySem.Str.ofString "k") sc2 [(PySem.Str.ofString "told", c)] own (fun i v => ∃ t, v = .int ((0 : Int) + (i : Int)) t) (ViewJ fs) fs.length s := by
  intro i v ys nw I oI C oC D m₂ h tk E' hi hP hJ hS hnn hm F N off ne
  obtain ⟨t, rfl⟩ := hP
  rw [Int.zero_add] at hm
  have hfi : fs[i]? = some fs[i] := List.getElem?_eq_getElem hi
  generalize fs[i] = f at hfi
  have hff := List.mem_of_getElem? hfi
  obtain ⟨un', uv, hu, hpu⟩ := ht f hff
  have N2 : News h₀ L h ((c, oc) :: (Ta, W.listOf us.toArray tn) :: (I, oI) :: (C, oC) :: (D, lst ys) :: nw) := newsSub N (List.forall_mem_cons.mpr ⟨.tail _ (.tail _ (.tail _ (hS _ hc))), List.forall_mem_cons.mpr ⟨.tail _ (.tail _ (.tail _ (hS _ hT))), fun _ hp => hp⟩⟩)
  have hk1 : us[((i : Int)).toNat]? = some (.ref f.u) := by rw [hus, Int.toNat_natCast, List.getElem?_map, hfi]; rfl
  have hk2 : (0 : Int) ≤ (i : Int) := Int.natCast_nonneg i
  have hk3 : (i : Int) ≤ 100 := by omega
  revert X; k_fill; intro X; w_top off
  iterate 8 (first | (k_unfold; (try dsimp only)) | (k_end; wrow_close) | walk1 | (dsimp only; walk1))
  refine lcf_cell (c := c) (o := oc) (v := .ref Ta) N2 (by rfl) (.head _) hoc ?_ (by rfl) (hkd C)
  iterate 4 (first | (k_unfold; (try dsimp only)) | (k_end; wrow_close) | walk1 | (dsimp only; walk1))
  have up : ∀ p ∈ own, p ∈ (I, oI) :: (C, oC) :: (D, lst ys) :: nw := fun p hp => .tail _ (.tail _ (.tail _ (hS p hp)))
  refine due_ok B F X T hk (by omega) (by omega) N (hC.mono fun _ _ _ hm => up _ hm) (up _ hu) (hpu.mono fun _ _ hm => up _ hm) (hok f hff) (hps f hff) (by omega) fun V U h' tk' t1 t2 t3 t4 F' N' lt => ?_
  have lI := lt (I, oI) (.head _)
  have lC := lt (C, oC) (.tail _ (.head _))
  have lD := lt (D, lst ys) (.tail _ (.tail _ (.head _)))
  have hd : DatIn ((V, W.listOf [Value.str (msgT (fileT i) f.ps) t1, .str (fileT i) t2, .ref U, .ref f.u, .str (msgT (fileT i) f.ps) t3].toArray 0) :: (U, tupO [.str (fileT i) t4]) :: nw) (.ref V) (viewD (fileT i) f.ps) := due_dat (.head _) (.tail _ (.head _)) (.tail _ (.tail _ (hS _ hu))) (hpu.mono fun _ _ hm => .tail _ (.tail _ (hS _ hm)))
  rw [← hfile i f hfi] at hd
  refine ⟨h', tk', (V, _) :: (U, _) :: nw, rfl, F', perm5 N', ⟨⟨Nat.ne_of_gt lI.1, Nat.ne_of_gt lC.1, Nat.ne_of_gt lD.1⟩, ⟨Nat.ne_of_gt lI.2, Nat.ne_of_gt lC.2, Nat.ne_of_gt lD.2⟩, off⟩, fun p hp => .tail _ (.tail _ (hS p hp)), hJ.succ (fun p hp => .tail _ (.tail _ hp)) hfi ?_⟩
  rw [hfile i f hfi] at hd ⊢
  exact hd
end
theorem words9 : True := by
  k_with_none
  (k_with "zz k_inst" => (refine' Mine.InstAt.of_newsE ?N ?h1 ?h2; (case N => k_asm); (case h1 => k_mem); (case h2 => k_mem)))
  (k_with "zz k_inst" => (refine' Mine.InstAt.of_newsE0 ?N ?h1; (case N => k_asm); (case h1 => k_mem)))
  (k_with "getAttr ref" => (k_here; k_dflt (refine' x_own ?k1 ?k2 ?k3 ?k4 ?k5 ?k6 ?k7 ?_; (case k1 => k_asm); (case k2 => k_asm); (case k3 => k_inst); (case k4 => k_is); (case k5 => k_is); (case k6 => k_get); (case k7 => k_handed); k_whole)))
  (k_with "getAttr ref" => (k_here; (with_reducible show wpAny _ _ (getAttr (Value.ref _) (PySem.Str.ofString "args") _) _ _ _); k_dflt (refine' x_args ?k1 ?k2 ?k3 ?k4 ?k5 ?_; (case k1 => k_asm); (case k2 => k_asm); (case k3 => k_inst); (case k4 => exact rfl); (case k5 => first | exact rfl | assumption); k_whole)))
  (k_with "getMethod ref" => (k_here; k_dflt (refine' x_method ?k1 ?k2 ?k3 ?k4 ?k5 ?k6 ?_; (case k1 => k_asm); (case k2 => k_asm); (case k3 => k_inst); (case k4 => k_is); (case k5 => k_is); (case k6 => k_get); k_whole)))
  (k_with "setAttr ref" => (k_here; k_dflt (refine' x_set ?k1 ?k2 ?k3 ?k4 ?k5 ?k6 ?k7 ?k8 ?k9 ?k10 ?_; (case k1 => k_asm); (case k2 => k_asm); (case k3 => k_asm); (case k4 => k_inst); (case k5 => exact rfl); (case k6 => k_is); (case k7 => k_get); (case k8 => k_put); (case k9 => k_upd); (case k10 => exact Nat.le_of_ble_eq_true rfl); k_whole; intro hzz Fzz Nzz; (try k_sweep))))
  (k_with "setAttr ref" => (k_here; k_dflt (refine' x_new ?k1 ?k2 ?k3 ?k4 ?k5 ?k6 ?_; (case k1 => k_asm); (case k2 => k_asm); (case k3 => k_asm); (case k4 => k_inst); (case k5 => k_is); (case k6 => (intro dzz; k_upd)); k_whole; intro dzz hzz Fzz Nzz l1zz; (try k_lt l1zz); (try k_sweep))))
  (k_with "setAttr ref" => (k_here; (with_reducible show wpAny _ _ (setAttr (Value.ref _) (PySem.Str.ofString "args") _) _ _ _); k_dflt (refine' x_setArgs ?k1 ?k2 ?k3 ?k4 ?k5 ?k6 ?_; (case k1 => k_asm); (case k2 => k_asm); (case k3 => k_asm); (case k4 => k_inst); (case k5 => k_mem); (case k6 => k_upd); k_whole; intro hzz Fzz Nzz; (try k_sweep))))
  (k_with "call builtin:Exception.__init__" => (k_here; k_dflt (refine' x_excInit ?k1 ?k2 ?k3 ?k4 ?_; (case k1 => k_asm); (case k2 => k_asm); (case k3 => k_asm); (case k4 => (intro t1zz; k_upd)); k_whole; intro tzz hzz Fzz Nzz l1zz; (try k_lt l1zz); (try k_sweep))))
  (k_with "formatField int" => (k_here; (with_reducible show wpAny _ _ (formatField (Value.int _ _) (PySem.Str.ofString "2d")) _ _ _); k_dflt (refine' x_fmt ?k1 ?k2 ?k3 ?k4 ?_; (case k1 => k_asm); (case k2 => k_asm); (case k3 => k_asm); (case k4 => k_asm); intro hpadLezz)))
  (k_with "call ref" => (k_here; (with_reducible show wpAny _ _ (call (Value.ref 189) _) _ _ _); k_dflt (refine' x_call ?k1 ?k2 ?k3 ?k4 ?_; (case k1 => k_asm); (case k2 => k_asm); (case k3 => k_asm); (case k4 => exact Nat.le_of_ble_eq_true rfl); intro xzz tzz hzz Fzz Nzz l1zz l2zz; (try k_lt l1zz); (try k_lt2 l2zz); (refine' super_rest ?k1 ?k2 ?k3 ?k4 ?k5 ?kA ?kF ?kK ?k6 ?k7 ?k8 ?kV ?kP ?kG ?kB ?_ ?c1 ?c2 ?c3 ?c4; (case kA => exact rfl); (case kF => exact rfl); (case kK => first | exact rfl | assumption); (case k1 => k_asm); (case k2 => k_asm); (case k3 => k_asm); (case k4 => k_asm); (case k5 => k_asm); (case k6 => k_is); (case k7 => k_is); (case k8 => first | k_room | ktr_room); (case kV => kl_lit); (case kP => exact rfl); (case kG => exact fun _ => rfl); (case kB => exact fun _ => locs rfl); (case c1 => decide); (case c2 => exact rfl); (case c3 => exact rfl); (case c4 => exact rfl); intro Dzz gzz Lzz hzz l1zz FGzz Fzz Nzz Bzz Xzz Tzz; (try k_lt l1zz); (try dsimp only); (try k_lift Bzz)))))
  (k_with "getMethod type:Exception" => (k_here; refine' method_type ?F ?X ?m (by decide +kernel) ?e ?h ?_; (case F => k_asm); (case X => k_asm); (case m => exact meta_exc); (case e => k_dflt k_is); (case h => k_handed)))
  (k_with "zz k_room" => ktr_room)
  (k_with "zz k_units" => ktr_units)
  (k_with "zz k_all" => exact offLt (by assumption) (by omega))
  (k_with "eval Call Attribute" => (k_here; (with_reducible show wpAny _ _ (eval (PySem.Expr.Call (PySem.Expr.Attribute _ _ _) [PySem.Expr.Starred _ _] _ _) _) _ _ _); refine methodCall_star ?_))
  (k_with "callWith ref" => (k_here; (with_reducible show wpAny _ _ (callWith _ (Value.ref _) [] (backTo _ (starEach [PySem.Expr.Starred _ _] _)) []) _ _ _); k_dflt (refine' callWith_SM ?k1 ?k2 ?k3 ?k4 ?_; (case k1 => k_asm); (case k2 => k_asm); (case k3 => k_mem); (case k4 => k_is); k_whole)))
  (k_with "getAttr ref" => (k_here; k_dflt (refine' x_bound ?k1 ?k2 ?k3 ?k4 ?k5 ?k6 ?k7 ?k8 ?k9 ?k10 ?_; (case k1 => k_asm); (case k2 => k_asm); (case k3 => k_asm); (case k4 => k_inst); (case k5 => k_is); (case k6 => k_is); (case k7 => k_is); (case k8 => k_is); (case k9 => decide +kernel); (case k10 => k_get); k_whole); intro qzz hzz Fzz Nzz l1zz; (try k_lt l1zz); (try k_sweep)))
  (k_with "zz k_ne" => (refine neN ?_; (try dsimp only); first | with_reducible assumption | exact Ne.symm (by with_reducible assumption) | exact ne_r (by with_reducible assumption) | exact ne_s (by with_reducible assumption) | exact ne_p0 (by with_reducible assumption) | exact ne_q0 (by with_reducible assumption) | exact ne_p1 (by with_reducible assumption) | exact ne_q1 (by with_reducible assumption) | exact ne_p2 (by with_reducible assumption) | exact ne_q2 (by with_reducible assumption) | exact ne_p3 (by with_reducible assumption) | exact ne_q3 (by with_reducible assumption) | exact ne_p4 (by with_reducible assumption) | exact ne_q4 (by with_reducible assumption) | exact ne_p5 (by with_reducible assumption) | exact ne_q5 (by with_reducible assumption) | exact ne_p6 (by with_reducible assumption) | exact ne_q6 (by with_reducible assumption) | exact ne_p7 (by with_reducible assumption) | exact ne_q7 (by with_reducible assumption) | exact ne_p8 (by with_reducible assumption) | exact ne_q8 (by with_reducible assumption) | exact ne_p9 (by with_reducible assumption) | exact ne_q9 (by with_reducible assumption) | exact ne_p10 (by with_reducible assumption) | exact ne_q10 (by with_reducible assumption) | exact ne_p11 (by with_reducible assumption) | exact ne_q11 (by with_reducible assumption) | exact ne_p12 (by with_reducible assumption) | exact ne_q12 (by with_reducible assumption) | exact ne_p13 (by with_reducible assumption) | exact ne_q13 (by with_reducible assumption) | exact ne_p14 (by with_reducible assumption) | exact ne_q14 (by with_reducible assumption)))
  (k_with "storeName" => (fin_once zzNorm (refine norm_s (by dsimp only) ?_; walk1)))
  (k_with "newList" => (fin_once zzNorm (refine norm_s (by dsimp only) ?_; walk1)))
  (k_with "newTuple" => (fin_once zzNorm (refine norm_s (by dsimp only) ?_; walk1)))
  (k_with "call ref" => (fin_once zzNorm (refine norm_s (by dsimp only) ?_; walk1)))
  (k_with "call builtin:list.append" => (fin_once zzNorm (refine norm_s (by dsimp only) ?_; walk1)))
  (k_with "binaryOp" => (fin_once zzNorm (refine norm_s (by dsimp only) ?_; walk1)))
  (k_with "ite" => (fin_once zzNorm (refine norm_s (by dsimp only) ?_; walk1)))
  (k_with "setAttr ref" => (fin_once zzNorm (refine norm_s (by dsimp only) ?_; walk1)))
  (k_with "inplaceOp" => (fin_once zzNorm (refine norm_s (by dsimp only) ?_; walk1)))
  (k_with "subscriptTail" => (k_here; (with_reducible show wpAny _ _ (subscriptTail _ _ (Value.ref _) (Value.int _ _)) _ _ _); k_dflt (refine' x_line ?k1 ?k2 ?k3 ?k4 ?k5 ?k6 ?_ ?k7; (case k1 => k_asm); (case k2 => k_mem); (case k3 => exact lines6); (case k4 => exact fm_lo _ (by decide)); (case k5 => exact fm_six _); (case k6 => exact fm_fit _); (case k7 => with_unfolding_all rfl)); intro lizz tzz hrzz hozz hkzz))
  (k_with "subscriptTail" => (k_here; (with_reducible show wpAny _ _ (subscriptTail _ _ (Value.ref _) (Value.int (-1) _)) _ _ _); k_dflt (refine' x_last ?k1 ?k2 ?k3 ?_ ?k7; (case k1 => k_asm); (case k2 => k_mem); (case k3 => omega); (case k7 => with_unfolding_all rfl))))
  (k_with "call builtin:len" => (k_here; (with_reducible show wpAny _ _ (call (Value.builtin "len") [Value.ref _]) _ _ _); k_dflt (refine' x_len ?k1 ?k2 ?k3 ?_; (case k1 => k_asm); (case k2 => k_mem); (case k3 => first | omega | (simp only [List.length_append, List.length_cons, List.length_nil]; omega)))))
  (k_with "assign Tuple" => (k_here; (with_reducible show wpAny _ _ (assign (PySem.Expr.Tuple _ _ _) _ (Value.ref _)) _ _ _); k_dflt (refine' x_unpack ?F ?N ?hh ?C ?m ?k1 ?k2 ?_; (case F => k_asm); (case N => k_asm); (case hh => exact rfl); (case C => exact calmIn_app (by assumption)); (case m => exact List.mem_append_right _ (by assumption)); (case k1 => exact rfl); (case k2 => exact rfl)); intro hzz Fzz Nzz; (try k_sweep)))
  (k_with "call ref" => (k_here; (with_reducible show wpAny _ _ (call (Value.ref 198) _) _ _ _); k_dflt (refine' words_ok ?B ?F ?X ?T ?hk ?hdp ?hun ?N ?hC ?hm ?hp ?n1 ?n2 ?n3 ?n4 ?_; (case B => k_asm); (case F => k_asm); (case X => k_asm); (case T => k_asm); (case hk => exact rfl); (case hdp => ktr_room); (case hun => ktr_units); (case N => k_asm); (case hC => first | with_reducible assumption | (refine calmIn_cons ?_; with_reducible assumption) | (refine calmIn_cons (calmIn_cons ?_); with_reducible assumption) | (refine calmIn_app ?_; with_reducible assumption)); (case hm => first | with_reducible assumption | (refine List.mem_cons_of_mem _ ?_; with_reducible assumption) | (refine List.mem_cons_of_mem _ (List.mem_cons_of_mem _ ?_); with_reducible assumption) | (refine List.mem_append_right _ ?_; with_reducible assumption)); (case hp => first | with_reducible assumption | (apply pairsIn_cons; with_reducible assumption) | (apply pairsIn_cons; apply pairsIn_cons; with_reducible assumption) | (apply pairsIn_app; with_reducible assumption)); (case n1 => with_reducible assumption); (case n2 => with_reducible assumption); (case n3 => with_reducible assumption); (case n4 => with_reducible assumption)); intro hzz tkzz tzz Fzz Nzz))
  (k_with "call builtin:iter" => (k_here; (with_reducible show wpAny _ _ (call (Value.builtin "iter") [Value.ref _]) _ _ _); k_dflt (refine' x_iter ?F ?N ?m ?_; (case F => k_asm); (case N => k_asm); (case m => first | with_reducible assumption | ((repeat with_reducible refine List.mem_cons_of_mem _ ?_); with_reducible assumption) | k_mem); intro Izz hzz Fzz Nzz l1zz; (try k_lt l1zz))))
  (k_with "exec Raise some none" => (k_here; k_dflt (refine' x_raise ?hh ?F ?X ?_; (case hh => exact rfl); (case F => k_asm); (case X => k_asm))))
  (k_with "KwIn" => (k_here; (with_reducible show KwIn _ _ _ _ _ _ none _ _ _ _ _); k_dflt (refine' kwx_in0 ?F ?X ?I ?hE ?hEf ?hX ?hXf ?_; (case F => k_asm); (case X => k_asm); (case I => k_inst); (case hE => k_is); (case hEf => k_is); (case hX => k_is); (case hXf => k_is); k_whole)))
  (k_with "call builtin:next" => (k_here; (with_reducible show wpAny _ _ (call (Value.builtin "next") [Value.ref _]) _ _ _); k_dflt (first
  | (refine' x_next ?F ?N ?U ?m ?x ?_; (case F => k_asm); (case N => k_asm); (case U => k_updF); (case m => first | with_reducible assumption | ((repeat with_reducible refine List.mem_cons_of_mem _ ?_); with_reducible assumption) | k_mem); (case x => with_reducible assumption); intro hzz Fzz Nzz; (try k_sweep))
  | (refine' x_nextEnd ?hh ?F ?N ?U ?m ?x ?_; (case hh => exact rfl); (case F => k_asm); (case N => k_asm); (case U => k_updF); (case m => first | with_reducible assumption | ((repeat with_reducible refine List.mem_cons_of_mem _ ?_); with_reducible assumption) | k_mem); (case x => exact rfl); intro xzz flzz hzz Fzz Nzz f0zz f1zz f2zz l1zz; (try k_lt l1zz)))))
  (k_with "call builtin:issubclass" => (k_here; (with_reducible show wpAny _ _ (call (Value.builtin "issubclass") [_, _]) _ _ _); k_dflt (first
  | (refine' x_issubF ?F ?X ?N ?m ?_; (case F => k_asm); (case X => k_asm); (case N => k_asm); (case m => k_mem))
  | (refine' x_issubS ?F ?X ?N ?m ?_; (case F => k_asm); (case X => k_asm); (case N => k_asm); (case m => k_mem))
  | (refine' x_issubG ?F ?X ?_; (case F => k_asm); (case X => k_asm)))))
  (k_with "compareOp Is" => (k_here; (with_reducible show wpAny _ _ (compareOp CmpOp.Is (Value.type _) Value.none) _ _ _); refine wpAny_is_other (by rfl) (by intro xzz; cases xzz) ?_))
  (k_with "assign Tuple" => (k_here; (with_reducible show wpAny _ _ (assign (PySem.Expr.Tuple _ _ _) _ (Value.ref _)) _ _ _); k_dflt (refine' x_unpack ?F ?N ?hh ?C ?m ?k1 ?k2 ?_; (case F => k_asm); (case N => k_asm); (case hh => exact rfl); (case C => exact .inl rfl); (case m => ((repeat with_reducible refine List.mem_cons_of_mem _ ?_); with_reducible assumption)); (case k1 => exact rfl); (case k2 => exact rfl)); intro hzz Fzz Nzz; (try k_sweep)))
  (k_with "call builtin:str.join" => (k_here; (with_reducible show wpAny _ _ (call (Value.builtin "str.join") [_, Value.ref _]) _ _ _); k_dflt (refine SC.join (News.isList (by k_asm) (by k_mem)) (by with_reducible assumption) (by with_reducible assumption) ?_); intro tzz kzz))
  trivial
theorem words10 : True := by
  (k_with "call ref" => (k_here; (with_reducible show wpAny _ _ (call (Value.ref 169) _) _ _ _); k_dflt (refine' append_ok ?B ?F ?X ?T ?hk ?hdp ?hun ?N ?O ?n1 ?n2 ?n3 ?l1 ?l2 ?l3 ?l4 ?l5 ?_; (case B => k_asm); (case F => k_asm); (case X => k_asm); (case T => k_asm); (case hk => exact rfl); (case hdp => exact Nat.le_of_ble_eq_true rfl); (case hun => exact Nat.le_of_ble_eq_true rfl); (case N => k_asm); (case O => exact own_off (by assumption) (by assumption)); (case n1 => with_reducible assumption); (case n2 => with_reducible assumption); (case n3 => with_reducible assumption); (case l1 => with_reducible assumption); (case l2 => with_reducible assumption); (case l3 => with_reducible assumption); (case l4 => exact no_lo _); (case l5 => exact no_hi _)); intro Dzz hzz tkzz tmzz Fzz Nzz l1zz; (try simp only [AllLt, and_true] at l1zz)))
  (k_with "call ref" => (k_here; (with_reducible show wpAny _ _ (call (Value.ref 189) [_, _, _]) _ _ _); k_dflt (refine' mk3_ok ?B ?F ?X ?T ?hk ?hdp ?hun ?N ?n1 ?n2 ?l3 ?l4 ?l5 ?_; (case B => k_asm); (case F => k_asm); (case X => k_asm); (case T => k_asm); (case hk => exact rfl); (case hdp => exact Nat.le_of_ble_eq_true rfl); (case hun => exact Nat.le_of_ble_eq_true rfl); (case N => k_asm); (case n1 => with_reducible assumption); (case n2 => with_reducible assumption); (case l3 => with_reducible assumption); (case l4 => exact no_lo _); (case l5 => exact no_hi _)); intro bzz xzz dzz tzz ezz Dzz hzz tkzz tmzz tszz k1zz k2zz k3zz Fzz Nzz l1zz l2zz; (have g1zz := allLt_mono (allLt_of l1zz) l2zz.1); (have g2zz := allLt_mono (allLt_of l1zz) l2zz.2.1); (have g3zz := allLt_mono (allLt_of l1zz) l2zz.2.2.1); (have g4zz := allLt_mono (allLt_of l1zz) l2zz.2.2.2.1); (have g5zz := allLt_mono (allLt_of l1zz) l2zz.2.2.2.2); (simp only [AllLt, and_true] at g1zz g2zz g3zz g4zz g5zz); (revert l2zz; intro l2zz); (try k_lt l1zz)))
  (k_with "call ref" => (k_here; (with_reducible show wpAny _ _ (call (Value.ref 189) [_]) _ _ _); k_dflt (refine' mk1_ok ?B ?F ?X ?T ?hk ?hdp ?hun ?N ?n1 ?n2 ?_; (case B => k_asm); (case F => k_asm); (case X => k_asm); (case T => k_asm); (case hk => exact rfl); (case hdp => exact Nat.le_of_ble_eq_true rfl); (case hun => exact Nat.le_of_ble_eq_true rfl); (case N => k_asm); (case n1 => with_reducible assumption); (case n2 => with_reducible assumption)); intro bzz xzz dzz tzz ezz hzz tkzz tmzz tszz k1zz k2zz k3zz Fzz Nzz l1zz l2zz; (have g1zz := allLt_mono (allLt_of l1zz) l2zz.1); (have g2zz := allLt_mono (allLt_of l1zz) l2zz.2.1); (have g3zz := allLt_mono (allLt_of l1zz) l2zz.2.2.1); (have g4zz := allLt_mono (allLt_of l1zz) l2zz.2.2.2); (simp only [AllLt, and_true] at g1zz g2zz g3zz g4zz); (revert l2zz; intro l2zz); (try k_lt l1zz)))
  trivial
theorem words11 : True := by
  (k_with "subscriptTail" => (k_here; (with_reducible show wpAny _ _ (subscriptTail _ _ (Value.ref _) (Value.int 0 _)) _ _ _); k_dflt (refine' x_at ?k1 ?k2 ?k3 ?k4 ?k5 ?_ ?k7; (case k1 => k_asm); (case k2 => k_mem); (case k3 => exact rfl); (case k4 => decide); (case k5 => decide); (case k7 => with_unfolding_all rfl))))
  trivial
section
theorem with_tail {P : Prop} {T : Nat → Prop} (main : (∀ t, T t) → P) (tail : ∀ t, T t) : P := main tail
theorem law_holds : PySem.Challenge.rw_dn0008_01.Holds := lawTop (by
  k_go0
  (all_goals try k_fold)
  iterate 16 (first | (k_unfold; (try dsimp only)) | (k_end; wrow_close) | walk1 | (dsimp only; walk1))
  (rename Fr _ _ _ _ => lF')
  (rename News _ _ _ _ => lN')
  refine name_two lN' fun Ta Fa eT eF => ?_
  subst eT eF
  rename World => wd
  rename (_ ∧ _ : Prop) => lT
  rename Shared => s₁
  with_unfolding_all refine' tb_invG (fun i m nx => JJ wd.params _ _ _ i m nx) (by rfl) (by assumption) (by assumption) lF' lN' (JJ.start (by rfl) (by assumption) lT.1) ?turn ?done
  case turn =>
    intro i n t m₁ nx h tk own hn hoff hJ F₁ N₁
    obtain ⟨hfau, ⟨oc, hcell, hoc⟩, fs, hS⟩ := hJ
    have em := fau_ext hfau
    rw [em] at F₁
    have hi63 : i ≤ 63 := by have := (List.getElem?_eq_some_iff.mp hn).1; omega
    refine gen_QE fun Qx Ex hQx hEx => ?_
    iterate 22 (first | (k_unfold; (try dsimp only)) | (k_end; wrow_close) | walk1 | (dsimp only; walk1))
    refine gen_toks fun _ => ?_
    iterate 22 (first | (k_unfold; (try dsimp only)) | (k_end; wrow_close) | walk1 | (dsimp only; walk1))
    refine gen_toks fun _ => ?_
    (rename News _ _ _ _ => N9)
    have FN : Func nx := Func.of (newsSub N₁ fun p hp => List.mem_append_left _ hp)
    clear em
    rcases Classical.em (n.fmod 3 = 1 ∧ fs ≠ []) with hm1 | hm1
    · obtain ⟨hm1, hne⟩ := hm1
      rcases List.eq_nil_or_concat fs with rfl | ⟨gs, f, rfl⟩
      · exact absurd rfl hne
      · rw [List.concat_eq_append] at hS
        obtain ⟨fl, k1, k2, k3, tm, ts, ts', en, ev, un, uv, fn, vs, tn, us, h0, h3, evs, eus, hE, hU, mem, nd⟩ := open_append hS FN hcell hoc
        have hlen := hS.count
        simp only [List.length_append, List.length_cons, List.length_nil] at hlen
        have hvs : vs.length ≤ 64 := by rw [evs, List.length_map]; omega
        have hus : us.length ≤ 64 := by rw [eus, List.length_map]; omega
        have htot := hS.total
        simp only [List.map_append, List.sum_append, List.map_cons, List.map_nil, List.sum_cons, List.sum_nil] at htot
        have hes : ev.length ≤ 100 := by rw [hE.length]; omega
        have hut : uv.length ≤ 100 := by rw [hU.length]; omega
        have hso := hS.file gs.length f (by simp)
        have hms : (msgT f.so f.ps).length ≤ 100000 := Nat.le_trans (msgT_fit (hS.okp f (by simp)) (hso ▸ (fileT_le (by omega)).2.1) (by omega)) (by decide)
        obtain ⟨q1, q2, q3, q4, q5, q6, q7, q8, q9, q10, q11, q12, q13, q14, q15, q16, q17, q18, q19, q20, q21⟩ := ne7 nd
        obtain ⟨rest, erest, offR, N10⟩ := split_led (own := own) N9 (fun p hp => .tail _ hp) mem
        simp only [List.map_cons, List.map_nil] at erest offR
        simp only [List.cons_append, List.nil_append] at N10
        clear N9
        iterate 12 (first | (k_unfold; (try dsimp only)) | (k_end; wrow_close) | walk1 | (dsimp only; walk1))
        all_goals try (exact absurd hm1 (by assumption))
        refine gen_toks fun _ => ?_
        iterate 28 (first | (k_unfold; (try dsimp only)) | (k_end; wrow_close) | walk1 | (dsimp only; walk1))
        all_goals try (exfalso; rename (¬ (@LT.lt Int _ _ _)) => hz; simp only [List.length_append, List.length_cons, List.length_nil] at hz; omega)
        refine gen_toks fun _ => ?_
        iterate 15 (first | (k_unfold; (try dsimp only)) | (k_end; wrow_close) | walk1 | (dsimp only; walk1))
        refine gen_toks fun _ => ?_
        iterate 15 (first | (k_unfold; (try dsimp only)) | (k_end; wrow_close) | walk1 | (dsimp only; walk1))
        subst hQx
        iterate 1 (first | (k_unfold; (try dsimp only)) | (k_end; wrow_close) | walk1 | (dsimp only; walk1))
        (rename News _ _ _ _ => N12)
        (rename Fr _ _ _ _ => F12)
        simp only [List.push_toArray] at N12
        (rename (_ ∧ _ : Prop) => lA9)
        revert lA9
        (rename (_ ∧ _ : Prop) => lB9)
        intro lA9
        refine end_of (ex := [_, _, _, _, _, _, _, _, _]) F12 N12 erest hoff (mem_addr mem) ?hx ?hJ
        case hx =>
          iterate 9 (first | (refine hx_out lA9.2.2.2.2.2.2.2.2 ?_) | (refine hx_out lB9.2.2.2.2.2.2.2 ?_) | (refine hx_in (by k_mem) ?_))
          exact hx_nil
        case hJ =>
          refine' close_append hS FN hoc h0 h3 hE hU mem nd ?hp (by with_unfolding_all rfl) (fun p hp => List.mem_append_right _ hp) ?b1 ?b2 ?b3 ?b4 ?b5 ?b6 ?b7 ?b8 ?b9
          case b3 => exact List.mem_append_left _ (.tail _ (.tail _ (.tail _ (.tail _ (.head _)))))
          case b4 => exact List.mem_append_left _ (.tail _ (.tail _ (.tail _ (.tail _ (.tail _ (.head _))))))
          case b8 => exact List.mem_append_left _ (.tail _ (.head _))
          case b9 => exact List.mem_append_left _ (.head _)
          case b1 => exact List.mem_append_left _ (.tail _ (.tail _ (.head _)))
          case b2 => exact List.mem_append_left _ (.tail _ (.tail _ (.tail _ (.head _))))
          case b5 => exact List.mem_append_left _ (.tail _ (.tail _ (.tail _ (.tail _ (.tail _ (.tail _ (.head _)))))))
          case b6 => exact List.mem_append_left _ (.tail _ (.tail _ (.tail _ (.tail _ (.tail _ (.tail _ (.tail _ (.head _))))))))
          case b7 => exact List.mem_append_left _ (.tail _ (.tail _ (.tail _ (.tail _ (.tail _ (.tail _ (.tail _ (.tail _ (.head _)))))))))
          case hp => exact ⟨no_lo _, no_hi _, by assumption, by assumption, by assumption⟩
    · obtain ⟨fn, vs, tn, us, evs, eus, mem, nd⟩ := open_new hS FN hcell hoc
      have hlen := hS.count
      have hvs : vs.length ≤ 63 := by rw [evs, List.length_map]; omega
      have hus : us.length ≤ 63 := by rw [eus, List.length_map]; omega
      obtain ⟨q1, q2, q3⟩ := ne3 nd
      obtain ⟨rest, erest, offR, N10⟩ := split_led (own := own) N9 (fun p hp => .tail _ hp) mem
      simp only [List.map_cons, List.map_nil] at erest offR
      simp only [List.cons_append, List.nil_append] at N10
      have hso1 : (PySem.Str.ofString "file " ++ PySem.Str.ofString (toString (vs.length : Int))).length ≤ 20 := (fileT_le hvs).1
      have hso2 : (PySem.reprText (PySem.Str.ofString "file " ++ PySem.Str.ofString (toString (vs.length : Int)))).length ≤ 40 := (fileT_le hvs).2.1
      clear N9
      refine' with_tail ?main ?tail
      case main =>
        intro key
        iterate 12 (first | (k_unfold; (try dsimp only)) | (k_end; wrow_close) | walk1 | (dsimp only; walk1))
        · have hv0 : vs.length = 0 := by
            rw [evs, List.length_map]
            rcases fs with _ | ⟨f, r⟩
            · rfl
            · exact absurd ⟨by assumption, by simp⟩ hm1
          iterate 14 (first | (k_unfold; (try dsimp only)) | (k_end; wrow_close) | walk1 | (dsimp only; walk1))
          refine gen_toks fun tk9 => ?_
          exact key tk9
        · iterate 1 (first | (k_unfold; (try dsimp only)) | (k_end; wrow_close) | walk1 | (dsimp only; walk1))
          refine gen_toks fun tk9 => ?_
          exact key tk9
      intro tk9
      iterate 12 (first | (k_unfold; (try dsimp only)) | (k_end; wrow_close) | walk1 | (dsimp only; walk1))
      · refine gen_toks fun _ => ?_
        iterate 24 (first | (k_unfold; (try dsimp only)) | (k_end; wrow_close) | walk1 | (dsimp only; walk1))
        refine gen_toks fun _ => ?_
        iterate 25 (first | (k_unfold; (try dsimp only)) | (k_end; wrow_close) | walk1 | (dsimp only; walk1))
        subst hQx
        iterate 1 (first | (k_unfold; (try dsimp only)) | (k_end; wrow_close) | walk1 | (dsimp only; walk1))
        (rename News _ _ _ _ => N12)
        (rename Fr _ _ _ _ => F12)
        simp only [List.push_toArray] at N12
        (rename (_ ∧ _ : Prop) => lU9)
        revert lU9
        (rename (_ ∧ _ : Prop) => lB9)
        revert lB9
        (rename (_ ∧ _ : Prop) => lC9)
        intro lB9 lU9
        have m1 := allLt_mono lB9.2.2.2 lC9.1
        have m2 := allLt_mono lB9.2.2.2 lC9.2.1
        have m3 := allLt_mono lB9.2.2.2 lC9.2.2.1
        have m4 := allLt_mono lB9.2.2.2 lC9.2.2.2
        refine end_of (ex := [_, _, _, _, _, _, _, _]) F12 N12 erest hoff (mem_addr mem) ?hx ?hJ
        case hx =>
          iterate 8 (first | (refine hx_out lU9.2.2.2.2.2.2.2 ?_) | (refine hx_out m1 ?_) | (refine hx_out m2 ?_) | (refine hx_out m3 ?_) | (refine hx_out m4 ?_) | (refine hx_in (by k_mem) ?_))
          exact hx_nil
        case hJ =>
          exact close_new (f := ⟨_, _, _, _, _, fileT vs.length, []⟩) hS FN hoc evs eus mem (by with_unfolding_all rfl) (fun p hp => List.mem_append_right _ hp) (List.mem_append_left _ ((.tail _ (.tail _ (.tail _ (.tail _ (.tail _ (.head _)))))))) (List.mem_append_left _ ((.tail _ (.tail _ (.tail _ (.tail _ (.tail _ (.tail _ (.head _))))))))) (List.mem_append_left _ ((.tail _ (.tail _ (.tail _ (.tail _ (.tail _ (.tail _ (.tail _ (.head _)))))))))) (⟨exFl _, _, _, _, _, _, _, 0, [], rfl, List.mem_append_left _ ((.tail _ (.head _))), List.mem_append_left _ ((.tail _ (.tail _ (.head _)))), List.mem_append_left _ ((.tail _ (.tail _ (.tail _ (.head _))))), List.mem_append_left _ ((.tail _ (.tail _ (.tail _ (.tail _ (.head _)))))), .nil⟩) (⟨_, [], List.mem_append_left _ ((.head _)), .nil⟩) (List.mem_append_left _ ((.tail _ (.head _)))) (by intro p hp; exact nomatch hp) (Nat.le_of_ble_eq_true rfl) (by rfl) (fresh_of erest ⟨Nat.lt_trans lB9.1 lC9.2.2.2, Nat.lt_trans lB9.2.1 lC9.2.2.2, Nat.lt_trans lB9.2.2.1 lC9.2.2.2⟩ ⟨lU9.2.2.2.2.1, lU9.2.2.2.2.2.1, lU9.2.2.2.2.2.2.1⟩ m4 lU9.2.2.2.2.2.2.2) (Nat.ne_of_lt lU9.2.2.2.1)
      · refine gen_toks fun _ => ?_
        iterate 20 (first | (k_unfold; (try dsimp only)) | (k_end; wrow_close) | walk1 | (dsimp only; walk1))
        refine gen_toks fun _ => ?_
        iterate 20 (first | (k_unfold; (try dsimp only)) | (k_end; wrow_close) | walk1 | (dsimp only; walk1))
        refine gen_toks fun _ => ?_
        iterate 21 (first | (k_unfold; (try dsimp only)) | (k_end; wrow_close) | walk1 | (dsimp only; walk1))
        subst hQx
        iterate 1 (first | (k_unfold; (try dsimp only)) | (k_end; wrow_close) | walk1 | (dsimp only; walk1))
        (rename News _ _ _ _ => N12)
        (rename Fr _ _ _ _ => F12)
        simp only [List.push_toArray] at N12
        (rename (_ ∧ _ : Prop) => lU9)
        revert lU9
        (rename (_ ∧ _ : Prop) => lD9)
        revert lD9
        (rename (_ ∧ _ : Prop) => lB9)
        revert lB9
        (rename (_ ∧ _ : Prop) => lC9)
        intro lB9 lD9 lU9
        have m5 := allLt_mono lB9.2.2.2 lC9.2.2.2.2
        have m1 := allLt_mono lB9.2.2.2 lC9.1
        have m2 := allLt_mono lB9.2.2.2 lC9.2.1
        have m3 := allLt_mono lB9.2.2.2 lC9.2.2.1
        have m4 := allLt_mono lB9.2.2.2 lC9.2.2.2.1
        refine end_of (ex := [_, _, _, _, _, _, _, _, _, _]) F12 N12 erest hoff (mem_addr mem) ?hx ?hJ
        case hx =>
          iterate 10 (first | (refine hx_out lU9.2.2.2.2.2.2.2.2.2 ?_) | (refine hx_out m1 ?_) | (refine hx_out m2 ?_) | (refine hx_out m3 ?_) | (refine hx_out m4 ?_) | (refine hx_out lD9.2.2.2.2.2.2.2.2 ?_) | (refine hx_out m5 ?_) | (refine hx_in (by k_mem) ?_))
          exact hx_nil
        case hJ =>
          exact close_new (f := ⟨_, _, _, _, _, fileT vs.length, [(_, _)]⟩) hS FN hoc evs eus mem (by with_unfolding_all rfl) (fun p hp => List.mem_append_right _ hp) (List.mem_append_left _ ((.tail _ (.tail _ (.tail _ (.tail _ (.tail _ (.tail _ (.tail _ (.head _)))))))))) (List.mem_append_left _ ((.tail _ (.tail _ (.tail _ (.tail _ (.tail _ (.tail _ (.tail _ (.tail _ (.head _))))))))))) (List.mem_append_left _ ((.tail _ (.tail _ (.tail _ (.tail _ (.tail _ (.tail _ (.tail _ (.tail _ (.tail _ (.head _)))))))))))) (⟨exFl _, _, _, _, _, _, _, 1, [.ref _], rfl, List.mem_append_left _ ((.tail _ (.tail _ (.tail _ (.head _))))), List.mem_append_left _ ((.tail _ (.tail _ (.tail _ (.tail _ (.head _)))))), List.mem_append_left _ ((.tail _ (.tail _ (.tail _ (.tail _ (.tail _ (.head _))))))), List.mem_append_left _ ((.tail _ (.tail _ (.tail _ (.tail _ (.tail _ (.tail _ (.head _)))))))), .cons (List.mem_append_left _ ((.tail _ (.tail _ (.head _))))) .nil⟩) (⟨_, [.ref _], List.mem_append_left _ ((.head _)), .cons (List.mem_append_left _ ((.tail _ (.head _)))) .nil⟩) (List.mem_append_left _ ((.tail _ (.tail _ (.tail _ (.head _)))))) (by intro p hp; rw [List.mem_singleton.mp hp]; exact ⟨no_lo _, no_hi _, by assumption, by assumption, by assumption⟩) (Nat.le_of_ble_eq_true rfl) (by rfl) (fresh_of erest ⟨Nat.lt_trans lB9.1 lC9.2.2.2.1, Nat.lt_trans lB9.2.1 lC9.2.2.2.1, Nat.lt_trans lB9.2.2.1 lC9.2.2.2.1⟩ ⟨lU9.2.2.2.2.2.2.1, lU9.2.2.2.2.2.2.2.1, lU9.2.2.2.2.2.2.2.2.1⟩ m4 lU9.2.2.2.2.2.2.2.2.2) (Nat.ne_of_lt lU9.2.2.2.2.2.1)
  intro m₁ nx h tk hJ F₁ N₁
  obtain ⟨hfau, ⟨oc, hcell, hoc⟩, fs, hS⟩ := hJ
  have em := fau_ext hfau
  rw [em] at F₁
  clear em
  iterate 3 (first | (k_unfold; (try dsimp only)) | (k_end; wrow_close) | walk1 | (dsimp only; walk1))
  obtain ⟨fn, hfa⟩ := hS.fa
  obtain ⟨tn, hta⟩ := hS.ta
  have hn63 : fs.length ≤ 63 := by have := hS.count; omega
  have hul : (fs.map fun f => Value.ref f.u).length = fs.length := by rw [List.length_map]
  have hvl : (fs.map fun f => Value.ref f.x).length = fs.length := by rw [List.length_map]
  generalize hus : (fs.map fun f => Value.ref f.u) = us at hta hul
  generalize hvs : (fs.map fun f => Value.ref f.x) = vs at hfa hvl
  rename Top _ _ _ _ _ _ => TT
  rename Frag.In _ _ => XX
  have BB := below_caller s₁.heap
  k_dflt (refine ListComp_H (hd := none) F₁ rfl (by rfl) (by decide) rfl (by decide) rfl ?_)
  iterate 1 (first | (k_unfold; (try dsimp only)) | (k_end; wrow_close) | walk1 | (dsimp only; walk1))
  refine ⟨_, _, fn, nx, ViewJ fs, rfl, F₁, N₁, hfa, .inl rfl, Nat.le_trans (Nat.le_of_eq hvl) (Nat.le_trans hn63 (by decide)), ViewJ.zero, views_turn BB XX TT rfl (by ktr_room) (by ktr_units) hvs.symm hS.fault, ?_⟩
  intro ys nw D h2 tk2 hJ2 hc2 F2 N2 off2
  have hD1 := hJ2.all hvl
  clear F₁ N₁ hJ2
  have N3 : News _ _ _ ((s₁.heap.objs.size + 1, oc) :: (Ta, W.listOf (List.toArray us) tn) :: (D, PyProof.Rows.LCg.lst ys) :: nw) := newsSub N2 (List.forall_mem_cons.mpr ⟨.tail _ (hc2 _ hcell), List.forall_mem_cons.mpr ⟨.tail _ (hc2 _ hta), fun _ hp => hp⟩⟩)
  k_dflt (refine ListComp_HR (hd := none) F2 rfl (by with_unfolding_all rfl) (by decide) rfl (by decide) rfl ?_)
  iterate 13 (first | (k_unfold; (try dsimp only)) | (k_end; wrow_close) | walk1 | (dsimp only; walk1))
  (rename Fr _ _ _ _ => F4)
  (rename News _ _ _ _ => N4)
  (rename IsRange _ _ _ _ _ _ _ _ => R4)
  rw [hul] at R4
  have up4 : ∀ p ∈ nx, p ∈ (s₁.heap.objs.size + 1, oc) :: (Ta, W.listOf (List.toArray us) tn) :: (D, PyProof.Rows.LCg.lst ys) :: nw := fun p hp => .tail _ (.tail _ (.tail _ (hc2 p hp)))
  have rg := range_ok hn63
  refine ⟨_, 0, (fs.length : Int), _, _, _, fs.length, _, ViewJ fs, rfl, F4, N4, R4, rg.1, rg.2, .inl rfl, Nat.le_trans hn63 (by decide), ViewJ.zero, dues_turn BB XX TT rfl (by ktr_room) (by ktr_units) (.inl rfl) hus.symm (fun f hf => ?told) (.head _) hoc (.tail _ (.head _)) hS.file hS.okp (fun f hf => Nat.le_trans (sum_le_of hS.total f hf) (by omega)) hn63 (fun C => by with_unfolding_all rfl), ?_⟩
  case told =>
    obtain ⟨un, uv, k1, k2⟩ := hS.told f hf
    exact ⟨un, uv, up4 _ k1, k2.mono fun _ _ hm => up4 _ hm⟩
  intro ys2 nw2 D2 h5 tk5 hJ5 hc5 F5 N5 off5
  have hD2 := hJ5.all rfl
  have ok8 := views_ok hS.okp hS.file hn63
  refine kqd_ne N5 (.tail _ (hc5 _ (.tail _ (.tail _ (.head _))))) rfl rfl hD1 (fun p hp => .tail _ (hc5 _ (.tail _ (.tail _ (.tail _ hp))))) (.head _) rfl rfl hD2 (fun p hp => .tail _ hp) ok8 ok8 (by ktr_units) ?_
  simp only [decide_true, Bool.not_true]
  clear R4 N4 F4 up4 hJ5
  have up6 : ∀ p ∈ nx, p ∈ nw2 := fun p hp => hc5 _ (.tail _ (.tail _ (.tail _ (hc2 p hp))))
  have N6 : News _ _ _ ((s₁.heap.objs.size + 1, oc) :: (Ta, W.listOf (List.toArray us) tn) :: (Fa, W.listOf (List.toArray vs) fn) :: nw2) := news3 (newsSub N5 fun p hp => .tail _ hp) (up6 _ hcell) (up6 _ hta) (up6 _ hfa)
  iterate 4 (first | (k_unfold; (try dsimp only)) | (k_end; wrow_close) | walk1 | (dsimp only; walk1))
  refine wpAny_Try_except ?_
  iterate 11 (first | (k_unfold; (try dsimp only)) | (k_end; wrow_close) | walk1 | (dsimp only; walk1))
  (rename Fr _ _ _ _ => F6)
  rcases fs with _ | ⟨f0, rs⟩
  · simp only [List.map_nil] at hvs hus
    subst hvs hus
    refine ra0_ok BB F6 XX TT rfl (by ktr_room) (by ktr_units) N6 (.tail _ (.tail _ (.head _))) fun h7 tk7 F7 N7 => ?_
    clear N6 F6
    iterate 26 (first | (k_unfold; (try dsimp only)) | (k_end; wrow_close) | walk1 | (dsimp only; walk1))
  simp only [List.map_cons] at hvs hus
  subst hvs hus
  have N5' : News _ _ _ nw2 := newsSub N5 fun p hp => .tail _ hp
  obtain ⟨k1, k2, k3, tm, ts, en, ev, q1, q2, q3, q4, n1, n2, n3, R1⟩ := split_first hS up6 (Func.of N5') hcell hoc
  obtain ⟨fn1, hFa⟩ := R1.fa
  obtain ⟨tn1, hTa⟩ := R1.ta
  obtain ⟨tt1, hTt⟩ := R1.tup
  have htot := hS.total
  simp only [List.map_cons, List.sum_cons] at htot
  have htot63 : f0.ps.length + (rs.map fun f => f.ps.length).sum ≤ 63 := by omega
  have hso := hS.file 0 f0 rfl
  have hms : (msgT f0.so f0.ps).length ≤ 5000 := msgT_fit (hS.okp f0 (by simp)) (hso ▸ (fileT_le (by omega)).2.1) (by omega)
  have NR : News _ _ _ ((f0.x, excF f0.d (exFl f0.t)) :: (f0.d, fdict wd.params k1 k2 k3 (msgT f0.so f0.ps) f0.so tm ts f0.e) :: (f0.e, W.listOf (List.toArray ev) en) :: restOf nw2 [f0.x, f0.d, f0.e]) := newsSub N5' (List.forall_mem_cons.mpr ⟨q1, List.forall_mem_cons.mpr ⟨q2, List.forall_mem_cons.mpr ⟨q3, fun p hp => restOf_sub hp⟩⟩⟩)
  refine ra2_ok BB F6 XX TT rfl (by ktr_room) (by ktr_units) NR (restOf_off _ _) n1 n2 n3 hFa rfl R1.faults (fun f hf => hS.okp f (List.mem_cons_of_mem _ hf)) q4 htot63 hms fun nx' h7 tk7 tm' ev' en' T' oT fl' F7 N7 b7 up7 hp7 off7 hT7 => ?_
  refine x_noted_on BB rfl rfl rfl F7 N7 ?offx b7 fun g' h8 T8 oT8 fl8 a1 a2 a3 a4 a5 a6 => ?_
  case offx =>
    intro p hp
    simp only [List.mem_cons] at hp
    rcases hp with rfl | rfl | hp
    · exact ⟨n1.symm, hT7.1⟩
    · exact ⟨n2.symm, hT7.2.1⟩
    · exact ⟨off7 p hp _ (by simp), hT7.2.2 p hp⟩
  obtain ⟨F8, N8⟩ := w_back0 (.inr F7.above) a1 a3 a4
  refine x_handle ?_
  iterate 1 (first | (k_unfold; (try dsimp only)) | (k_end; wrow_close) | walk1 | (dsimp only; walk1))
  refine ⟨rfl, XX.keeps F8.keep, ⟨_, _, InstAt.of_newsE N8 (.head _) (.tail _ (.tail _ (.head _)))⟩, ?_⟩
  refine x_flightN F8 N8 a6 a5 fun h9 oT9 F9 N9 b9 => ?_
  obtain ⟨C9, tn9, hTa9⟩ := caught_of (en' := en') (k1 := k1) (k2 := k2) (k3 := k3) (tm' := tm') (ts := ts) R1 up7 b9 hp7
  obtain ⟨led9, N9', C9', hTa9'⟩ : ∃ led, News _ _ _ led ∧ Caught wd.params s₁.heap.objs.size Fa oc f0 rs led ∧ (Ta, W.listOf (List.toArray (Value.ref f0.u :: rs.map fun f => Value.ref f.u)) tn9) ∈ led := ⟨_, N9, C9, hTa9⟩
  clear N9 C9 hTa9 N8 F8 F7 N7
  have ne9 := st_ne hS
  obtain ⟨C10, e10⟩ := caught_rest C9' (Func.of N9') hTa9' hoc ne9.1 ne9.2
  have e11 := ne9.1
  obtain ⟨fn2, hFa10⟩ := C10.fa
  obtain ⟨xs, x1, x2, x3⟩ := told_flat C10.told
  have N10 : News _ _ _ ((s₁.heap.objs.size + 1, oc) :: (Ta, W.listOf (List.toArray (Value.ref f0.u :: rs.map fun f => Value.ref f.u)) tn9) :: (Fa, W.listOf (List.toArray (Value.ref f0.x :: rs.map fun f => Value.ref f.x)) fn2) :: restOf led9 [Ta]) := newsSub N9' (List.forall_mem_cons.mpr ⟨C9'.cell, List.forall_mem_cons.mpr ⟨hTa9', List.forall_mem_cons.mpr ⟨restOf_sub hFa10, fun p hp => restOf_sub hp⟩⟩⟩)
  have off10 : OwnOff (restOf led9 [Ta]) [Ta] := restOf_off _ _
  clear N9'
  iterate 17 (first | (k_unfold; (try dsimp only)) | (k_end; wrow_close) | walk1 | (dsimp only; walk1))
  all_goals try (exfalso; rename (_ = _) => hz; revert hz; simp only [List.length_cons]; omega)
  iterate 16 (first | (k_unfold; (try dsimp only)) | (k_end; wrow_close) | walk1 | (dsimp only; walk1))
  (rename Fr _ _ _ _ => F11)
  (rename News _ _ _ _ => N11)
  k_dflt (refine ListComp_F (hd := some (.ref f0.x)) F11 rfl (by rfl) (by decide) rfl (by decide) rfl rfl rfl rfl ?_)
  iterate 1 (first | (k_unfold; (try dsimp only)) | (k_end; wrow_close) | walk1 | (dsimp only; walk1))
  refine ⟨Ta, tn9, _, xs, _, rfl, F11, N11, .tail _ (.head _), C10.calm.mono (fun _ _ _ h => .tail _ (.tail _ (.tail _ h))), flatOf (fs := f0 :: rs) rfl x1 (fun i f hf => ?lift2) (x3.mono fun _ _ hm => .tail _ (.tail _ (.tail _ hm))) (by simp only [List.map_cons, List.sum_cons]; exact htot63), fun D2 h12 tk12 F12 N12 off12 => ?_⟩
  case lift2 =>
    obtain ⟨c, zs, r1, r2⟩ := x2 i f hf
    exact ⟨c, zs, r1, .tail _ (.tail _ (.tail _ r2))⟩
  have eD : @Ne Nat D2 Ta := (off12 (Ta, _) (.tail _ (.head _))).symm
  clear N11 F11
  iterate 6 (first | (k_unfold; (try dsimp only)) | (k_end; wrow_close) | walk1 | (dsimp only; walk1))
  (rename Fr _ _ _ _ => F13)
  (rename News _ _ _ _ => N13)
  have hx3 : PairsIn (restOf led9 [Ta]) xs.flatten (f0.ps ++ rs.flatMap (·.ps)) := by simpa only [List.flatMap_cons] using x3
  have ES := end_state (lf := (D2, PyProof.Rows.LCg.lst xs.flatten) :: (s₁.heap.objs.size + 1, oc) :: (Ta, W.listOf (List.toArray (Value.ref D2 :: rs.map fun f => Value.ref f.u)) tn9) :: (Fa, W.listOf (List.toArray (Value.ref f0.x :: rs.map fun f => Value.ref f.x)) fn2) :: restOf led9 [Ta]) hS C10 (fun p hp => .tail _ (.tail _ (.tail _ (.tail _ hp)))) (.head _) hx3 htot63
  have hC13 : CalmIn (some (.ref f0.x)) ((D2, PyProof.Rows.LCg.lst xs.flatten) :: (s₁.heap.objs.size + 1, oc) :: (Ta, W.listOf (List.toArray (Value.ref D2 :: rs.map fun f => Value.ref f.u)) tn9) :: (Fa, W.listOf (List.toArray (Value.ref f0.x :: rs.map fun f => Value.ref f.x)) fn2) :: restOf led9 [Ta]) := C10.calm.mono fun _ _ _ h => .tail _ (.tail _ (.tail _ (.tail _ h)))
  clear N12 F12
  have hn64 : (endF f0 rs D2).length ≤ 63 := hn63
  have hl64 : (Value.ref f0.x :: rs.map fun f => Value.ref f.x).length = (endF f0 rs D2).length := by simp
  have hu64 : (Value.ref D2 :: rs.map fun f => Value.ref f.u).length = (endF f0 rs D2).length := by simp
  k_dflt (refine ListComp_H (hd := some (.ref f0.x)) F13 rfl (by rfl) (by decide) rfl (by decide) rfl ?_)
  iterate 1 (first | (k_unfold; (try dsimp only)) | (k_end; wrow_close) | walk1 | (dsimp only; walk1))
  refine ⟨Fa, _, fn2, _, ViewJ (endF f0 rs D2), rfl, F13, N13, .tail _ (.tail _ (.tail _ (.head _))), hC13, Nat.le_trans (Nat.le_of_eq hl64) (Nat.le_trans hn64 (by decide)), ViewJ.zero, views_turn BB XX TT rfl (by ktr_room) (by ktr_units) rfl ES.faults, fun ys3 nw3 D3 h14 tk14 hJ14 hc14 F14 N14 off14 => ?_⟩
  have hD3 := hJ14.all hl64
  dsimp only
  have N15 : News _ _ _ ((s₁.heap.objs.size + 1, oc) :: (Ta, W.listOf (List.toArray (Value.ref D2 :: rs.map fun f => Value.ref f.u)) tn9) :: (D3, PyProof.Rows.LCg.lst ys3) :: nw3) := newsSub N14 (List.forall_mem_cons.mpr ⟨.tail _ (hc14 _ (.tail _ (.head _))), List.forall_mem_cons.mpr ⟨.tail _ (hc14 _ (.tail _ (.tail _ (.head _)))), fun _ hp => hp⟩⟩)
  have up15 : ∀ p ∈ ((D2, PyProof.Rows.LCg.lst xs.flatten) :: (s₁.heap.objs.size + 1, oc) :: (Ta, W.listOf (List.toArray (Value.ref D2 :: rs.map fun f => Value.ref f.u)) tn9) :: (Fa, W.listOf (List.toArray (Value.ref f0.x :: rs.map fun f => Value.ref f.x)) fn2) :: restOf led9 [Ta] : Ledger), p ∈ ((s₁.heap.objs.size + 1, oc) :: (Ta, W.listOf (List.toArray (Value.ref D2 :: rs.map fun f => Value.ref f.u)) tn9) :: (D3, PyProof.Rows.LCg.lst ys3) :: nw3 : Ledger) := fun p hp => .tail _ (.tail _ (.tail _ (hc14 p hp)))
  k_dflt (refine ListComp_HR (hd := some (.ref f0.x)) F14 rfl (by with_unfolding_all rfl) (by decide) rfl (by decide) rfl ?_)
  iterate 13 (first | (k_unfold; (try dsimp only)) | (k_end; wrow_close) | walk1 | (dsimp only; walk1))
  (rename Fr _ _ _ _ => F16)
  (rename News _ _ _ _ => N16)
  (rename IsRange _ _ _ _ _ _ _ _ => R16)
  rw [hu64] at R16
  have rg2 := range_ok hn64
  have hC16 := hC13.mono fun _ _ _ h => up15 _ h
  refine ⟨_, 0, ((endF f0 rs D2).length : Int), _, _, _, (endF f0 rs D2).length, _, ViewJ (endF f0 rs D2), rfl, F16, N16, R16, rg2.1, rg2.2, hC16, Nat.le_trans hn64 (by decide), ViewJ.zero, dues_turn BB XX TT rfl (by ktr_room) (by ktr_units) hC16 rfl (fun f hf => (ES.told f hf).mono up15) (.head _) hoc (.tail _ (.head _)) ES.file ES.okp ES.small hn64 (fun C => by with_unfolding_all rfl), fun ys4 nw4 D4 h17 tk17 hJ17 hc17 F17 N17 off17 => ?_⟩
  have hD4 := hJ17.all rfl
  have ok9 := views_ok ES.okp ES.file hn64
  dsimp only
  refine kqd_eq N17 (.tail _ (hc17 _ (.tail _ (.tail _ (.head _))))) rfl rfl hD3 (fun p hp => .tail _ (hc17 _ (.tail _ (.tail _ (.tail _ hp))))) (.head _) rfl rfl hD4 (fun p hp => .tail _ hp) ok9 ok9 (by ktr_units) ?_
  simp only [decide_true]
  clear N16 F16 R16
  refine wpAny_nameGoes_keeps (by rfl) F17.ns (by rfl) fun h18 v18 hn18 hs18 => ?_
  have F18 := F17.set hn18 hs18
  clear F17
  iterate 1 (first | (k_unfold; (try dsimp only)) | (k_end; wrow_close) | walk1 | (dsimp only; walk1)))
end
end Mine
end
theorem PySem.Challenge.cw_dn0008_01_holds : PySem.Challenge.rw_dn0008_01.Holds :=
  Mine.law_holds
