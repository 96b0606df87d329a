import PyProof.Rows.All
import Wide.All
import OpenK.AllK
import Wide.FinOn
import PySem.Challenge.RW_tc0050_01
set_option Elab.async false
set_option compiler.extract_closed false
set_option linter.all false
set_option maxRecDepth 100000
set_option maxHeartbeats 8000000
section
open PySem PySem.W PyProof.Rows PySem.Calls PySem.Spec
set_option maxRecDepth 100000
set_option maxHeartbeats 1000000
namespace Mine

theorem canon_list_ga : Manifest.canonical "list.__getattribute__" = "object.__getattribute__" := by decide +kernel

section
variable {prog : Program} {w : World} {A : Around} {E : Value → Shared → Prop} {s : Shared} {K : Frag} {x C : Addr} {ox : Obj} {od : Option Obj} {name : Str}

theorem am_fn {f : Addr} {pl : Sem Bool} {Q : Value × List Value → Shared → Prop} (X : K.In s.heap) (I : InstAt s.heap x ox C od) (hga : findIn K (.ref C) "__getattribute__" = some (some (.builtin "list.__getattribute__"))) (hk : findIn K (.ref C) "__getattr__" = some none)
    (hf : findIn K (.ref C) name = some (some (.ref f))) (ht : typeIn K (.ref f) = some (.type "function")) (hs : shadowIn od name = some false) (h : Q (.ref f, [.ref x]) s) :
    wpAny (model prog w) A (getMethod (.ref x) name pl) Q E s := by
  have hcan := canon_list_ga
  unfold getMethod specialOf
  refine wpAny_bind (wpAny_bind (I.type.here ((looks_findIn X hga).here ?_)))
  dsimp only
  rw [hcan, if_neg (by decide)]
  refine wpAny_bind (wpAny_bind (I.type.here ((looks_findIn X hk).here ?_)))
  refine wpAny_bind (wpAny_bind (I.type.here ((looks_findIn X hf).here (wpAny_bind ((looks_typeIn X ht).here ?_)))))
  rw [if_neg (by decide +kernel)]
  refine wpAny_bind (wpAny_loadPart I.at_ ?_)
  have hd := I.dict
  cases e : ox.dict with
  | none => exact wpAny_bind (wpAny_rule (wpAny_pure h))
  | some dx =>
    cases od with
    | none => rw [e] at hd; exact hd.elim
    | some o =>
      rw [e] at hd
      obtain ⟨r, a, b⟩ := Option.map_eq_some_iff.mp hs
      refine wpAny_bind (wpAny_bind (wpAny_loadPart hd ?_))
      rw [nsLook_of a]
      refine wpAny_pure ?_
      rw [b]
      exact wpAny_bind (wpAny_rule (wpAny_pure h))

theorem am_bi {id : String} {pl : Sem Bool} {Q : Value × List Value → Shared → Prop} (X : K.In s.heap) (I : InstAt s.heap x ox C od) (hga : findIn K (.ref C) "__getattribute__" = some (some (.builtin "list.__getattribute__"))) (hk : findIn K (.ref C) "__getattr__" = some none)
    (hf : findIn K (.ref C) name = some (some (.builtin id))) (ht : typeOf (.builtin id) = pure (.type "method_descriptor")) (hs : shadowIn od name = some false) (h : Q (.builtin id, [.ref x]) s) :
    wpAny (model prog w) A (getMethod (.ref x) name pl) Q E s := by
  have hcan := canon_list_ga
  unfold getMethod specialOf
  refine wpAny_bind (wpAny_bind (I.type.here ((looks_findIn X hga).here ?_)))
  dsimp only
  rw [hcan, if_neg (by decide)]
  refine wpAny_bind (wpAny_bind (I.type.here ((looks_findIn X hk).here ?_)))
  refine wpAny_bind (wpAny_bind (I.type.here ((looks_findIn X hf).here (wpAny_bind (wpAny_of_eq ht ?_)))))
  rw [if_neg (by decide +kernel)]
  refine wpAny_bind (wpAny_loadPart I.at_ ?_)
  have hd := I.dict
  cases e : ox.dict with
  | none => exact wpAny_bind (wpAny_rule (wpAny_pure h))
  | some dx =>
    cases od with
    | none => rw [e] at hd; exact hd.elim
    | some o =>
      rw [e] at hd
      obtain ⟨r, a, b⟩ := Option.map_eq_some_iff.mp hs
      refine wpAny_bind (wpAny_bind (wpAny_loadPart hd ?_))
      rw [nsLook_of a]
      refine wpAny_pure ?_
      rw [b]
      exact wpAny_bind (wpAny_rule (wpAny_pure h))

/-- the check ahead of a built-in of list's on an object of a class made of list -/
theorem chkL {i n : String} {self : Value} {rest : List Value} {kw : List (Str × Value)} {Q : Unit → Shared → Prop} {M : Model}
    (hk : builtinKind i = some .slot ∨ builtinKind i = some .method) (hs : splitId i = some ("list", n)) (hi : Looks M s.heap (isInstance self (.type "list")) true) (ha : argsOk i ⟨self :: rest, kw⟩) (q : Q () s) :
    wpAny M A (checkBuiltinCall i ⟨self :: rest, kw⟩) Q E s := by
  rcases hk with hk | hk <;>
  · simp only [checkBuiltinCall, hk, hs]
    refine wpAny_bind (hi.here ?_)
    simp only [Bool.not_true, Bool.false_eq_true, if_false]
    cases hsig : Manifest.signature? i with
    | none => exact wpAny_pure q
    | some sig =>
      simp only [argsOk, hsig] at ha
      have h2 : Bind.checkArgs i sig ⟨self :: rest, kw⟩ = pure () := ha
      show wpAny M A (Bind.checkArgs i sig ⟨self :: rest, kw⟩) Q E s
      rw [h2]; exact wpAny_pure q

theorem acc_isList {M : Model} {h : Heap} (X : K.In h) (I : InstAt h x ox C od) (hm : mroIn K C (.type "list") = some true) : Looks M h (isInstance (.ref x) (.type "list")) true :=
  I.type.andThen (looks_mroIn X hm)
theorem entry_list_ga : entryFor table "list.__getattribute__" = some Builtin.«object.__getattribute__» := PySem.F.entry_list_ga

theorem ag_value {expr : Bool} {v : Value} {Q : Value → Shared → Prop} (X : K.In s.heap) (I : InstAt s.heap x ox C od) (hm : mroIn K C (.type "list") = some true) (hga : findIn K (.ref C) "__getattribute__" = some (some (.builtin "list.__getattribute__"))) (hk : findIn K (.ref C) "__getattr__" = some none)
    (hf : findObj K C od name = some (.value v)) (hh : handedIn v = true) (h : Q v { s with toks := s.toks + 1 }) :
    wpAny (model prog w) A (getAttr (.ref x) name expr) Q E s := by
  obtain ⟨hp, g, d, t, os⟩ := s
  have L0 := I.type (M := model prog w)
  have L1 := looks_findIn (M := model prog w) X hga
  have L2 := looks_findIn (M := model prog w) X hk
  have L3 := looks_find (M := model prog w) X I hf
  have L4 := acc_isList (M := model prog w) X I hm
  unfold getAttr getAttrBy
  refine wpAny_bind (wpAny_mkText (wpAny_holding (wpAny_bind (L0.at (wpAny_bind (L1.at ?_))))))
  show wpAny _ _ (getAttrByItsOwn _ _ _ _ _ _) _ _ _
  unfold getAttrByItsOwn hookBefore
  refine wpAny_bind (L2.at (wpAny_bind (wpAny_attempt (wpAny_holding ?_))))
  have e : ∀ nm, callGetattribute (.ref x) nm (.builtin "list.__getattribute__") expr = boundAndCalled (.builtin "list.__getattribute__") (.ref x) nm := fun nm => by
    unfold callGetattribute
    rw [show onTheHeap (.builtin "list.__getattribute__") = false from rfl, Bool.and_false, if_neg Bool.false_ne_true]
  rw [e]
  unfold boundAndCalled
  rw [PySem.F.slot_list_getattribute.bind]
  refine wpAny_bind (wpAny_pure (wpAny_call ?_))
  refine codeAny_call_builtin PySem.F.slot_list_getattribute.plain entry_list_ga (chkL (M := model prog w) (s := ⟨hp, g, d, t + 1, os⟩) (i := "list.__getattribute__") (n := "__getattribute__") (self := .ref x) (rest := [.str name t]) (kw := []) (.inl (by decide +kernel)) (by decide +kernel) L4 (PySem.F.args_list_getattribute_2 (.ref x) (.str name t)) ?_)
  unfold Builtin.«object.__getattribute__»
  refine wpAny_bind (wpAny_pure (wpAny_bind (wpAny_pure (wpAny_bind (L0.at (wpAny_bind (L3.at ?_)))))))
  refine wpAny_pure ?_
  show wpAny _ _ (handedOut v) _ _ _
  rw [handedOut_of hh]; exact wpAny_pure h


noncomputable def listOver (K : Frag) (C : Addr) : Bool := (clsIn K C).any fun cd => cd.mro == [.ref C, .type "list", .type "object"]
theorem refuse_list (self : Value) : refuseLoop self "__setattr__" [.type "list", .type "object"] = pure () := by kernel_rfl
theorem listOver_mro (e : listOver K C = true) : ∃ cd, clsIn K C = some cd ∧ cd.mro = [.ref C, .type "list", .type "object"] := by
  obtain ⟨cd, hc, h⟩ := any_some e
  exact ⟨cd, hc, by simpa using h⟩
theorem listOver_in (e : listOver K C = true) : mroIn K C (.type "list") = some true := by
  obtain ⟨cd, hc, h⟩ := listOver_mro e
  unfold mroIn
  rw [hc, Option.bind_some, h]
  simp
theorem listOver_obj (e : listOver K C = true) : mroIn K C (.type "object") = some true := by
  obtain ⟨cd, hc, h⟩ := listOver_mro e
  unfold mroIn
  rw [hc, Option.bind_some, h]
  simp

variable {R : Result → Shared → Prop} {h₀ : Heap} {L : Addr} {m : Str → Option Value} {news : List (Addr × Obj)}
theorem as_open {tk : Tok} {v : Value} {r : Option Value} (X : K.In s.heap) (I : InstAt s.heap x ox C od) (hp : listOver K C = true) (ht : takerIn K C name = some r)
    (h : ∀ b, wpAny (model prog w) A.in1 (match r with | some a => Builtin.ObjectAttr.setByDescriptor a (.ref x) v | none => Builtin.ObjectAttr.storeInOwnDict (.ref x) (.ref C) (.str name tk) name v b)
      (fun fin s' => match fin with | .done f => R (.ok f) s' | .again c' => c'.quiet = true ∧ codeAny (model prog w) A c' R s') (fun e s' => R (.error e) s') s) :
    codeAny (model prog w) A (.call (.builtin "object.__setattr__") ⟨[.ref x, .str name tk, v], []⟩) R s := by
  have SF := PySem.F.store_object
  obtain ⟨cd, hc, ho⟩ := listOver_mro hp
  have sub : Looks (model prog w) s.heap (isInstance (.ref x) (.type "object")) true := I.type.andThen (looks_mroIn X (listOver_obj hp))
  refine codeAny_call_builtin SF.slot.plain SF.entry (@check_slot (model prog w) _ _ s "object.__setattr__" "object" "__setattr__" (.ref x) [.str name tk, v] [] _ SF.kind SF.split sub (SF.args (.ref x) (.str name tk) v) ?_)
  obtain ⟨attr, ha, hr⟩ := Option.bind_eq_some_iff.mp ht
  have hm : Looks (model prog w) s.heap (mroOf (.ref C)) cd.mro := (looks_clsIn X hc).andThen .now
  have L3 : Looks (model prog w) s.heap (Builtin.ObjectAttr.storeTaker? attr) r := by
    cases attr with
    | none => cases hr; exact .now
    | some a =>
      obtain ⟨b, hb, rfl⟩ := Option.map_eq_some_iff.mp hr
      refine (looks_takesIn X hb).andThen ?_
      cases b <;> exact .now
  rw [osa_eq, refuse_eq]
  refine wpAny_bind (wpAny_bind (I.type.here (wpAny_bind (hm.here ?_))))
  rw [ho, refuseLoop_ref, refuse_list]
  refine wpAny_pure (wpAny_bind (I.type.here (wpAny_bind ((looks_findIn X ha).here (wpAny_bind (L3.here ?_))))))
  exact h _

theorem as_dict {od od' : Obj} {dx : Addr} {tk : Tok} {v : Value} {pre post : List (Addr × Obj)} {es : List DictEntry} {n : Nat} (F : Fr h₀ L s.heap m) (N : News h₀ L s.heap (pre ++ (dx, od) :: post)) (X : K.In s.heap)
    (I : InstAt s.heap x ox C (some od)) (hd : ox.dict = some dx) (hp : listOver K C = true) (ht : takerIn K C name = some none) (hh : (clsIn K C).any (·.hasDict) = true)
    (hl : (lookIn name od).isSome = true) (h1 : ∀ p ∈ pre, p.1 ≠ dx) (h2 : ∀ p ∈ post, p.1 ≠ dx)
    (e : Obj.putName name (PyData.keyHash w.params name) (.str name s.toks) v od = od') (e' : od'.data = .dict es.toArray n) (hz : es.length ≤ 1000)
    (h : ∀ h', Fr h₀ L h' m → News h₀ L h' (pre ++ (dx, od') :: post) → R (.ok (.ret .none)) { s with heap := h', toks := s.toks + 1 }) :
    codeAny (model prog w) A (.call (.builtin "object.__setattr__") ⟨[.ref x, .str name tk, v], []⟩) R s := by
  refine as_open X I hp ht fun b => ?_
  obtain ⟨cd, hc, hd'⟩ := any_some hh
  obtain ⟨U1, U2⟩ := news_upd (f := Obj.putName name (PyData.keyHash w.params name) (.str name s.toks) v) F N h1 h2 e (by obtain ⟨_, _, dd, _⟩ := od'; cases e'; rfl)
  have D := (N (dx, od) (by simp)).1
  have D' := (U2 (dx, od') (by simp)).1
  obtain ⟨hx, hcl, hn, -⟩ := I
  obtain ⟨oc, odi, oda, osl⟩ := ox
  dsimp only at hcl hd
  subst hcl hd
  refine wpAny_bind (wpAny_pure (wpAny_bind (wpAny_bind (wpAny_loadPart hx (wpAny_bind ((looks_clsIn X hc).here ?_))))))
  rw [hd']
  refine wpAny_pure (a := some dx) (wpAny_bind (wpAny_pure (wpAny_bind ?_)))
  unfold nsSet
  refine wpAny_bind (wpAny_bind (wpAny_askSetting (wpAny_pure (wpAny_bind (wpAny_mkText (wpAny_bind (wpAny_loadPart D ?_)))))))
  unfold lookIn at hl
  split at hl
  · rename_i es₀ n₀ q
    rw [q]
    dsimp only
    have c : (!es₀.any (·.key.isStr name) && es₀.any (·.refKey)) = false := by
      rw [← Array.any_toList, ← Array.any_toList]
      split at hl
      · rename_i en he
        rw [List.any_eq_true.mpr ⟨en, List.mem_of_find?_eq_some he, List.find?_some he⟩]; rfl
      · split at hl
        · cases hl
        · rename_i z; rw [Bool.not_eq_true] at z; rw [z, Bool.and_false]
    rw [aRefKeyMayBeTheName_at, c]
    refine wpAny_updatePart D ?_
    refine wpAny_bind (wpAny_lookBehind D' (by rw [e']; exact pastItsLine_dict (by rw [List.size_toArray, sizeLine_eq]; omega)) ?_)
    exact wpAny_pure (h _ U1 U2)
  · cases hl

theorem as_set {Q : Unit → Shared → Prop} {dx : Addr} {v : Value} {es es' : List DictEntry} {n n' : Nat} {news' : List (Addr × Obj)} (F : Fr h₀ L s.heap m) (X₀ : K.In h₀) (N : News h₀ L s.heap news) (I : InstAt s.heap x ox C (some (dictOf es n))) (hd : ox.dict = some dx)
    (hs : findIn K (.ref C) "__setattr__" = some (some (.builtin "object.__setattr__"))) (hp : listOver K C = true) (ht : takerIn K C name = some none) (hh : hasDictIn K C = true) (hl : (getL name es).isSome = true)
    (e : (putL name (PyData.keyHash w.params name) (.str name (s.toks + 1)) v es, putN name es n) = (es', n')) (U : Upd dx (dictOf es n) (dictOf es' n') news news') (hz : es'.length ≤ 1000)
    (h : ∀ h', Fr h₀ L h' m → News h₀ L h' news' → Q () { s with heap := h', toks := s.toks + 2 }) :
    wpAny (model prog w) A (setAttr (.ref x) name v) Q E s := by
  obtain ⟨pre, post, rfl, rfl, a, b⟩ := U.split
  obtain ⟨e1, e2⟩ := Prod.mk.inj e
  exact set_plain (X₀.keeps F.keep) I hs (as_dict (s := { s with toks := s.toks + 1 }) F N (X₀.keeps F.keep) I hd hp ht hh hl a b (by rw [putName_dict, e1, e2]) rfl hz fun h' F' N' => h h' F' N')

/-- append on an object of a class made of list -/
theorem al_append {v : Value} {vs : List Value} {dx : Option Addr} {n : Nat} {sl : Array (Option Value)} {news' : List (Addr × Obj)} {Q : Value → Shared → Prop} (F : Fr h₀ L s.heap m) (X₀ : K.In h₀) (N : News h₀ L s.heap news)
    (hC : InstAt s.heap x ⟨.ref C, dx, .seq vs.toArray n, sl⟩ C od) (hp : listOver K C = true) (hz : vs.length ≤ 1000)
    (U : Upd x ⟨.ref C, dx, .seq vs.toArray n, sl⟩ ⟨.ref C, dx, .seq (vs ++ [v]).toArray (n + 1), sl⟩ news news')
    (h : ∀ h', Fr h₀ L h' m → News h₀ L h' news' → Q .none { s with heap := h' }) :
    wpAny (model prog w) A (call (.builtin "list.append") [.ref x, v]) Q E s := by
  obtain ⟨pre, post, rfl, rfl, a, b⟩ := U.split
  have X := X₀.keeps F.keep
  have hm : (Obj.mapSeq (·.push v)) ⟨.ref C, dx, .seq vs.toArray n, sl⟩ = ⟨.ref C, dx, .seq (vs ++ [v]).toArray (n + 1), sl⟩ := by
    simp [Obj.mapSeq]
  obtain ⟨U1, U2⟩ := news_upd (f := Obj.mapSeq (·.push v)) F N a b hm rfl
  refine wpAny_call (codeAny_call_builtin PySem.F.slot_list_append.plain PySem.F.entry_list_append (chkL (M := model prog w) (s := s) (i := "list.append") (n := "append") (self := .ref x) (rest := [v]) (kw := []) (.inr (by decide +kernel)) (by decide +kernel) (acc_isList X hC (listOver_in hp)) (PySem.F.args_list_append_2 (.ref x) v) ?_))
  show wpAny _ _ (updateSeq x (·.push v) >>= fun _ => ret .none) _ _ s
  have D : s.heap.get? x = some ⟨.ref C, dx, .seq vs.toArray n, sl⟩ := hC.at_
  have z1 : vs.toArray.size ≤ sizeLine := by rw [sizeLine_eq, List.size_toArray]; omega
  have z2 : (vs.toArray.push v).size ≤ sizeLine + 1 := by rw [sizeLine_eq, Array.size_push, List.size_toArray]; omega
  exact wpAny_bind (wpAny_updateSeq D rfl (wpAny_pure (h _ U1 U2)) z1 z2)

theorem instS {dx : Addr} {its : Array Value} {k : Nat} {od : Obj} {sl : Array (Option Value)} {h : Heap} (N : News h₀ L h news) (h1 : (x, (⟨.ref C, some dx, .seq its k, sl⟩ : Obj)) ∈ news) (h2 : (dx, od) ∈ news) :
    InstAt h x ⟨.ref C, some dx, .seq its k, sl⟩ C (some od) := ⟨(N _ h1).1, rfl, rfl, (N _ h2).1⟩

theorem am_fnK {pl : Sem Bool} {Q : Value × List Value → Shared → Prop} {f : Addr} {es : List DictEntry} {n : Nat} (F : Fr h₀ L s.heap m) (X₀ : K.In h₀) (I : InstAt s.heap x ox C (some (dictOf es n))) (hga : findIn K (.ref C) "__getattribute__" = some (some (.builtin "list.__getattribute__"))) (hk : findIn K (.ref C) "__getattr__" = some none)
    (hf : findIn K (.ref C) name = some (some (.ref f))) (ht : isFn K (.ref f) = true) (hl : getL name es = some none) (h : Q (.ref f, [.ref x]) s) : wpAny (model prog w) A (getMethod (.ref x) name pl) Q E s :=
  am_fn (X₀.keeps F.keep) I hga hk hf (beq_iff_eq.mp ht) (by show (lookIn name (dictOf es n)).map _ = _; rw [lookIn_dict, hl]; rfl) h
theorem am_biK {id : String} {pl : Sem Bool} {Q : Value × List Value → Shared → Prop} {es : List DictEntry} {n : Nat} (F : Fr h₀ L s.heap m) (X₀ : K.In h₀) (I : InstAt s.heap x ox C (some (dictOf es n))) (hga : findIn K (.ref C) "__getattribute__" = some (some (.builtin "list.__getattribute__"))) (hk : findIn K (.ref C) "__getattr__" = some none)
    (hf : findIn K (.ref C) name = some (some (.builtin id))) (ht : typeOf (.builtin id) = pure (.type "method_descriptor")) (hl : getL name es = some none) (h : Q (.builtin id, [.ref x]) s) : wpAny (model prog w) A (getMethod (.ref x) name pl) Q E s :=
  am_bi (X₀.keeps F.keep) I hga hk hf ht (by show (lookIn name (dictOf es n)).map _ = _; rw [lookIn_dict, hl]; rfl) h
theorem ag_own {expr : Bool} {Q : Value → Shared → Prop} {attr : Option Value} {v : Value} {es : List DictEntry} {n : Nat} (F : Fr h₀ L s.heap m) (X₀ : K.In h₀) (I : InstAt s.heap x ox C (some (dictOf es n))) (hm : mroIn K C (.type "list") = some true) (hga : findIn K (.ref C) "__getattribute__" = some (some (.builtin "list.__getattribute__"))) (hk : findIn K (.ref C) "__getattr__" = some none) (hh : hasDictIn K C = true)
    (ha : findIn K (.ref C) name = some attr) (hn : noGet K attr = true) (hl : getL name es = some (some v)) (hv : handedIn v = true) (h : Q v { s with toks := s.toks + 1 }) :
    wpAny (model prog w) A (getAttr (.ref x) name expr) Q E s :=
  ag_value (X₀.keeps F.keep) I hm hga hk (findObj_own hh ha hn hl) hv h
end
end Mine
end
section
open PySem PySem.W PyProof.Rows PySem.Calls PySem.Spec
set_option maxRecDepth 100000
set_option maxHeartbeats 1000000
namespace Mine

/-- an object with items of a sequence, whatever its class -/
noncomputable def SeqAt (h : Heap) (l : Addr) (items : Array Value) : Prop := ∃ o n, h.get? l = some o ∧ o.data = .seq items n
theorem SeqAt.ext {h h' : Heap} {l b : Addr} {items : Array Value} (x : SeqAt h l items) (k : Heap.ExtBut b h h') (hb : l ≠ b) : SeqAt h' l items :=
  let ⟨o, n, e, d⟩ := x; ⟨o, n, k l o hb e, d⟩
theorem SeqAt.at {h h' : Heap} {l : Addr} {items : Array Value} (x : SeqAt h l items) (k : ∀ o, h.get? l = some o → h'.get? l = some o) : SeqAt h' l items :=
  let ⟨o, n, e, d⟩ := x; ⟨o, n, k o e, d⟩

section
variable {prog : Program} {w : World} {A : Around} {E : Value → Shared → Prop} {s : Shared}

theorem nextBody {it l : Addr} {i : Nat} {items : Array Value} {Q : Option Value → Shared → Prop} (hit : s.heap.IsListIter it l i) (hl : SeqAt s.heap l items)
    (h1 : ∀ x h', items[i]? = some x → h'.IsListIter it l (i + 1) → Heap.SameBut it s.heap h' → Q (some x) { s with heap := h' })
    (hh : A.handled = none) (h0 : ∀ h', items[i]? = none → Heap.ExtBut it s.heap h' → Q none { s with heap := h' }) :
    wpAny (model prog w) A (pyNext (.ref it)) Q E s := by
  cases hx : items[i]? with
  | some x =>
    obtain ⟨o, n, hol, hdl⟩ := hl
    obtain ⟨oi, ho, hc, hd⟩ := id hit
    unfold pyNext
    refine wpAny_bind (wpAny_attempt (wpAny_callSpecial?_slot (name := Str.ofString "__next__") hit.typeIs slot_listiter_next (wpAny_call_entry slot_listiter_next hit.typeIs entry_listiter_next ?_ (args_listiter_next _))))
    show wpAny _ _ (field (.ref it) 0 >>= _) _ _ s
    refine wpAny_bind (wpAny_field ho hd (x := .ref l) rfl ?_)
    dsimp only
    rw [if_neg (show ¬ ((Value.ref l == Value.none) = true) from Bool.false_ne_true)]
    refine wpAny_bind (m := field (.ref it) 1) (wpAny_field ho hd (x := .int i 0) rfl ?_)
    refine wpAny_bind (m := seqItems? (.ref l)) (wpAny_seqItems hol hdl ?_)
    simp only [Int.toNat_natCast, hx]
    exact wpAny_bind (wpAny_setField ho hd (by simp) (wpAny_pure ⟨x, rfl, wpAny_pure (h1 x _ hx ⟨_, Heap.get?_update_self _ ho (Obj.isFreed_of_fields (Obj.data_mapFields hd _)), (Obj.cls_mapFields ..).trans hc, by rw [Obj.data_mapFields hd]; simp [rawInt]⟩ (Heap.SameBut.update ..))⟩))
  | none =>
    obtain ⟨o, n, hol, hdl⟩ := hl
    obtain ⟨oi, ho, hc, hd⟩ := id hit
    unfold pyNext
    refine wpAny_bind (wpAny_attempt (wpAny_callSpecial?_slot (name := Str.ofString "__next__") hit.typeIs slot_listiter_next (wpAny_call_entry slot_listiter_next hit.typeIs entry_listiter_next ?_ (args_listiter_next _))))
    show wpAny _ _ (field (.ref it) 0 >>= _) _ _ s
    refine wpAny_bind (wpAny_field ho hd (x := .ref l) rfl ?_)
    dsimp only
    rw [if_neg (show ¬ ((Value.ref l == Value.none) = true) from Bool.false_ne_true)]
    refine wpAny_bind (m := field (.ref it) 1) (wpAny_field ho hd (x := .int i 0) rfl ?_)
    refine wpAny_bind (m := seqItems? (.ref l)) (wpAny_seqItems hol hdl ?_)
    simp only [Int.toNat_natCast, hx]
    refine wpAny_bind (wpAny_rule (wpAny_bind (wpAny_setField ho hd (by simp) ?_)))
    refine wpAny_bind (m := newExc (.type "StopIteration") []) ?_
    simp only [newExc, newTuple]
    refine wpAny_bind (wpAny_newObj_type ?_ (by size_fits))
    refine wpAny_bind (m := firstArgMember _ _) (wpAny_of_eq (a := Value.none) (by first | rfl | (simp only [firstArgMember]; rfl)) ?_)
    refine wpAny_newObj_type ?_ (by size_fits)
    simp only [raiseNew]
    refine wpAny_bind (wpAny_handled ?_)
    rw [show A.in1.handled = none from hh]
    refine wpAny_bind (wpAny_pure (wpAny_throw ?_))
    refine wpAny_bind (wpAny_isInstance (T := "StopIteration") (b := true) ⟨_, Heap.get?_push_size _ rfl, rfl⟩ isSubtype_stop ?_)
    exact wpAny_pure (h0 _ hx (((Heap.SameBut.update ..).extBut.push _).push _))

theorem walksAcc (hh : A.handled = none) (I ax : Addr) (hne : ax ≠ I) (items : Array Value) (Ts : Nat → Addr) (vals : Nat → Array Value)
    (hit : ∀ j, j < items.size → items[j]? = some (.ref (Ts j))) (hTI : ∀ j, j < items.size → Ts j ≠ I) :
    WalksU prog w A I (I :: ax :: (List.range items.size).map Ts) [I] items.size (fun j v => j < items.size ∧ v = vals j)
      (fun j h => h.IsListIter I ax j ∧ SeqAt h ax items ∧ ∀ k, k < items.size → h.IsTuple (Ts k) (vals k))
      (fun j T h => (j < items.size ∧ T = Ts j) ∧ h.IsListIter I ax (j + 1) ∧ SeqAt h ax items ∧ ∀ k, k < items.size → h.IsTuple (Ts k) (vals k)) where
  sub := fun b hb => by simp at hb; simp [hb]
  frame := fun _ _ _ st hk => ⟨st.1.at fun o e => hk I (by simp) o e, st.2.1.at fun o e => hk ax (by simp) o e,
    fun k hk' => (st.2.2 k hk').at fun o e => hk (Ts k) (by simpa using Or.inr (Or.inr ⟨k, hk', rfl⟩)) o e⟩
  item := fun i s Q E hi st hQ => nextBody st.1 st.2.1 (fun x h' hx hit' hs' => by
      have e := hit i hi
      rw [hx] at e
      cases e
      have tup : ∀ k, k < items.size → h'.IsTuple (Ts k) (vals k) := fun k hk' => (st.2.2 k hk').extBut hs'.extBut (hTI k hk')
      exact hQ (Ts i) (vals i) h' s.toks ⟨hi, rfl⟩ (tup i hi) ⟨⟨hi, rfl⟩, hit', st.2.1.ext hs'.extBut hne, tup⟩ fun b o hb e => hs'.extBut b o (fun h => hb (by simp [h])) e)
    hh (fun h' hx _ => by rw [hit i hi] at hx; cases hx)
  go := fun _ _ _ _ _ s Q _ hm hQ => wpAny_letOwnedTupleGo_listiter hm.2.1 (hQ s.heap hm.2 fun _ _ _ e => e)
  apart := fun j T _ hm hmem => by
    rcases List.mem_cons.mp hmem with e | e
    · exact hTI j hm.1.1 (hm.1.2 ▸ e)
    · cases e
  done := fun s Q E st hQ => nextBody st.1 st.2.1 (fun x h' hx _ _ => by simp at hx) hh fun h' _ he' => hQ h' s.toks fun b o hb e => he' b o (fun h => hb (by simp [h])) e
  self := fun _ _ _ _ st hQ => wpAny_pyIter_listiter st.1 hQ

theorem iterAcc {K : Frag} {x C : Addr} {ox : Obj} {od : Option Obj} {Q : Value → Shared → Prop} (X : K.In s.heap) (I : InstAt s.heap x ox C od) (hp : listOver K C = true) (hi : findIn K (.ref C) "__iter__" = some (some (.builtin "list.__iter__")))
    (hQ : Q (.ref s.heap.objs.size) { s with heap := s.heap.push { cls := .type "list_iterator", data := .fields #[.ref x, .int 0 0] } }) :
    wpAny (model prog w) A (pyIter (.ref x)) Q E s := by
  obtain ⟨hp', g, d, t, os⟩ := s
  have L0 := I.type (M := model prog w)
  have L1 := looks_findIn (M := model prog w) X hi
  have L4 := acc_isList (M := model prog w) X I (listOver_in hp)
  unfold pyIter specialOf
  refine wpAny_bind (wpAny_bind (L0.at (L1.at ?_)))
  unfold callSpecialIfBoundUnlessNone?
  repeat lk
  have hb : bindSpecial (.builtin "list.__iter__") (.ref x) = pure (.builtin "list.__iter__", [.ref x]) := by
    rw [PySem.F.slot_list_iter.bind]
  have hrest : ∀ (s' : Shared), s' = ⟨hp', g, d, t, os⟩ → wpAny (model prog w) A (call (.builtin "list.__iter__") [.ref x]) (fun v s'' => v = .ref hp'.objs.size ∧ s'' = ⟨hp'.push { cls := .type "list_iterator", data := .fields #[.ref x, .int 0 0] }, g, d, t, os⟩) (fun _ _ => False) s' := by
    rintro _ rfl
    refine wpAny_call (codeAny_call_builtin PySem.F.slot_list_iter.plain PySem.F.entry_list_iter (chkL (M := model prog w) (s := ⟨hp', g, d, t, os⟩) (i := "list.__iter__") (n := "__iter__") (self := .ref x) (rest := []) (kw := []) (.inl (by decide +kernel)) (by decide +kernel) L4 (PySem.F.args_list_iter_1 (.ref x)) ?_))
    unfold Builtin.«list.__iter__»
    refine wpAny_bind (wpAny_pure (wpAny_bind ?_))
    unfold newFields
    refine wpAny_newObj_type ?_ (by size_fits)
    exact wpAny_pure ⟨rfl, rfl⟩
  have hnext : ∀ s', s' = (⟨hp'.push { cls := .type "list_iterator", data := .fields #[.ref x, .int 0 0] }, g, d, t, os⟩ : Shared) → wpAny (model prog w) A (do
      match (← specialOf (.ref hp'.objs.size) "__next__") with
      | none => rule "iter.non-iterator"; raiseError "TypeError" s!"iter() returned non-iterator of type '{← typeNameOf (.ref hp'.objs.size)}'"
      | some _ => pure (.ref hp'.objs.size)) Q E s' := by
    rintro _ rfl
    unfold specialOf
    have L5 : Looks (model prog w) (hp'.push { cls := .type "list_iterator", data := .fields #[.ref x, .int 0 0] }) (typeOf (.ref hp'.objs.size)) (.type "list_iterator") := (Looks.ld (part := none) (Heap.get?_push_size hp' rfl)).andThen .now
    refine wpAny_bind (wpAny_bind (L5.at ?_))
    refine wpAny_of_eq slot_listiter_next.lookup ?_
    dsimp only
    exact wpAny_pure hQ
  split
  · rw [hb]
    refine wpAny_bind (wpAny_pure (wpAny_pure ?_))
    dsimp only
    rw [if_neg (by decide)]
    refine wpAny_bind (wpAny_mono (hrest _ rfl) ?_ (fun _ _ e => e.elim))
    rintro _ _ ⟨rfl, rfl⟩
    exact wpAny_pure (hnext _ rfl)
  · rw [hb]
    refine wpAny_tryCatch (wpAny_bind (wpAny_pure (wpAny_pure ?_)))
    dsimp only
    rw [if_neg (by decide)]
    refine wpAny_bind (wpAny_mono (hrest _ rfl) ?_ (fun _ _ e => e.elim))
    rintro _ _ ⟨rfl, rfl⟩
    exact wpAny_pure (hnext _ rfl)
end
end Mine
end
section
open PySem PySem.W PyProof.Rows PySem.Calls PySem.Spec
set_option maxRecDepth 100000
set_option maxHeartbeats 1000000
namespace Mine

/-- a table that is empty, or that holds one code object for the place pos -/
noncomputable def TabTwo (pos : Pos) (ps : Array Value) : Prop := ps = #[] ∨ ∃ c', ps = #[rawInt pos.line, rawInt pos.col, .ref c']

section
variable {prog : Program} {w : World} {A : Around} {E : Value → Shared → Prop} {s : Shared}

theorem genCode_two {env : Env} {c P : Addr} {ps : Array Value} {pos : Pos} {qn : Str} {scope : Scope} {Q : Value → Shared → Prop} (hcode : env.code = .ref c) (C : CodeHd s.heap c P) (hP : s.heap.get? P = some (tabObj ps)) (hps : TabTwo pos ps)
    (hQ : ∀ c' h' tk ps', Heap.ExtBut P s.heap h' → s.heap.objs.size ≤ h'.objs.size → h'.get? P = some (tabObj ps') → TabTwo pos ps' → Q (.ref c') { s with heap := h', toks := tk }) :
    wpAny (model prog w) A (genexprCode env pos qn scope) Q E s := by
  rcases hps with rfl | ⟨c', rfl⟩
  · refine wpAny_genexprCodeX hcode (C.code hP trivial) (C.tab hP) rfl fun c' h₃ tk₃ hx hge hlt hcode₃ _ htab₃ _ => ?_
    exact hQ c' h₃ tk₃ _ hx (by omega) htab₃.2 (.inr ⟨c', rfl⟩)
  · refine wpAny_genexprCode_hit (c' := .ref c') hcode (C.code hP ?_) ?_ ?_
    · simp [TriplesOk, rawInt]
    · simp [codeAmong, rawInt]
    · exact hQ c' s.heap s.toks _ (fun _ _ _ e => e) (Nat.le_refl _) hP (.inr ⟨c', rfl⟩)

theorem call_sum2 {x : Value} {t0 : Tok} {Q : Value → Shared → Prop}
    (h : wpAny (model prog w) A.in1 (pyIter x) (fun it s₂ => ∃ I fp wr G n P St val, it = .ref I ∧ WalksS prog w A.in1 I fp wr G n P St ∧ St 0 s₂ ∧ (∀ b ∈ fp, b < s₂.heap.objs.size) ∧
      (∀ i v, P i v → ∃ t, v = .int (val i) t) ∧ (∀ j, j < n → InLong (val j) ∧ InLong (preSum val (j + 1))) ∧
      ∀ s' t', Moved wr G s₂ s' → Q (.int (preSum val n) t') s') E s) :
    wpAny (model prog w) A (call (.builtin "sum") [x, .int 0 t0]) Q E s := by
  refine call_function_tree F.kind_sum F.plain_sum F.entry_sum (by rfl) ?_
  unfold Builtin.«sum»
  simp only [List.length_cons, List.length_nil]
  rw [if_neg (by decide)]
  refine wpAny_bind (wpAny_of_eq (show Builtin.Builtins.bindParams "sum" ["start"] 0 ⟨[.int 0 t0], []⟩ = pure [some (.int 0 t0)] from rfl) ?_)
  refine wpAny_bind (wpAny_mono h (fun it s₂ h₂ => ?_) fun _ _ e => e)
  obtain ⟨I, fp, wr, G, n, P, St, val, rfl, W, hst, hfp, hval, hfit, hQ⟩ := h₂
  dsimp only
  rw [if_pos (by decide)]
  refine wpAny_bind (wpAny_rule (wpAny_bind (wpAny_mkInt ?_)))
  refine wpAny_bind (wpAny_pure ?_)
  simp only [List.forIn_cons, List.forIn_nil]
  refine wpAny_bind (wpAny_bind (wpAny_bind (wpAny_isInstance (T := "int") (b := false) (typeIs_int _ _ _) PySem.sub_int_str ?_)))
  simp only [Bool.false_eq_true, if_false]
  refine wpAny_pure (wpAny_bind (wpAny_bind (wpAny_isInstance (T := "int") (b := false) (typeIs_int _ _ _) PySem.sub_int_bytes ?_)))
  simp only [Bool.false_eq_true, if_false]
  refine wpAny_pure (wpAny_bind (wpAny_bind (wpAny_isInstance (T := "int") (b := false) (typeIs_int _ _ _) PySem.sub_int_bytearray ?_)))
  simp only [Bool.false_eq_true, if_false]
  refine wpAny_pure (wpAny_pure ?_)
  refine wpAny_bind (wpAny_newObj_type ?_)
  have hSf : s₂.heap.objs.size ∉ fp := fun hm => Nat.lt_irrefl _ (hfp _ hm)
  refine wpAny_pure ⟨plainId_quiet F.plain_sum_loop _, codeAny_sum_loopS W val hval hfit s₂.heap.objs.size hSf n 0 _ s₂.toks 0 rfl (Nat.zero_le _)
    (W.frame 0 s₂ _ _ hst (by first | exact Nat.le_refl _ | exact Nat.le_succ _ | omega) fun b _ o e => Heap.get?_push_of_some _ e) (Heap.get?_push_size _ rfl) fun s' t' hm => ?_⟩
  exact hQ s' t' (hm.drop_new (by first | exact Nat.le_refl _ | exact Nat.le_succ _ | omega))

variable {h₀ : Heap} {L : Addr} {m : Str → Option Value} {kk : Addr} {a : Addr} {n : Nat} {Fe : Nat → Value → Prop} {Q : Value → Shared → Prop}
theorem sum2_rowsK {t0 : Tok} (Fh : Fr h₀ L s.heap m) (G : AllBare s.gens) (X : Gen prog w A kk a n Fe s) (hLK : L ≤ kk) (val : Nat → Int) (hval : ∀ j v, Fe j v → ∃ t, v = .int (val j) t) (hfit : ∀ j, j < n → InLong (val j) ∧ InLong (preSum val (j + 1)))
    (hQ : ∀ s' t', Fr h₀ L s'.heap m → AllBare s'.gens → s'.os = s.os → (∀ b o, b ≤ kk → s.heap.get? b = some o → s'.heap.get? b = some o) → Q (.int (preSum val n) t') s') : wpAny (model prog w) A (call (.builtin "sum") [.ref a, .int 0 t0]) Q E s := by
  obtain ⟨fp, wr, g, St, W, hst, _, _, hfp, hwr⟩ := X
  have W := W.in4_1
  exact call_sum2 (W.self 0 _ _ _ hst ⟨a, _, _, _, _, _, _, val, rfl, W, hst, hfp, hval, hfit, fun s' t' hm => hQ s' t' (Fh.moved hm fun b hb => Nat.lt_of_le_of_lt hLK (hwr b hb)) (G.movedS hm) hm.os fun b o hb e => hm.heap b o (fun hmem => Nat.lt_irrefl _ (Nat.lt_of_lt_of_le (hwr b hmem) hb)) e⟩)
theorem Gen_toks {tk : Nat} (X : Gen prog w A kk a n Fe s) (h : s.toks ≤ tk) : Gen prog w A kk a n Fe { s with toks := tk } := by
  obtain ⟨fp, wr, g, St, W, hst, b1, b2, hfp, hwr⟩ := X
  exact ⟨fp, wr, g, St, W, W.frame 0 s s.heap tk hst h (fun _ _ _ e => e), b1, b2, hfp, hwr⟩

variable {p : Program} {loose : List Str} {mean : ExcName → Option Value} {mg mb : Str → Option Value} {news : List (Addr × Obj)} {K : Frag}
theorem gen_acc {env : Env} {elt iter : Expr} {xa xb : Str} {pa pb pt : Pos} {kt : Nat} {scope : Scope} {pos : Pos} {c P x C : Addr} {ps : Array Value} {ox : Obj} {od : Option Obj} {cl : List (Str × Addr)}
   {g : Obj → List (Addr × Obj)} {items : Array Value} {Ts : Nat → Addr} {vals : Nat → Array Value}
   (hh : A.handled = none) (hroom : A.depth < recursionLimit) (F : Fr h₀ L s.heap m) (X₀ : K.In h₀) (T : Top p loose mean mg mb h₀) (N : News h₀ L s.heap news) (G : AllBare s.gens)
   (U : UpdF P (tabObj ps) news g) (hps : TabTwo pos ps) (CH : CodeHd h₀ c P) (hcode : env.code = .ref c) (hglob : env.globals = mainGlobals)
   (I : InstAt s.heap x ox C od) (hox : ∃ n, ox.data = .seq items n) (hp : listOver K C = true) (hi : findIn K (.ref C) "__iter__" = some (some (.builtin "list.__iter__")))
   (hits : ∀ j, j < items.size → items[j]? = some (.ref (Ts j))) (htup : ∀ j, j < items.size → s.heap.IsTuple (Ts j) (vals j)) (hv2 : ∀ j, j < items.size → ∃ va vb, vals j = #[va, vb])
   (hco : scope.isCoroutine = false) (hclos : closureFor scope env = pure cl) (hcell : ∀ y ∈ scope.names, y.2 ≠ .cell) (h0 : scope.names.lookup (".0" : Str) = some NameKind.local)
   (hxa : scope.names.lookup xa = some .local) (hxb : scope.names.lookup xb = some .local) (hab : xa ≠ xb) (hkind : scope.kind = .function) (hs : ∀ x, genFold iter env x = pure x)
   (hiter : ∀ (Q' : Value → Shared → Prop), Q' (.ref x) s → wpAny (model prog w) A (eval iter env) Q' E s)
   (helt : ∀ (c' C' : Addr) (A' : Around) E' j va vb (t : Shared) m₂, j < items.size → vals j = #[va, vb] → A'.handled = none → A'.depth ≤ A.depth + 1 → A'.units ≤ A.units + 8 → Fr h₀ C' t.heap m₂ → m₂ xa = some va → m₂ xb = some vb →
      wpAny (model prog w) A' (eval elt (genEnv scope cl C' (.ref c') builtinsNs env)) (fun y s₃ => Fe j y ∧ Keeps t s₃) E' t)
   (hQ : ∀ a s₅ ps' kk, Fr h₀ L s₅.heap m → News h₀ L s₅.heap (g (tabObj ps')) → TabTwo pos ps' → AllBare s₅.gens → s₅.os = s.os → L ≤ kk → (∀ q ∈ g (tabObj ps'), q.1 ≤ kk) → Gen prog w A kk a items.size (fun j y => j < items.size ∧ Fe j y) s₅ → Q (.ref a) s₅) :
    wpAny (model prog w) A (eval (.GeneratorExp elt [⟨.Tuple [.Name xa pa, .Name xb pb] kt pt, iter, [], 0⟩] scope pos) env) Q E s := by
  obtain ⟨own, rest, rfl, hgr, u1, u2⟩ := U.split
  have hm := N (P, tabObj ps) (List.mem_append_right _ (.head _))
  have old : ∀ b o, h₀.get? b = some o → b ≠ P := fun b o e q => by
    have := hm.2.2
    dsimp only at this
    rw [← q, e] at this; cases this
  obtain ⟨bm, ob, b1, b2, b3, b4, b5, b6⟩ := T.bmain
  have hcP : cStatics ≠ P := by
    obtain ⟨mc, ns, -⟩ := T.nolimit
    obtain ⟨o, es, ep, e, -⟩ := ns
    exact old _ _ e
  have hgP : mainGlobals ≠ P := by
    obtain ⟨o, es, ep, e, -⟩ := T.g
    exact old _ _ e
  have hLs : L < s.heap.objs.size := F.ns.lt
  obtain ⟨nox, hoxd⟩ := hox
  have hxne : x ≠ s.heap.objs.size := Nat.ne_of_lt (Heap.lt_size I.at_)
  have hxP : x ≠ P := fun e => by
    have h1 := I.at_
    have h2 : s.heap.get? P = some (tabObj ps) := hm.1
    rw [e, h2] at h1
    rw [← Option.some.inj h1] at hoxd; cases hoxd
  have htl : ∀ j, j < items.size → Ts j < s.heap.objs.size := fun j hj => by obtain ⟨o, e, -⟩ := htup j hj; exact Heap.lt_size e
  have htP : ∀ j, j < items.size → Ts j ≠ P := fun j hj e => by
    obtain ⟨o, e1, e2, -⟩ := htup j hj
    have h2 : s.heap.get? P = some (tabObj ps) := hm.1
    rw [e, h2] at e1
    rw [← Option.some.inj e1] at e2; cases e2
  have hPlt : P < s.heap.objs.size := Heap.lt_size (o := tabObj ps) hm.1
  refine wpAny_GeneratorExp_walksQTD hh hco hclos hcell h0 hxa hxb hab hkind hroom (hiter _ (iterAcc (X₀.keeps F.keep) I hp hi ?_)) hs
  have k2 : ∀ b o, s.heap.get? b = some o → (s.heap.push { cls := .type "list_iterator", data := .fields #[.ref x, .int 0 0] }).get? b = some o := fun b o e => Heap.get?_push_of_some _ e
  refine ⟨T.nolimit.keeps fun b o e => k2 b o (F.keep b o e), genCode_two hcode (CH.keeps fun b o e => k2 b o (F.keep b o e)) (k2 _ _ hm.1) hps fun c' h₃ tk₃ ps' hx₃ hsz₃ hP₃ hps' => ?_⟩
  have hsz₃' : s.heap.objs.size < h₃.objs.size := by
    have : (s.heap.push { cls := .type "list_iterator", data := .fields #[.ref x, .int 0 0] }).objs.size ≤ h₃.objs.size := hsz₃
    rw [Heap.size_push] at this; omega
  have k3 : ∀ b o, b ≠ P → s.heap.get? b = some o → h₃.get? b = some o := fun b o hb e => hx₃ b o hb (k2 b o e)
  have F₃ : Fr h₀ L h₃ m := ⟨F.ns.at fun o e => k3 L o (fun q => hm.2.1 q.symm) e, fun b o e => k3 b o (old b o e) (F.keep b o e), F.above⟩
  have hgs := T.g.keeps F₃.keep
  refine wpAny_builtinsFor (hglob ▸ hgs) b1 b2 (F₃.keep _ _ b3) b4 b5 b6 ?_
  have hIP : s.heap.objs.size ≠ P := fun e => Nat.lt_irrefl _ (e ▸ hPlt)
  refine ⟨s.heap.objs.size, s.heap.objs.size :: x :: (List.range items.size).map Ts, [s.heap.objs.size], items.size, fun j v => j < items.size ∧ v = vals j,
    fun j h => h.IsListIter s.heap.objs.size x j ∧ SeqAt h x items ∧ ∀ k, k < items.size → h.IsTuple (Ts k) (vals k),
    fun j T h => (j < items.size ∧ T = Ts j) ∧ h.IsListIter s.heap.objs.size x (j + 1) ∧ SeqAt h x items ∧ ∀ k, k < items.size → h.IsTuple (Ts k) (vals k), fun _ => true, Fe, rfl, fun A' hA => ?_, ?_, ?_, ?_, ?_, ?_, ?_, ?_⟩
  · exact walksAcc hA _ _ hxne _ _ _ hits fun j hj => Nat.ne_of_lt (htl j hj)
  · rintro i v ⟨hi', rfl⟩; exact hv2 i hi'
  · refine ⟨⟨_, hx₃ _ _ hIP (Heap.get?_push_size _ rfl), rfl, rfl⟩, ⟨_, nox, k3 _ _ hxP I.at_, hoxd⟩, fun k hk => ?_⟩
    obtain ⟨o, e1, e2⟩ := htup k hk
    exact ⟨o, k3 _ _ (htP k hk) e1, e2⟩
  · intro b hb
    rcases List.mem_cons.mp hb with rfl | hb
    · exact hsz₃'
    · rcases List.mem_cons.mp hb with rfl | hb
      · exact Nat.lt_trans (Heap.lt_size I.at_) hsz₃'
      · obtain ⟨k, hk, rfl⟩ := List.mem_map.mp hb
        exact Nat.lt_trans (htl k (List.mem_range.mp hk)) hsz₃'
  · exact T.nolimit.keeps F₃.keep
  · intro hb
    have e : cStatics = s.heap.objs.size := by simpa using hb
    obtain ⟨mc, ns, -⟩ := T.nolimit.keeps F.keep
    exact absurd (e ▸ ns.lt) (Nat.lt_irrefl _)
  · intro href hkr
    refine ⟨fun A' E' i va vb t m₂ hA hD hU hP hn hma hmb hkp => wpAny_pure ⟨rfl, t.heap, t.toks, rfl, fun _ _ e => e⟩, fun A' E' i va vb t m₂ hA hD hU hP _ hn hma hmb hkp => ?_⟩
    refine helt c' _ A' E' i va vb t m₂ hP.1 hP.2.symm hA hD hU ⟨hn, fun b o e => ?_, Nat.le_trans F.above (Nat.le_of_lt (Nat.lt_trans hLs hsz₃'))⟩ hma hmb
    have hb : b < s.heap.objs.size := Nat.lt_of_lt_of_le (Heap.lt_size e) (Nat.le_trans F.above (Nat.le_of_lt hLs))
    exact hkp b (List.mem_range.mpr (Nat.lt_trans hb hsz₃')) (fun q => Nat.ne_of_lt hb (by simpa using q)) o (hkr b o (F₃.keep b o e))
  · intro a h₅ tk gs hgb hag hsz₅ hk₅ W hat
    have hlen : (passing (fun _ => true) items.size 0).length = items.size := by
      show (List.filter _ (List.drop 0 _)).length = _
      rw [List.drop_zero, List.filter_eq_self.mpr fun _ _ => rfl, List.length_range]
    have hFe : (fun j y => ∃ i, (passing (fun _ => true) items.size 0)[j]? = some i ∧ Fe i y) = fun j y => j < items.size ∧ Fe j y := by
      have e0 : passing (fun _ => true) items.size 0 = List.range items.size := by
        show List.filter _ (List.drop 0 _) = _
        rw [List.drop_zero]; exact List.filter_eq_self.mpr fun _ _ => rfl
      funext j y
      rw [e0]
      refine propext ⟨?_, fun ⟨h1, h2⟩ => ⟨j, by simp [h1], h2⟩⟩
      rintro ⟨i, e, h⟩
      obtain ⟨h1, h2⟩ := List.getElem?_eq_some_iff.mp e
      rw [List.getElem_range] at h2
      exact ⟨by simpa using h1, h2 ▸ h⟩
    rw [hlen, hFe] at W
    have hsz5 : s.heap.objs.size < h₅.objs.size := by rw [hsz₅]; exact Nat.lt_trans hsz₃' (Nat.lt_succ_of_lt hag)
    refine hQ a _ ps' (s.heap.objs.size - 1) (F₃.keeps hk₅) ?_ hps' (G.push hgb) rfl (Nat.le_sub_one_of_lt hLs) (fun q hq => ?_) ⟨_, _, _, _, W, hat, (fun i s' st => st.1.typeIs), List.mem_cons_self, ?_, ?_⟩
    · rw [hgr]
      intro q hq
      rcases List.mem_append.mp hq with hq | hq
      · have n := N q (List.mem_append_left _ hq)
        exact ⟨hk₅ _ _ (k3 _ _ (u1 q hq) n.1), n.2⟩
      · rcases List.mem_cons.mp hq with rfl | hq
        · exact ⟨hk₅ _ _ hP₃, hm.2⟩
        · have n := N q (List.mem_append_right _ (.tail _ hq))
          exact ⟨hk₅ _ _ (k3 _ _ (u2 q hq) n.1), n.2⟩
    · refine Nat.le_sub_one_of_lt ?_
      rw [hgr] at hq
      rcases List.mem_append.mp hq with hq | hq
      · exact Heap.lt_size (N q (List.mem_append_left _ hq)).1
      · rcases List.mem_cons.mp hq with rfl | hq
        · exact hPlt
        · exact Heap.lt_size (N q (List.mem_append_right _ (.tail _ hq))).1
    · intro b hb
      show b < h₅.objs.size
      rw [hsz₅]
      rcases List.mem_cons.mp hb with rfl | hb
      · exact Nat.lt_succ_self _
      · rcases List.mem_cons.mp hb with rfl | hb
        · exact Nat.lt_succ_of_lt hag
        · exact Nat.lt_succ_of_lt (Nat.lt_trans (List.mem_range.mp hb) hag)
    · intro b hb
      rcases List.mem_cons.mp hb with rfl | hb
      · exact Nat.lt_of_le_of_lt (Nat.sub_le _ _) hsz₃'
      · have e : b = s.heap.objs.size := by simpa using hb
        rw [e]; exact Nat.sub_lt (Nat.lt_of_le_of_lt (Nat.zero_le _) hLs) Nat.one_pos
end
end Mine
end
section
open PySem PySem.W PyProof.Rows PySem.Calls PySem.Spec
set_option maxRecDepth 100000
set_option maxHeartbeats 1000000
namespace Mine
namespace Ft
theorem slot_wd_get : Slot "wrapper_descriptor" "__get__" "wrapper_descriptor.__get__" := .of (owner := "wrapper_descriptor") (n := "__get__") (by rw [typeLookup_type, builtinLookup_eq_fast]; kernel_rfl) (by decide +kernel) (by decide +kernel) (by decide +kernel)
  (by first | exact .inl (by decide +kernel) | exact .inr (by decide +kernel)) (by rw [isSubtype_type]; kernel_rfl)
theorem entry_wd_get : entryFor table "wrapper_descriptor.__get__" = some Builtin.«wrapper_descriptor.__get__» := entryFor_of_tree (by kernel_rfl)
theorem args_wd (a b c : Value) : argsOk "wrapper_descriptor.__get__" ⟨[a, b, c], []⟩ := by unfold argsOk; kernel_rfl
theorem slot_md_get : Slot "method_descriptor" "__get__" "method_descriptor.__get__" := .of (owner := "method_descriptor") (n := "__get__") (by rw [typeLookup_type, builtinLookup_eq_fast]; kernel_rfl) (by decide +kernel) (by decide +kernel) (by decide +kernel)
  (by first | exact .inl (by decide +kernel) | exact .inr (by decide +kernel)) (by rw [isSubtype_type]; kernel_rfl)
theorem entry_md_get : entryFor table "method_descriptor.__get__" = some Builtin.«method_descriptor.__get__» := entryFor_of_tree (by kernel_rfl)
theorem args_md (a b c : Value) : argsOk "method_descriptor.__get__" ⟨[a, b, c], []⟩ := by unfold argsOk; kernel_rfl
theorem type_len : typeOf (.builtin "list.__len__") = pure (.type "wrapper_descriptor") := by show builtinType _ = _; rw [builtinType_eq_fast]; kernel_rfl
theorem type_init : typeOf (.builtin "list.__init__") = pure (.type "wrapper_descriptor") := by show builtinType _ = _; rw [builtinType_eq_fast]; kernel_rfl
theorem type_pop : typeOf (.builtin "list.pop") = pure (.type "method_descriptor") := by show builtinType _ = _; rw [builtinType_eq_fast]; kernel_rfl
end Ft
section
variable {prog : Program} {w : World} {M : Model} {A : Around} {E : Value → Shared → Prop} {h : Heap} {g : Array GenState} {d : Drawn} {t : Nat} {os : OsState} {x C D so : Addr}
theorem wd_get_len {ox : Obj} {Q : Fin → Shared → Prop} (hx : h.get? x = some ox) (hc : ox.cls = .ref C) (hs : Looks M h (isSubtype (.ref C) (.type "list")) true)
    (hq : Q (.done (.ret (.ref h.objs.size))) ⟨h.push { cls := .type "method-wrapper", data := .fields #[.builtin "list.__len__", .ref x] }, g, d, t, os⟩) :
    wpAny M A (Builtin.«wrapper_descriptor.__get__» ⟨[.builtin "list.__len__", .ref x, .ref C], []⟩) Q E ⟨h, g, d, t, os⟩ := by
  have e1 : ".".intercalate ("list.__len__".cutAt '.').dropLast = "list" := by decide +kernel
  unfold Builtin.«wrapper_descriptor.__get__»
  repeat (first | (with_reducible refine wpAny_loadPart_at hx ?_) | wp_step | (rw [hc]) | (rw [e1]; (with_reducible refine Looks.at hs ?_)) | (unfold newFields; (with_reducible refine wpAny_newObj_type ?_ (by size_fits))) | dsimp only)
  all_goals first | exact hq | trace_state
theorem wd_get_init {ox : Obj} {Q : Fin → Shared → Prop} (hx : h.get? x = some ox) (hc : ox.cls = .ref C) (hs : Looks M h (isSubtype (.ref C) (.type "list")) true)
    (hq : Q (.done (.ret (.ref h.objs.size))) ⟨h.push { cls := .type "method-wrapper", data := .fields #[.builtin "list.__init__", .ref x] }, g, d, t, os⟩) :
    wpAny M A (Builtin.«wrapper_descriptor.__get__» ⟨[.builtin "list.__init__", .ref x, .ref C], []⟩) Q E ⟨h, g, d, t, os⟩ := by
  have e1 : ".".intercalate ("list.__init__".cutAt '.').dropLast = "list" := by decide +kernel
  unfold Builtin.«wrapper_descriptor.__get__»
  repeat (first | (with_reducible refine wpAny_loadPart_at hx ?_) | wp_step | (rw [hc]) | (rw [e1]; (with_reducible refine Looks.at hs ?_)) | (unfold newFields; (with_reducible refine wpAny_newObj_type ?_ (by size_fits))) | dsimp only)
  all_goals first | exact hq | trace_state
theorem md_get_pop {ox : Obj} {Q : Fin → Shared → Prop} (hx : h.get? x = some ox) (hc : ox.cls = .ref C) (hs : Looks M h (isSubtype (.ref C) (.type "list")) true)
    (hq : Q (.done (.ret (.ref h.objs.size))) ⟨h.push { cls := .type "builtin_function_or_method", data := .fields #[.builtin "list.pop", .ref x] }, g, d, t, os⟩) :
    wpAny M A (Builtin.«method_descriptor.__get__» ⟨[.builtin "list.pop", .ref x, .ref C], []⟩) Q E ⟨h, g, d, t, os⟩ := by
  have e1 : ".".intercalate ("list.pop".cutAt '.').dropLast = "list" := by decide +kernel
  unfold Builtin.«method_descriptor.__get__»
  repeat (first | (with_reducible refine wpAny_loadPart_at hx ?_) | wp_step | (rw [hc]) | (rw [e1]; (with_reducible refine Looks.at hs ?_)) | (unfold newFields; (with_reducible refine wpAny_newObj_type ?_ (by size_fits))) | dsimp only)
  all_goals first | exact hq | trace_state
end
end Mine
end
section
open PySem PySem.W PyProof.Rows PySem.Calls PySem.Spec
set_option maxRecDepth 100000
set_option maxHeartbeats 1000000
namespace Mine
/-- what a bound built-in is on the heap -/
noncomputable abbrev boundB (bt id : String) (x : Addr) : Obj := { cls := .type bt, data := .fields #[.builtin id, .ref x] }
section
variable {prog : Program} {w : World} {A : Around} {E : Value → Shared → Prop} {h : Heap} {g : Array GenState} {d : Drawn} {t : Nat} {os : OsState} {x C D so : Addr}
theorem sb_super_ga {id wd gid bt : String} {Bi : Builtin} {l₀ l : List Value} {K : Frag} {name : Str} {tk : Tok} {Q : Fin → Shared → Prop}
    (hso : h.get? so = some { cls := .type "super", dict := none, data := .fields #[.ref D, .ref x, .ref C], slots := #[] }) (hno : Looks (model prog w) h (opaqueClassAbove (.ref C)) none)
    (hC : Looks (model prog w) h (mroOf (.ref C)) l₀) (hl : (l₀.dropWhile (· != .ref D)).drop 1 = l) (X : K.In h)
    (hf : alongIn K name l = some (some (.builtin id))) (ht : typeOf (.builtin id) = pure (.type wd)) (sl : Slot wd "__get__" gid) (en : entryFor table gid = some Bi) (ag : argsOk gid ⟨[.builtin id, .ref x, .ref C], []⟩)
    (hget : ∀ {M : Model} {A : Around} {Q : Fin → Shared → Prop} {E : Value → Shared → Prop}, M = model prog w → Q (.done (.ret (.ref h.objs.size))) ⟨h.push (boundB bt id x), g, d, t, os⟩ → wpAny M A (Bi ⟨[.builtin id, .ref x, .ref C], []⟩) Q E ⟨h, g, d, t, os⟩)
    (hxC : x ≠ C) (hn : (name == ("__class__" : Str)) = false)
    (hq : Q (.done (.ret (.ref h.objs.size))) ⟨h.push (boundB bt id x), g, d, t, os⟩) :
    wpAny (model prog w) A (Builtin.«super.__getattribute__» ⟨[.ref so, .str name tk], []⟩) Q E ⟨h, g, d, t, os⟩ := by
  have hlk := sl.lookup
  have hne : (Value.ref x == Value.ref C) = false := by simp [hxC]
  have hTf : (⟨h, g, d, t, os⟩ : Shared).TypeIs (.builtin id) wd := ht
  have hdt : ({ cls := .type "super", dict := none, data := .fields #[.ref D, .ref x, .ref C], slots := #[] } : Obj).data = .fields #[.ref D, .ref x, .ref C] := rfl
  have f0 : (#[.ref D, .ref x, .ref C] : Array Value)[0]? = some (.ref D) := rfl
  have f1 : (#[.ref D, .ref x, .ref C] : Array Value)[1]? = some (.ref x) := rfl
  have f2 : (#[.ref D, .ref x, .ref C] : Array Value)[2]? = some (.ref C) := rfl
  unfold Builtin.«super.__getattribute__»
  repeat (first
    | (with_reducible refine wpAny_field hso hdt f0 ?_) | (with_reducible refine wpAny_field hso hdt f1 ?_) | (with_reducible refine wpAny_field hso hdt f2 ?_)
    | (with_reducible refine ks_wpAny_notOpaque hno ?_)
    | (with_reducible refine Looks.at hC ?_; rw [hl])
    | (refine ks_forIn_along X (fun _ _ => rfl) rfl ?_ hf)
    | (with_reducible refine wpAny_typeOf hTf ?_)
    | (with_reducible refine wpAny_call_entry sl hTf en ?_ ag)
    | (with_reducible refine hget rfl ?_)
    | (with_reducible refine ⟨_, rfl, ?_⟩)
    | (simp only [hn, hne, Bool.or_false, Bool.false_eq_true, if_false])
    | wp_step
    | dsimp only)
  all_goals first | exact hq | trace_state

theorem sb_getMethod {id wd gid bt : String} {Bi : Builtin} {l₀ l : List Value} {K : Frag} {name : Str} {pl : Sem Bool} {Q : Value × List Value → Shared → Prop}
    (hso : h.get? so = some { cls := .type "super", dict := none, data := .fields #[.ref D, .ref x, .ref C], slots := #[] }) (hno : Looks (model prog w) h (opaqueClassAbove (.ref C)) none)
    (hC : Looks (model prog w) h (mroOf (.ref C)) l₀) (hl : (l₀.dropWhile (· != .ref D)).drop 1 = l) (X : K.In h)
    (hf : alongIn K name l = some (some (.builtin id))) (ht : typeOf (.builtin id) = pure (.type wd)) (sl : Slot wd "__get__" gid) (en : entryFor table gid = some Bi) (ag : argsOk gid ⟨[.builtin id, .ref x, .ref C], []⟩)
    (hget : ∀ {t' : Nat} {M : Model} {A : Around} {Q : Fin → Shared → Prop} {E : Value → Shared → Prop}, M = model prog w → Q (.done (.ret (.ref h.objs.size))) ⟨h.push (boundB bt id x), g, d, t', os⟩ → wpAny M A (Bi ⟨[.builtin id, .ref x, .ref C], []⟩) Q E ⟨h, g, d, t', os⟩)
    (hxC : x ≠ C) (hn : (name == ("__class__" : Str)) = false)
    (hq : Q (.ref h.objs.size, []) ⟨h.push (boundB bt id x), g, d, t + 1, os⟩) :
    wpAny (model prog w) A (getMethod (.ref so) name pl) Q E ⟨h, g, d, t, os⟩ := by
  have hlk := F.ks_slot_super_ga.lookup
  have hcan := F.ks_canon_super_ga
  have hT : ∀ t', (⟨h, g, d, t', os⟩ : Shared).TypeIs (.ref so) "super" := fun _ => ⟨_, hso, rfl⟩
  unfold getMethod
  refine wpAny_bind (wpAny_specialOf (hT _) hlk ?_)
  show wpAny _ _ (if (Manifest.canonical "super.__getattribute__" != "object.__getattribute__") = true then _ else _) _ _ _
  rw [if_pos hcan]
  unfold getAttr getAttrBy
  refine wpAny_bind (wpAny_bind (wpAny_mkText (wpAny_holding (wpAny_bind (wpAny_typeOf (hT _) (wpAny_bind (wpAny_of_eq hlk ?_)))))))
  show wpAny _ _ (getAttrByItsOwn (.ref so) (.str name t) (.type "super") (.builtin "super.__getattribute__") true false) _ _ _
  unfold getAttrByItsOwn hookBefore callGetattribute boundAndCalled
  refine wpAny_bind (wpAny_of_eq (show (if onTheHeap (.type "super") then typeLookup (.type "super") "__getattr__" else pure none) = pure none from rfl) ?_)
  refine wpAny_bind (wpAny_attempt (wpAny_holding ?_))
  show wpAny _ _ (bindSpecial (.builtin "super.__getattribute__") (.ref so) >>= _) _ _ _
  refine wpAny_bind (wpAny_of_eq (F.ks_slot_super_ga.bind _) ?_)
  refine wpAny_mono (Q := fun v s' => v = .ref h.objs.size ∧ s' = ⟨h.push (boundB bt id x), g, d, t + 1, os⟩) (E := fun _ _ => False)
    (wpAny_call_entry F.ks_slot_super_ga (hT _) F.ks_entry_super_ga (sb_super_ga hso hno hC hl X hf ht sl en ag hget hxC hn ⟨_, rfl, rfl, rfl⟩) (F.ks_gaArgs_super _ _)) (fun v s' hv => ?_) fun _ _ z => z.elim
  obtain ⟨rfl, rfl⟩ := hv
  exact wpAny_pure (wpAny_pure hq)
end
section
variable {prog : Program} {w : World} {A : Around} {E : Value → Shared → Prop} {s : Shared} {h₀ : Heap} {L : Addr} {m : Str → Option Value} {news : List (Addr × Obj)} {K : Frag} {x C D so q : Addr} {ox : Obj} {odx : Option Obj}
theorem sb_method {id wd gid bt : String} {Bi : Builtin} {name : Str} {pl : Sem Bool} {Q : Value × List Value → Shared → Prop} (F : Fr h₀ L s.heap m) (X₀ : K.In h₀) (N : News h₀ L s.heap news) (hso : (so, ks_superObj D x C) ∈ news) (I : InstAt s.heap x ox C odx) (ho : nsIn K cStatics "thirdparty.any" = some none)
    (hm : ks_superIn K C D name = some (some (.builtin id))) (ht : typeOf (.builtin id) = pure (.type wd)) (sl : Slot wd "__get__" gid) (en : entryFor table gid = some Bi) (ag : argsOk gid ⟨[.builtin id, .ref x, .ref C], []⟩) (hp : listOver K C = true)
    (hget : ∀ {h : Heap} {g : Array GenState} {d : Drawn} {os : OsState} {t' : Nat} {ox : Obj} {M : Model} {A : Around} {Q : Fin → Shared → Prop} {E : Value → Shared → Prop}, h.get? x = some ox → ox.cls = .ref C → Looks M h (isSubtype (.ref C) (.type "list")) true →
       Q (.done (.ret (.ref h.objs.size))) ⟨h.push (boundB bt id x), g, d, t', os⟩ → wpAny M A (Bi ⟨[.builtin id, .ref x, .ref C], []⟩) Q E ⟨h, g, d, t', os⟩)
    (hn : (name == ("__class__" : Str)) = false)
    (h : ∀ q h', Fr h₀ L h' m → News h₀ L h' ((q, boundB bt id x) :: news) → (∀ p ∈ news, p.1 < q) → Q (.ref q, []) { s with heap := h', toks := s.toks + 1 }) : wpAny (model prog w) A (getMethod (.ref so) name pl) Q E s := by
  have X : K.In s.heap := X₀.keeps F.keep
  obtain ⟨hh, g, d, t, os⟩ := s
  cases hc : clsIn K C with
  | none => unfold ks_superIn at hm; rw [hc] at hm; cases hm
  | some cd =>
    unfold ks_superIn at hm
    rw [hc] at hm
    refine sb_getMethod (bt := bt) (N _ hso).1 (looks_opaque X ho) (l₀ := cd.mro) ?_ rfl X hm ht sl en ag ?_ (ks_ne X I hc) hn ?_
    · exact fun A Q E s k q => wpAny_bind ((looks_clsIn X hc) A _ E s k (wpAny_pure q))
    · intro t' M A' Q' E' hM hQ
      exact hget I.at_ I.cls (hM ▸ looks_mroIn X (listOver_in hp)) hQ
    · obtain ⟨F', N', l'⟩ := ks_newsPush (s := ⟨hh, g, d, t, os⟩) (o := boundB bt id x) F N rfl (Heap.get?_push_at rfl rfl) (fun b o e => Heap.get?_push_of_some _ e)
      exact h _ _ F' N' l'
theorem sb_len {name : Str} {pl : Sem Bool} {Q : Value × List Value → Shared → Prop} (F : Fr h₀ L s.heap m) (X₀ : K.In h₀) (N : News h₀ L s.heap news) (hso : (so, ks_superObj D x C) ∈ news) (I : InstAt s.heap x ox C odx) (ho : nsIn K cStatics "thirdparty.any" = some none)
    (hm : ks_superIn K C D name = some (some (.builtin "list.__len__"))) (hp : listOver K C = true) (hn : (name == ("__class__" : Str)) = false)
    (h : ∀ q h', Fr h₀ L h' m → News h₀ L h' ((q, boundB "method-wrapper" "list.__len__" x) :: news) → (∀ p ∈ news, p.1 < q) → Q (.ref q, []) { s with heap := h', toks := s.toks + 1 }) : wpAny (model prog w) A (getMethod (.ref so) name pl) Q E s :=
  sb_method F X₀ N hso I ho hm Ft.type_len Ft.slot_wd_get Ft.entry_wd_get (Ft.args_wd _ _ _) hp (fun hx hc hs hq => wd_get_len hx hc hs hq) hn h
theorem sb_init {name : Str} {pl : Sem Bool} {Q : Value × List Value → Shared → Prop} (F : Fr h₀ L s.heap m) (X₀ : K.In h₀) (N : News h₀ L s.heap news) (hso : (so, ks_superObj D x C) ∈ news) (I : InstAt s.heap x ox C odx) (ho : nsIn K cStatics "thirdparty.any" = some none)
    (hm : ks_superIn K C D name = some (some (.builtin "list.__init__"))) (hp : listOver K C = true) (hn : (name == ("__class__" : Str)) = false)
    (h : ∀ q h', Fr h₀ L h' m → News h₀ L h' ((q, boundB "method-wrapper" "list.__init__" x) :: news) → (∀ p ∈ news, p.1 < q) → Q (.ref q, []) { s with heap := h', toks := s.toks + 1 }) : wpAny (model prog w) A (getMethod (.ref so) name pl) Q E s :=
  sb_method F X₀ N hso I ho hm Ft.type_init Ft.slot_wd_get Ft.entry_wd_get (Ft.args_wd _ _ _) hp (fun hx hc hs hq => wd_get_init hx hc hs hq) hn h
theorem sb_pop {name : Str} {pl : Sem Bool} {Q : Value × List Value → Shared → Prop} (F : Fr h₀ L s.heap m) (X₀ : K.In h₀) (N : News h₀ L s.heap news) (hso : (so, ks_superObj D x C) ∈ news) (I : InstAt s.heap x ox C odx) (ho : nsIn K cStatics "thirdparty.any" = some none)
    (hm : ks_superIn K C D name = some (some (.builtin "list.pop"))) (hp : listOver K C = true) (hn : (name == ("__class__" : Str)) = false)
    (h : ∀ q h', Fr h₀ L h' m → News h₀ L h' ((q, boundB "builtin_function_or_method" "list.pop" x) :: news) → (∀ p ∈ news, p.1 < q) → Q (.ref q, []) { s with heap := h', toks := s.toks + 1 }) : wpAny (model prog w) A (getMethod (.ref so) name pl) Q E s :=
  sb_method F X₀ N hso I ho hm Ft.type_pop Ft.slot_md_get Ft.entry_md_get (Ft.args_md _ _ _) hp (fun hx hc hs hq => md_get_pop hx hc hs hq) hn h

theorem keeps_B {bt id : String} (hb : (bt == "builtin_function_or_method" || bt == "method-wrapper") = true) (h : Heap) (X : h.get? q = some (boundB bt id x)) : ∃ k, (k = Keeper.frame ∨ k = Keeper.machine ∨ k = Keeper.boundFrame) ∧ Looks (model prog w) h (keeperOf (.ref q)) k := by
  refine ⟨.machine, .inr (.inl rfl), (Looks.ld (part := none) X).andThen ?_⟩
  rcases Bool.or_eq_true_iff.mp hb with e | e <;>
  · rw [eq_of_beq e]; exact .now
theorem callWith_B0 {bt id : String} {pos : Pos} {first : List Value} {env : Env} {Q : Value → Shared → Prop} (hb : (bt == "builtin_function_or_method" || bt == "method-wrapper") = true) (N : News h₀ L s.heap news) (hm : (q, boundB bt id x) ∈ news) (h : wpAny (model prog w) A (call (.ref q) (first ++ [])) Q E s) :
    wpAny (model prog w) A (callWith pos (.ref q) first (backTo pos (starEach [] env)) []) Q E s :=
  callWith_of (P := fun h => h.get? q = some (boundB bt id x)) rfl (keeps_B hb) (evalArgs_nil3 ⟨(N _ hm).1, h⟩)

theorem call_B0 {bt id : String} {Bi : Builtin} {Q : Value → Shared → Prop} (hb : bt = "builtin_function_or_method" ∨ bt = "method-wrapper") (N : News h₀ L s.heap news) (hm : (q, boundB bt id x) ∈ news) (pl : plainId id = true) (en : entryFor table id = some Bi)
    (hck : ∀ {Q' : Unit → Shared → Prop}, Q' () s → wpAny (model prog w) A.in1 (checkBoundCall id ⟨[.ref x], []⟩) Q' E s)
    (h : wpAny (model prog w) A.in1 (Bi ⟨[.ref x], []⟩) (fun fin s' => ∃ v, fin = .done (.ret v) ∧ Q v s') E s) : wpAny (model prog w) A (call (.ref q) []) Q E s := by
  refine wpAny_call (codeAny_of_tree ?_)
  show wpAny _ A.in1 (callAny (.ref q) ⟨[], []⟩) _ _ _
  unfold callAny
  refine wpAny_bind (wpAny_load (N _ hm).1 ?_)
  dsimp only
  rw [if_pos (by rcases hb with rfl | rfl <;> decide)]
  have hne : (Value.type bt != .type "method") = true := by rcases hb with rfl | rfl <;> decide
  show wpAny _ _ (if (Value.type bt != .type "method") = true then _ else _) _ _ _
  rw [if_pos hne]
  refine wpAny_bind (hck (wpAny_pure ⟨plainId_quiet pl _, codeAny_builtin en ?_⟩))
  rw [Around.under_plainId pl _]
  refine wpAny_mono h (fun fin s' hv => ?_) fun _ _ z => z
  obtain ⟨v, rfl, hv⟩ := hv
  exact hv

theorem ck_slot {M : Model} {id : String} {y : Value} {rest : List Value} {Q' : Unit → Shared → Prop} (hk : builtinKind id = some .slot) (ha : argsOk id ⟨y :: rest, []⟩) (h : Q' () s) : wpAny M A (checkBoundCall id ⟨y :: rest, []⟩) Q' E s := by
  unfold checkBoundCall
  cases hsig : Manifest.signature? id with
  | none => exact wpAny_pure h
  | some sig =>
    simp only [argsOk, hsig] at ha
    have h2 : Bind.checkArgs id sig ⟨y :: rest, []⟩ = pure () := ha
    rw [hk]
    dsimp only
    rw [if_pos (by decide), h2]
    exact wpAny_pure h
theorem supLen {vs : Array Value} {n : Nat} {Q : Value → Shared → Prop} (N : News h₀ L s.heap news) (hm : (q, boundB "method-wrapper" "list.__len__" x) ∈ news) {o : Obj} (ho : s.heap.get? x = some o) (hd : o.data = .seq vs n)
    (h : Q (.int vs.size s.toks) { s with toks := s.toks + 1 }) : wpAny (model prog w) A (call (.ref q) []) Q E s := by
  refine call_B0 (.inr rfl) N hm PySem.F.slot_list_len.plain PySem.F.entry_list_len (fun h => ck_slot (by decide +kernel) (PySem.F.args_list_len_1 _) h) ?_
  unfold Builtin.«list.__len__»
  refine wpAny_bind (wpAny_pure ?_)
  dsimp only
  refine wpAny_bind ?_
  unfold seqSize
  refine wpAny_bind (wpAny_loadPart ho ?_)
  rw [hd]
  exact wpAny_pure (wpAny_bind (wpAny_mkInt (wpAny_pure ⟨_, rfl, h⟩)))

end
end Mine
end
section
open PySem PySem.W PyProof.Rows PySem.Calls PySem.Spec
set_option maxRecDepth 100000
set_option maxHeartbeats 1000000
namespace Mine
section
variable {prog : Program} {w : World} {A : Around} {E : Value → Shared → Prop} {s : Shared} {h₀ : Heap} {L : Addr} {m : Str → Option Value} {news : List (Addr × Obj)} {K : Frag} {x C D so q : Addr} {ox : Obj} {odx : Option Obj}
theorem pop_args : ∀ sig, Manifest.signature? "list.pop" = some sig → Bind.checkArgs "list.pop" { sig with full := "_Accumulator.pop" } ⟨[.ref x], []⟩ = pure () := by
  intro sig h
  have e : Manifest.signature? "list.pop" = some (((Manifest.signature? "list.pop").get (by decide +kernel))) := by simp
  rw [e] at h
  cases h
  kernel_rfl
theorem ck_pop {cd : ClassData} {Q' : Unit → Shared → Prop} (X : K.In s.heap) (I : InstAt s.heap x ox C odx) (hc : clsIn K C = some cd) (hq : cd.qualname = "_Accumulator") (ht : typeIn K (.ref C) = some (.type "type")) (hp : listOver K C = true) (h : Q' () s) :
    wpAny (model prog w) A (checkBoundCall "list.pop" ⟨[.ref x], []⟩) Q' E s := by
  obtain ⟨hp', g, d, t, os⟩ := s
  unfold checkBoundCall
  cases hsig : Manifest.signature? "list.pop" with
  | none => exact wpAny_pure h
  | some sig =>
    have hk : builtinKind "list.pop" = some .method := by decide +kernel
    rw [hk]
    dsimp only
    rw [if_neg (by decide)]
    obtain ⟨cd', hc', hmro⟩ := listOver_mro hp
    rw [hc] at hc'
    cases hc'
    have hm : Looks (model prog w) hp' (isInstance (.ref x) (.type "module")) false := I.type.andThen (looks_mroIn X (by unfold mroIn; rw [hc, Option.bind_some, hmro]; rfl))
    refine wpAny_bind (hm.at ?_)
    rw [if_neg (by decide +kernel)]
    refine wpAny_bind (ks_wpAny_isType_inst I.at_ (fun c e => ?_) ?_)
    · have := I.no
      unfold notCls at this
      rw [e] at this
      exact Bool.noConfusion this
    rw [if_neg (by decide)]
    refine wpAny_bind (I.type.at ?_)
    dsimp only
    refine wpAny_bind ((looks_clsIn X hc).at (wpAny_bind ((looks_typeIn X ht).at ?_)))
    rw [if_pos (by decide), hq]
    have e : toString (Str.ofString "_Accumulator").toString ++ toString "." ++ toString (Bind.lastOf "list.pop") = "_Accumulator.pop" := by decide +kernel
    rw [e, pop_args sig hsig]
    exact wpAny_pure h

/-- super().pop() on an object of a class made of list -/
theorem supPop {cd : ClassData} {v : Value} {vs : List Value} {dx : Option Addr} {n : Nat} {sl : Array (Option Value)} {news' : List (Addr × Obj)} {Q : Value → Shared → Prop} (F : Fr h₀ L s.heap m) (X₀ : K.In h₀) (N : News h₀ L s.heap news) (hm : (q, boundB "builtin_function_or_method" "list.pop" x) ∈ news)
    (I : InstAt s.heap x ⟨.ref C, dx, .seq (vs ++ [v]).toArray n, sl⟩ C odx) (hc : clsIn K C = some cd) (hq : cd.qualname = "_Accumulator") (ht : typeIn K (.ref C) = some (.type "type")) (hp : listOver K C = true) (hz : vs.length ≤ 1000)
    (U : Upd x ⟨.ref C, dx, .seq (vs ++ [v]).toArray n, sl⟩ ⟨.ref C, dx, .seq vs.toArray (n + 1), sl⟩ news news')
    (h : ∀ h', Fr h₀ L h' m → News h₀ L h' news' → Q v { s with heap := h' }) : wpAny (model prog w) A (call (.ref q) []) Q E s := by
  refine call_B0 (.inl rfl) N hm PySem.F.slot_list_pop.plain PySem.F.entry_list_pop (fun h => ck_pop (X₀.keeps F.keep) I hc hq ht hp h) ?_
  obtain ⟨pre, post, rfl, rfl, a, b⟩ := U.split
  have ho := I.at_
  unfold Builtin.«list.pop»
  refine wpAny_bind (wpAny_pure ?_)
  dsimp only
  refine wpAny_bind (wpAny_pure ?_)
  rw [if_neg (by decide)]
  unfold Builtin.List.listItems
  refine wpAny_bind (wpAny_bind (wpAny_seqItems ho rfl (wpAny_pure ?_)))
  rw [if_neg (by simp)]
  have e1 : seqIndex? (-1) (vs ++ [v]).toArray.size = some vs.length := by
    unfold seqIndex?
    have e0 : (vs ++ [v]).toArray.size = vs.length + 1 := by simp
    rw [e0]
    simp only [show ((-1 : Int) < 0) = True by simp, if_true]
    rw [if_pos (by simp; omega)]
    congr 1
    omega
  have e2 : (vs ++ [v]).toArray[vs.length]? = some v := by simp
  rw [e1, Option.bind_some, e2]
  dsimp only [Option.map_some]
  have e3 : (vs ++ [v]).toArray.eraseIdxIfInBounds vs.length = vs.toArray := by
    simp [Array.eraseIdxIfInBounds, List.eraseIdx_append_of_length_le]
  have hm' : (Obj.mapSeq (·.eraseIdxIfInBounds vs.length)) ⟨.ref C, dx, .seq (vs ++ [v]).toArray n, sl⟩ = ⟨.ref C, dx, .seq vs.toArray (n + 1), sl⟩ := by
    unfold Obj.mapSeq
    dsimp only
    rw [e3, if_neg (by simp)]
  obtain ⟨U1, U2⟩ := news_upd (f := Obj.mapSeq (·.eraseIdxIfInBounds vs.length)) F N a b hm' rfl
  have z1 : (vs ++ [v]).toArray.size ≤ sizeLine := by rw [sizeLine_eq, List.size_toArray, List.length_append, List.length_singleton]; omega
  have z2 : ((vs ++ [v]).toArray.eraseIdxIfInBounds vs.length).size ≤ sizeLine + 1 := by rw [e3, sizeLine_eq, List.size_toArray]; omega
  exact wpAny_bind (wpAny_updateSeq ho rfl (wpAny_pure ⟨v, rfl, h _ U1 U2⟩) z1 z2)

/-- super().__init__() on an empty object of a class made of list -/
theorem supInit {dx : Option Addr} {n : Nat} {sl : Array (Option Value)} {news' : List (Addr × Obj)} {Q : Value → Shared → Prop} (F : Fr h₀ L s.heap m) (N : News h₀ L s.heap news) (hm : (q, boundB "method-wrapper" "list.__init__" x) ∈ news)
    (hx : (x, (⟨.ref C, dx, .seq #[] n, sl⟩ : Obj)) ∈ news)
    (U : Upd x ⟨.ref C, dx, .seq #[] n, sl⟩ ⟨.ref C, dx, .seq #[] n, sl⟩ news news')
    (h : ∀ h', Fr h₀ L h' m → News h₀ L h' news' → Q .none { s with heap := h' }) : wpAny (model prog w) A (call (.ref q) []) Q E s := by
  have ho := (N _ hx).1
  refine call_B0 (.inr rfl) N hm PySem.F.slot_list_init.plain PySem.F.entry_list_init (fun h => ck_slot (by decide +kernel) (PySem.F.args_list_init_1 _) h) ?_
  obtain ⟨pre, post, rfl, rfl, a, b⟩ := U.split
  unfold Builtin.«list.__init__»
  dsimp only
  rw [if_neg (by decide)]
  rw [if_neg (by decide)]
  unfold Builtin.List.listItems
  refine wpAny_bind (wpAny_bind (wpAny_seqItems ho rfl (wpAny_pure ?_)))
  have hm' : (Obj.mapSeq (fun _ => #[])) ⟨.ref C, dx, .seq #[] n, sl⟩ = ⟨.ref C, dx, .seq #[] n, sl⟩ := rfl
  obtain ⟨U1, U2⟩ := news_upd (f := Obj.mapSeq (fun _ => #[])) F N a b hm' rfl
  refine wpAny_bind (wpAny_updateSeq ho rfl ?_ (by simp) (by simp))
  refine wpAny_bind (wpAny_letGo (wpAny_pure ⟨_, rfl, h _ U1 U2⟩))
end
end Mine
end
section
open PySem PySem.W PyProof.Rows PySem.Calls PySem.Spec
set_option maxRecDepth 100000
set_option maxHeartbeats 1000000
namespace Mine
section
variable {prog : Program} {w : World} {A : Around} {E : Value → Shared → Prop} {s : Shared} {h₀ : Heap} {L : Addr} {m : Str → Option Value} {news : List (Addr × Obj)} {K : Frag} {x C : Addr} {ox : Obj} {odx : Option Obj}
theorem special_bi {id : String} {name : Str} {args : List Value} {Q : Option Value → Shared → Prop} (X : K.In s.heap) (I : InstAt s.heap x ox C odx) (hs : findIn K (.ref C) name = some (some (.builtin id)))
    (hb : bindSpecial (.builtin id) (.ref x) = pure (.builtin id, [.ref x])) (h : wpAny (model prog w) A (call (.builtin id) (.ref x :: args)) (fun v => Q (some v)) E s) : wpAny (model prog w) A (callSpecial? (.ref x) name args) Q E s := by
  unfold callSpecial? specialOf
  refine wpAny_bind (wpAny_bind (I.type.here ((looks_findIn X hs).here ?_)))
  refine wpAny_holding ?_
  rw [hb]
  refine wpAny_bind (wpAny_pure ?_)
  exact wpAny_bind (wpAny_mono h (fun v s' hv => wpAny_pure hv) fun _ _ z => z)

theorem getItem_bi {id : String} {i : Value} {Q : Value → Shared → Prop} (X : K.In s.heap) (I : InstAt s.heap x ox C odx) (hq : noSeq K C = true) (hs : findIn K (.ref C) "__getitem__" = some (some (.builtin id)))
    (hb : bindSpecial (.builtin id) (.ref x) = pure (.builtin id, [.ref x])) (h : wpAny (model prog w) A (call (.builtin id) [.ref x, i]) Q E s) : wpAny (model prog w) A (getItem (.ref x) i) Q E s := by
  unfold getItem sequenceKey
  refine wpAny_holding (wpAny_bind (wpAny_bind (I.type.here ?_)))
  refine wpAny_bind ((anyM_none X hq).here ?_)
  rw [if_pos (show (!false) = true from rfl)]
  exact wpAny_pure (wpAny_bind (special_bi X I hs hb (wpAny_mono h (fun _ _ z => wpAny_pure z) fun _ _ z => z)))
theorem setItem_bi {id : String} {i v : Value} {Q : Unit → Shared → Prop} (X : K.In s.heap) (I : InstAt s.heap x ox C odx) (hq : noSeq K C = true) (hs : findIn K (.ref C) "__setitem__" = some (some (.builtin id)))
    (hb : bindSpecial (.builtin id) (.ref x) = pure (.builtin id, [.ref x])) (h : wpAny (model prog w) A (call (.builtin id) [.ref x, i, v]) (fun _ => Q ()) E s) : wpAny (model prog w) A (setItem (.ref x) i v) Q E s := by
  unfold setItem sequenceKey
  refine wpAny_holding (wpAny_bind (wpAny_bind (I.type.here ?_)))
  refine wpAny_bind ((anyM_none X hq).here ?_)
  rw [if_pos (show (!false) = true from rfl)]
  exact wpAny_pure (wpAny_bind (special_bi X I hs hb (wpAny_mono h (fun _ _ z => wpAny_pure z) fun _ _ z => z)))
theorem tail_bi {id : String} {value slice : Expr} {i : Value} {ops : List Value} {Q : Value → Shared → Prop} (X : K.In s.heap) (I : InstAt s.heap x ox C odx) (hs' : findIn K (.ref C) "__getitem__" = some (some (.builtin id)))
    (hg : wpAny (model prog w) A (getItem (.ref x) i) Q E s) (hs : subscripted slice false (.ref x) i = operate ops (getItem (.ref x) i)) : wpAny (model prog w) A (subscriptTail value slice (.ref x) i) Q E s := by
  unfold subscriptTail getitemInPython specialOf
  refine wpAny_bind (wpAny_bind (wpAny_bind (I.type.here ((looks_findIn X hs').here ?_))))
  dsimp only
  refine wpAny_pure ?_
  rw [hs]
  exact wpAny_bind (wpAny_operating (wpAny_mono hg (fun r s₃ h₃ => wpAny_bind (wpAny_letTemporaryGo (wpAny_pure h₃))) fun _ _ x => x))

/-- a slice of an object of a class made of list -/
theorem al_slice {sl : Addr} {items : Array Value} {n : Nat} {vl vu vs : Value} {lo hi st : Option Int} {Q : Value → Shared → Prop} (X : K.In s.heap) (I : InstAt s.heap x ox C odx) (hp : listOver K C = true) (hd : ox.data = .seq items n)
    (hs : s.heap.IsSliceOf sl vl vu vs) (pl : IsPart vl lo) (pu : IsPart vu hi) (ps : IsPart vs st) (h0 : st ≠ some 0)
    (h : Q (.ref s.heap.objs.size) { s with heap := s.heap.push { cls := .type "list", data := .seq (slicePick items lo hi st) } })
    (hsz : items.size ≤ sizeLine) : wpAny (model prog w) A (call (.builtin "list.__getitem__") [.ref x, .ref sl]) Q E s := by
  obtain ⟨os, hos, hcs, hds⟩ := id hs
  have hTs : s.TypeIs (.ref sl) "slice" := ⟨os, hos, hcs⟩
  refine wpAny_call (codeAny_call_builtin PySem.F.slot_list_getitem.plain PySem.F.entry_list_getitem (chkL (M := model prog w) (s := s) (i := "list.__getitem__") (n := "__getitem__") (self := .ref x) (rest := [.ref sl]) (kw := []) (.inr (by decide +kernel)) (by decide +kernel) (acc_isList X I (listOver_in hp)) (by first | exact PySem.F.args_list_getitem_2 _ _ | exact args_list_getitem _ _) ?_))
  show wpAny _ _ (Builtin.List.listSubscript? (.ref sl) >>= _) _ _ s
  refine wpAny_bind ?_
  unfold Builtin.List.listSubscript?
  refine wpAny_bind (wpAny_specialOf hTs slice_no_index ?_)
  simp only [Option.isNone_none, if_true]
  refine wpAny_pure ?_
  show wpAny _ _ (typeOf (.ref sl) >>= _) _ _ s
  refine wpAny_bind (wpAny_typeOf hTs ?_)
  rw [if_neg (by decide)]
  rw [listSliceParts_eq]
  have hstep : ¬ ((rawPart st == rawInt 0) = true) := by
    cases st with
    | none => exact Bool.false_ne_true
    | some c =>
      intro hh
      have : c = 0 := by simpa [rawPart, rawInt] using hh
      exact h0 (by rw [this])
  refine wpAny_bind (wpAny_bind (wpAny_field hos hds (x := vs) rfl (wpAny_bind (wpAny_listPart ps ?_))))
  rw [if_neg hstep]
  refine wpAny_bind (wpAny_field hos hds (x := vl) rfl (wpAny_bind (wpAny_listPart pl ?_)))
  refine wpAny_bind (wpAny_field hos hds (x := vu) rfl (wpAny_bind (wpAny_listPart pu (wpAny_pure ?_))))
  refine wpAny_bind (m := Builtin.List.listItems (.ref x)) ?_
  unfold Builtin.List.listItems
  refine wpAny_bind (wpAny_seqItems I.at_ hd (wpAny_pure ?_))
  refine wpAny_bind (wpAny_of_eq (sliceIndices_raw lo hi st items.size h0) ?_)
  exact wpAny_bind (wpAny_newObj_type (wpAny_pure h) (Nat.le_trans (slicePick_size_le items lo hi st) hsz))

/-- slice assignment (step one) from a plain list -/
theorem al_setSlice {sl l : Addr} {items new : Array Value} {n : Nat} {vl vu : Value} {lo hi : Option Int} {Q : Value → Shared → Prop} (X : K.In s.heap) (I : InstAt s.heap x ox C odx) (hp : listOver K C = true) (hd : ox.data = .seq items n)
    (hs : s.heap.IsSliceOf sl vl vu .none) (pl : IsPart vl lo) (pu : IsPart vu hi) (hl : s.heap.IsList l new) (hxl : x ≠ l)
    (h : Q .none { s with heap := s.heap.update x (Obj.mapSeq fun xs => xs.extract 0 (sliceBounds lo hi none items.size).1.toNat ++ new ++ xs.extract (max (sliceBounds lo hi none items.size).1 (sliceBounds lo hi none items.size).2.1).toNat xs.size) })
    (hsz : items.size ≤ 1000) (hsn : new.size ≤ 1000) : wpAny (model prog w) A (call (.builtin "list.__setitem__") [.ref x, .ref sl, .ref l]) Q E s := by
  obtain ⟨os, hos, hcs, hds⟩ := id hs
  have hTs : s.TypeIs (.ref sl) "slice" := ⟨os, hos, hcs⟩
  refine wpAny_call (codeAny_call_builtin PySem.F.slot_list_setitem.plain PySem.F.entry_list_setitem (chkL (M := model prog w) (s := s) (i := "list.__setitem__") (n := "__setitem__") (self := .ref x) (rest := [.ref sl, .ref l]) (kw := []) (.inl (by decide +kernel)) (by decide +kernel) (acc_isList X I (listOver_in hp)) (by first | exact PySem.F.args_list_setitem_3 _ _ _ | exact args_list_setitem _ _ _) ?_))
  show wpAny _ _ (Builtin.List.listSubscript? (.ref sl) >>= _) _ _ s
  refine wpAny_bind ?_
  unfold Builtin.List.listSubscript?
  refine wpAny_bind (wpAny_specialOf hTs slice_no_index ?_)
  simp only [Option.isNone_none, if_true]
  refine wpAny_pure ?_
  show wpAny _ _ (typeOf (.ref sl) >>= _) _ _ s
  refine wpAny_bind (wpAny_typeOf hTs ?_)
  rw [if_neg (by decide)]
  rw [listSliceParts_eq]
  refine wpAny_bind (wpAny_bind (wpAny_field hos hds (x := .none) rfl (wpAny_bind (wpAny_listPart .none ?_))))
  rw [if_neg (by exact Bool.false_ne_true)]
  refine wpAny_bind (wpAny_field hos hds (x := vl) rfl (wpAny_bind (wpAny_listPart pl ?_)))
  refine wpAny_bind (wpAny_field hos hds (x := vu) rfl (wpAny_bind (wpAny_listPart pu (wpAny_pure ?_))))
  dsimp only
  have hsame : Builtin.List.listSameRef (.ref x) (.ref l) = false := by simp [Builtin.List.listSameRef, hxl]
  rw [hsame]
  rw [if_neg Bool.false_ne_true]
  unfold Builtin.List.listAllItems
  refine wpAny_bind (wpAny_bind (wpAny_typeOf hl.typeIs ?_))
  rw [if_pos (by decide)]
  unfold Builtin.List.listItems
  obtain ⟨ol, hol, hcl, nl, hdl⟩ := id hl
  refine wpAny_bind (wpAny_seqItems hol hdl (wpAny_pure ?_))
  refine wpAny_bind (wpAny_bind (wpAny_seqItems I.at_ hd (wpAny_pure ?_)))
  refine wpAny_bind (wpAny_of_eq (sliceIndices_raw lo hi none items.size (by simp)) ?_)
  rw [if_pos (by rfl)]
  refine wpAny_bind (wpAny_rule ?_)
  rw [if_neg (by unfold Builtin.List.listTooLong; rw [sizeLine_eq]; simp; omega)]
  refine wpAny_bind (wpAny_updateSeq I.at_ hd ?_ (by rw [sizeLine_eq]; omega) ?_)
  · exact wpAny_bind (wpAny_letGo (wpAny_pure h))
  · rw [sizeLine_eq]
    simp only [Array.size_append, Array.size_extract]
    omega
end
end Mine
end
section
open PySem PySem.W PyProof.Rows PySem.Calls PySem.Spec
set_option maxRecDepth 100000
set_option maxHeartbeats 1000000
namespace Mine
noncomputable abbrev sliceO (vl vu : Value) : Obj := { cls := .type "slice", data := .fields #[vl, vu, .none] }
noncomputable abbrev listO (vs : List Value) (n : Nat) : Obj := { cls := .type "list", data := .seq vs.toArray n }
theorem inst_keeps {h h' : Heap} {x C : Addr} {ox : Obj} {od : Option Obj} (I : W.InstAt h x ox C od) (k : ∀ b o, h.get? b = some o → h'.get? b = some o) : W.InstAt h' x ox C od := by
  obtain ⟨hx, hcl, hn, hd⟩ := I
  refine ⟨k _ _ hx, hcl, hn, ?_⟩
  obtain ⟨c, d, dt, sl⟩ := ox
  cases d <;> cases od <;> first | exact hd | exact k _ _ hd
section
variable {prog : Program} {w : World} {A : Around} {E : Value → Shared → Prop} {h₀ h : Heap} {g : Array GenState} {dr : Drawn} {t : Nat} {os : OsState} {L : Addr} {m : Str → Option Value} {news : List (Addr × Obj)} {K : Frag} {x C : Addr} {odx : Option Obj} {dx : Option Addr} {sls : Array (Option Value)}
theorem k_slice {value slice : Expr} {vs : List Value} {n : Nat} {vl vu : Value} {lo hi : Option Int} {Q : Value → Shared → Prop} (F : Fr h₀ L h m) (X₀ : K.In h₀) (N : News h₀ L h news) (I : InstAt h x ⟨.ref C, dx, .seq vs.toArray n, sls⟩ C odx)
    (hp : listOver K C = true) (hq : noSeq K C = true) (hs : findIn K (.ref C) "__getitem__" = some (some (.builtin "list.__getitem__"))) (pl : IsPart vl lo) (pu : IsPart vu hi) (hz : vs.length ≤ 1000)
    (hQ : ∀ l h', Fr h₀ L h' m → News h₀ L h' ((l, listO (slicePick vs.toArray lo hi none).toList 0) :: news) → (∀ p ∈ news, p.1 < l) → Q (.ref l) ⟨h', g, dr, t, os⟩)
    (hsub : subscripted slice false (.ref x) (.ref h.objs.size) = operate [.ref h.objs.size, .ref x] (getItem (.ref x) (.ref h.objs.size)) := by with_unfolding_all rfl) :
    wpAny (model prog w) A (subscriptTail value slice (.ref x) (.ref h.objs.size)) Q E ⟨h.push (sliceO vl vu), g, dr, t, os⟩ := by
  have k1 : ∀ b o, h.get? b = some o → (h.push (sliceO vl vu)).get? b = some o := fun b o e => Heap.get?_push_of_some _ e
  have F1 : Fr h₀ L (h.push (sliceO vl vu)) m := F.keeps k1
  have I1 : InstAt (h.push (sliceO vl vu)) x ⟨.ref C, dx, .seq vs.toArray n, sls⟩ C odx := inst_keeps I k1
  have N1 : News h₀ L (h.push (sliceO vl vu)) news := fun p hp => ⟨k1 _ _ (N p hp).1, (N p hp).2⟩
  refine tail_bi (s := ⟨h.push (sliceO vl vu), g, dr, t, os⟩) (X₀.keeps F1.keep) I1 hs ?_ hsub
  refine getItem_bi (s := ⟨h.push (sliceO vl vu), g, dr, t, os⟩) (X₀.keeps F1.keep) I1 hq hs (by rw [PySem.F.slot_list_getitem.bind]) ?_
  refine al_slice (s := ⟨h.push (sliceO vl vu), g, dr, t, os⟩) (X₀.keeps F1.keep) I1 hp rfl (Heap.IsSliceOf.new ..) pl pu .none (by simp) ?_ (by rw [sizeLine_eq, List.size_toArray]; omega)
  obtain ⟨F', N', l'⟩ := ks_newsPush (s := ⟨h.push (sliceO vl vu), g, dr, t, os⟩) (o := listO (slicePick vs.toArray lo hi none).toList 0) F1 N1 rfl (Heap.get?_push_at rfl rfl) (fun b o e => Heap.get?_push_of_some _ e)
  exact hQ _ _ F' N' l'

theorem k_setSlice {vs new vs' : List Value} {n n' k : Nat} {l : Addr} {vl vu : Value} {lo hi : Option Int} {news' : List (Addr × Obj)} {Q : Unit → Shared → Prop} (F : Fr h₀ L h m) (X₀ : K.In h₀) (N : News h₀ L h news) (I : InstAt h x ⟨.ref C, dx, .seq vs.toArray n, sls⟩ C odx)
    (hp : listOver K C = true) (hq : noSeq K C = true) (hs : findIn K (.ref C) "__setitem__" = some (some (.builtin "list.__setitem__"))) (pl : IsPart vl lo) (pu : IsPart vu hi) (hz : vs.length ≤ 1000) (hzn : new.length ≤ 1000)
    (hl : (l, listO new k) ∈ news) (hr : vs.toArray.extract 0 (sliceBounds lo hi none vs.length).1.toNat ++ new.toArray ++ vs.toArray.extract (max (sliceBounds lo hi none vs.length).1 (sliceBounds lo hi none vs.length).2.1).toNat vs.length = vs'.toArray)
    (hn : n' = if vs'.length = vs.length then n else n + 1) (U : Upd x ⟨.ref C, dx, .seq vs.toArray n, sls⟩ ⟨.ref C, dx, .seq vs'.toArray n', sls⟩ news news')
    (hQ : ∀ h', Fr h₀ L h' m → News h₀ L h' news' → Q () ⟨h', g, dr, t, os⟩) :
    wpAny (model prog w) A (setItem (.ref x) (.ref h.objs.size) (.ref l)) Q E ⟨h.push (sliceO vl vu), g, dr, t, os⟩ := by
  have k1 : ∀ b o, h.get? b = some o → (h.push (sliceO vl vu)).get? b = some o := fun b o e => Heap.get?_push_of_some _ e
  have F1 : Fr h₀ L (h.push (sliceO vl vu)) m := F.keeps k1
  have I1 : InstAt (h.push (sliceO vl vu)) x ⟨.ref C, dx, .seq vs.toArray n, sls⟩ C odx := inst_keeps I k1
  obtain ⟨pre, post, rfl, rfl, a, b⟩ := U.split
  have N1 : News h₀ L (h.push (sliceO vl vu)) (pre ++ (x, ⟨.ref C, dx, .seq vs.toArray n, sls⟩) :: post) := fun p hp => ⟨k1 _ _ (N p hp).1, (N p hp).2⟩
  have hxl : x ≠ l := fun e => by
    have h1 := (N _ hl).1
    have h2 := I.at_
    dsimp only at h1
    rw [← e, h2] at h1
    cases h1
  refine setItem_bi (s := ⟨h.push (sliceO vl vu), g, dr, t, os⟩) (X₀.keeps F1.keep) I1 hq hs (by rw [PySem.F.slot_list_setitem.bind]) ?_
  refine al_setSlice (s := ⟨h.push (sliceO vl vu), g, dr, t, os⟩) (X₀.keeps F1.keep) I1 hp rfl (Heap.IsSliceOf.new ..) pl pu ⟨_, (N1 _ hl).1, rfl, _, rfl⟩ hxl ?_ (by rw [List.size_toArray]; omega) (by rw [List.size_toArray]; omega)
  have hm : (Obj.mapSeq fun xs => xs.extract 0 (sliceBounds lo hi none vs.toArray.size).1.toNat ++ new.toArray ++ xs.extract (max (sliceBounds lo hi none vs.toArray.size).1 (sliceBounds lo hi none vs.toArray.size).2.1).toNat xs.size) ⟨.ref C, dx, .seq vs.toArray n, sls⟩ = ⟨.ref C, dx, .seq vs'.toArray n', sls⟩ := by
    unfold Obj.mapSeq
    dsimp only
    rw [List.size_toArray, hr, hn, List.size_toArray]
    congr 2
    by_cases e : vs'.length = vs.length <;> simp [e]
  obtain ⟨U1, U2⟩ := news_upd F1 N1 a b hm rfl
  exact hQ _ U1 U2
theorem set_all (vs new : List Value) : vs.toArray.extract 0 (sliceBounds none none none vs.length).1.toNat ++ new.toArray ++ vs.toArray.extract (max (sliceBounds none none none vs.length).1 (sliceBounds none none none vs.length).2.1).toNat vs.length = new.toArray := by
  have e : sliceBounds none none none vs.length = (0, (vs.length : Int), 1) := by simp [sliceBounds]
  rw [e]
  simp
theorem set_from (a b : List Value) : (a ++ b).toArray.extract 0 (sliceBounds (some (a.length : Int)) none none (a ++ b).length).1.toNat ++ ([] : List Value).toArray ++ (a ++ b).toArray.extract (max (sliceBounds (some (a.length : Int)) none none (a ++ b).length).1 (sliceBounds (some (a.length : Int)) none none (a ++ b).length).2.1).toNat (a ++ b).length = a.toArray := by
  have e : sliceBounds (some (a.length : Int)) none none (a ++ b).length = ((a.length : Int), ((a ++ b).length : Int), 1) := by
    simp only [sliceBounds, Option.getD_none]
    have h1 : ¬ ((a.length : Int) < 0) := by omega
    simp only [h1, if_false, show (1 : Int) > 0 by decide, if_true, List.length_append]
    congr 1
    omega
  rw [e]
  have e2 : (max (a.length : Int) ((a ++ b).length : Int)).toNat = (a ++ b).length := by rw [List.length_append]; omega
  dsimp only
  rw [e2]
  simp
theorem pick_from (a b : List Value) : (slicePick (a ++ b).toArray (some (a.length : Int)) none none).toList = b := by
  rw [slicePick_from _ _ (by simp)]
  simp
end
section
variable {h₀ h : Heap} {L : Addr} {a b : List (Addr × Obj)} {p : Addr × Obj}
noncomputable def SubL (b a : List (Addr × Obj)) : Prop := ∀ p ∈ b, p ∈ a
theorem news_sub (N : News h₀ L h a) (s : SubL b a) : News h₀ L h b := fun p hp => N p (s p hp)
theorem subs_refl : SubL a a := fun _ h => h
theorem subs_skip (s : SubL b a) : SubL b (p :: a) := fun q h => .tail _ (s q h)
theorem subs_cons (h : p ∈ a) (s : SubL b a) : SubL (p :: b) a := fun q hq => by
  rcases List.mem_cons.mp hq with rfl | hq
  · exact h
  · exact s q hq
theorem subs_nil : SubL [] a := fun _ h => nomatch h
end
end Mine
end
section
open PySem PySem.W PyProof.Rows PySem.Calls PySem.Spec
set_option maxRecDepth 100000
set_option maxHeartbeats 4000000
namespace Mine
/-- what it takes to make an object of a class made of list -/
structure MakesL (M : Model) (h : Heap) (C : Addr) : Prop where
  obj : ∃ oc od cd sl, h.get? C = some ⟨oc, od, .cls cd, sl⟩ ∧ cd.abstract = false ∧ cd.hasDel = false ∧ cd.mro.isEmpty = false
  made : Looks M h (Bind.madeBy (.ref C)) (some "list.__new__")
  base : Looks M h (Bind.staticBase (.ref C)) (.ref C)
  self : Looks M h (isSubtype (.ref C) (.ref C)) true
  lst : Looks M h (isSubtype (.ref C) (.type "list")) true
  call : Looks M h (specialOf (.ref C) "__call__") (some (.builtin "type.__call__"))
  typ : Looks M h (isInstance (.ref C) (.type "type")) true
noncomputable def makesL (K : Frag) (C : Addr) : Bool := match K.lookup C with
  | some ⟨_, _, .cls cd, sl⟩ => !cd.abstract && !cd.hasDel && (sl.toList[4]?).join == some (.builtin "list.__new__") && !cd.mro.isEmpty && cd.mro.contains (.ref C) && cd.mro.contains (.type "list") &&
      specialIn K (.ref C) "__call__" == some (some (.builtin "type.__call__")) && instIn K (.ref C) (.type "type") == some true
  | _ => false
theorem makesL_of {K : Frag} {M : Model} {h : Heap} (X : K.In h) {C : Addr} (e : makesL K C = true) : MakesL M h C := by
  unfold makesL at e
  split at e
  · rename_i oc od cd sl ho
    simp only [Bool.and_eq_true, Bool.not_eq_true', beq_iff_eq] at e
    obtain ⟨⟨⟨⟨⟨⟨⟨e1, e2⟩, e3⟩, e4⟩, e5⟩, e6⟩, e7⟩, e8⟩ := e
    have hc : clsIn K C = some cd := by unfold clsIn; rw [ho]
    have hm : Looks M h (mroOf (.ref C)) cd.mro := (looks_clsIn X hc).andThen .now
    obtain ⟨c, l, hl⟩ : ∃ c l, cd.mro = c :: l := by cases q : cd.mro with | nil => rw [q] at e4; cases e4 | cons c l => exact ⟨c, l, rfl⟩
    have made : Looks M h (Bind.madeBy (.ref C)) (some "list.__new__") := by
      intro A Q E s k q
      unfold Bind.madeBy
      refine wpAny_bind (hm A _ E s k ?_)
      rw [hl, List.forIn_cons]
      refine wpAny_bind (wpAny_bind (wpAny_bind (wpAny_bind (wpAny_loadPart (k _ _ (X _ _ ho)) (wpAny_pure ?_)))))
      dsimp only
      rw [← Array.getElem?_toList, e3]
      exact wpAny_pure (wpAny_pure (wpAny_pure q))
    refine ⟨⟨oc, od, cd, sl, X _ _ ho, e1, e2, e4⟩, made, ?_, looks_mroIn X ?_, looks_mroIn X ?_, looks_specialIn X e7, looks_instIn X e8⟩
    · intro A Q E s k q
      unfold Bind.staticBase
      refine wpAny_bind (hm A _ E s k ?_)
      rw [hl, List.forIn_cons]
      exact wpAny_bind (wpAny_bind (wpAny_bind (made A _ E s k (wpAny_pure (wpAny_pure (wpAny_pure q))))))
    · unfold mroIn; rw [hc, Option.bind_some, if_neg (by rw [e4]; decide), e5]
    · unfold mroIn; rw [hc, Option.bind_some, if_neg (by rw [e4]; decide), e6]
  · cases e
noncomputable abbrev instL (C dx : Addr) : Obj := { cls := .ref C, dict := some dx, data := .seq #[] }
theorem ln_split : splitId "list.__new__" = some ("list", "__new__") := by decide +kernel
theorem ln_kind : builtinKind "list.__new__" = some .builtinFn := by decide +kernel
theorem ln_quiet : plainId "list.__new__" = true := by decide +kernel
theorem ln_args (C : Addr) (rest : List Value) (sig) (h : Manifest.signature? "list.__new__" = some sig) : Bind.checkArgs "list.__new__" sig ⟨.ref C :: rest, []⟩ = pure () := by
  have e : Manifest.signature? "list.__new__" = some (((Manifest.signature? "list.__new__").get (by decide +kernel))) := by simp
  rw [e] at h
  cases h
  kernel_rfl
section
variable {prog : Program} {w : World} {A : Around} {K : Frag} {C : Addr} {R : Result → Shared → Prop} {h : Heap} {g : Array GenState} {d : Drawn} {t : Nat} {os : OsState}
theorem newL {rest : List Value} (Y : MakesL (model prog w) h C)
    (hq : R (.ok (.ret (.ref (h.objs.size + 1)))) ⟨(h.push emptyDict).push (instL C h.objs.size), g, d, t, os⟩) :
    codeAny (model prog w) A (.call (.builtin "list.__new__") ⟨.ref C :: rest, []⟩) R ⟨h, g, d, t, os⟩ := by
  obtain ⟨⟨oc, od, cd, sl, hC, e1, e2, e4⟩, made, base, self, lst, call, typ⟩ := Y
  refine codeAny_call_builtin_code (plainId_quiet ln_quiet _) ?_
  simp only [checkBuiltinCall, ln_kind, ln_split]
  have hT : Looks (model prog w) h (isType (.ref C)) true := by
    intro A Q E s k q
    obtain ⟨h', g', d', t', os'⟩ := s
    exact ks_wpAny_isType_cls (k _ _ hC) rfl q
  repeat (first | simp only [bne_self_eq_false, Bool.false_eq_true, if_false, Bool.not_true, beq_self_eq_true, if_true] | lk)
  refine codeAny_builtin_stack F.entry_list_new rfl fun p st => ?_
  rw [Around.under_plainId ln_quiet _]
  have hown := owner_list_new
  dsimp only
  simp only [hown]
  refine wpAny_bind (hT.at ?_)
  rw [if_neg (by decide)]
  refine wpAny_bind (lst.at ?_)
  rw [if_neg (by decide)]
  refine wpAny_bind (wpAny_pure ?_)
  rw [if_neg (by simp [typeHasDict])]
  unfold newDict
  refine wpAny_bind (wpAny_newObj_type ?_ (by size_fits))
  dsimp only
  refine wpAny_bind ?_
  show wpAny _ _ (do newObjAsIs _ _ _) _ _ _
  unfold newObjAsIs classHasDel
  refine wpAny_bind (wpAny_alloc (wpAny_bind (wpAny_bind (wpAny_load (Heap.get?_push_of_some _ (Heap.get?_push_of_some _ hC)) (wpAny_pure ?_)))))
  rw [e2]
  refine wpAny_pure (wpAny_pure ?_)
  show R _ _
  rw [Heap.size_push]
  exact hq

theorem makeL_core {rest : List Value} {init : Value} (Y : MakesL (model prog w) h C) (hi : Looks (model prog w) h (typeLookup (.ref C) "__init__") (some init))
    (hb : ∀ self, Looks (model prog w) h (bindSpecial init self) (init, [self]))
    (hq : codeAny (model prog w) (A.under (.builtin "type.__call__" ⟨.ref C :: rest, []⟩)) (.call init ⟨.ref (h.objs.size + 1) :: rest, []⟩) (InitBack (h.objs.size + 1) R) ⟨(h.push emptyDict).push (instL C h.objs.size), g, d, t, os⟩) :
    codeAny (model prog w) A (.call (.ref C) ⟨rest, []⟩) R ⟨h, g, d, t, os⟩ := by
  have Y' := Y
  obtain ⟨⟨oc, od, cd, sl, hC, e1, e2, e4⟩, made, base, self, lst, call, typ⟩ := Y
  refine codeAny_of_tree ?_
  show wpAny _ _ (callAny (.ref C) _) _ _ _
  refine nd_load hC ?_
  show wpAny _ _ (callAny.viaDunder (.ref C) _) _ _ _
  unfold callAny.viaDunder
  refine wpAny_bind (call.at ?_)
  dsimp only
  rw [tc_bind]
  refine wpAny_bind (wpAny_pure (wpAny_bind (wpAny_pure ?_)))
  refine wpAny_pure (a := Fin.again (.call (.builtin "type.__call__") ⟨.ref C :: rest, []⟩)) (And.intro rfl ?_)
  refine codeAny_call_builtin_at (Code.quiet_builtin _ (by decide +kernel)) entry_typeCall (check_slot tc_kind tc_split typ (tc_args _ _ _) ?_)
  unfold Builtin.«type.__call__»
  have hm : Looks (model prog w) h (mroOf (.ref C)) cd.mro := ((Looks.ld (part := none) hC).andThen .now).andThen .now
  repeat (first | simp only [e4, Bool.false_eq_true, if_false] | with_reducible refine wpAny_call ?_ | lk)
  refine newL Y' ?_
  have k : ∀ b o, h.get? b = some o → ((h.push emptyDict).push (instL C h.objs.size)).get? b = some o := fun b o e => Heap.get?_push_of_some _ (Heap.get?_push_of_some _ e)
  have hx : ((h.push emptyDict).push (instL C h.objs.size)).get? (h.objs.size + 1) = some (instL C h.objs.size) := by heap_get
  have t1 : Looks (model prog w) ((h.push emptyDict).push (instL C h.objs.size)) (typeOf (.ref (h.objs.size + 1))) (.ref C) := (Looks.ld hx).andThen .now
  have s1 := self.keeps k
  have i1 := hi.keeps k
  have b1 := (hb (.ref (h.objs.size + 1))).keeps k
  unfold isInstance callSpecial? specialOf
  repeat (first | with_reducible refine wpAny_call ?_ | lk)
  refine codeAny_mono hq fun r s' z => ?_
  rcases r with e | (v | _ | _ | _) <;> first | exact z | exact z.elim | skip
  obtain ⟨rfl, z⟩ := z
  exact wpAny_pure (wpAny_pure z)
end
section
variable {prog : Program} {w : World} {A : Around} {E : Value → Shared → Prop} {K : Frag} {C x : Addr} {s : Shared} {h₀ : Heap} {L : Addr} {m : Str → Option Value} {news : List (Addr × Obj)}
theorem callL_cls {pos : List Value} {fI : Addr} {Q : Value → Shared → Prop} (F : Fr h₀ L s.heap m) (X₀ : K.In h₀) (N : News h₀ L s.heap news) (hm : makesL K C = true) (hi : findIn K (.ref C) "__init__" = some (some (.ref fI))) (hf : isFn K (.ref fI) = true)
    (h : ∀ x dx h', Fr h₀ L h' m → News h₀ L h' ((x, instL C dx) :: (dx, dictOf [] 0) :: news) → (∀ p ∈ news, p.1 < dx) → dx < x →
      codeAny (model prog w) (A.under (.builtin "type.__call__" ⟨.ref C :: pos, []⟩)) (.call (.ref fI) ⟨.ref x :: pos, []⟩) (InitBack x fun r s' => match r with | .ok (.ret v) => Q v s' | .ok _ => False | .error e => E e s') { s with heap := h' }) :
    wpAny (model prog w) A (call (.ref C) pos) Q E s := by
  obtain ⟨hh, g, d, t, os⟩ := s
  have X := X₀.keeps F.keep
  refine wpAny_call (makeL_core (makesL_of X hm) (looks_findIn X hi) (fun self => bind_fn X self (beq_iff_eq.mp hf)) (h _ hh.objs.size _ ((F.push _).push _) ?_ (fun p hp => Heap.lt_size (N p hp).1) (Nat.lt_succ_self _)))
  have := (N.push F emptyDict).push (F.push _) (instL C hh.objs.size)
  rwa [Heap.size_push] at this
end
end Mine
end
section
open PySem PySem.W PyProof.Rows PySem.Calls PySem.Spec
set_option maxRecDepth 100000
set_option maxHeartbeats 1000000
namespace Mine
section
variable {prog : Program} {w : World} {A : Around} {E : Value → Shared → Prop} {s : Shared} {h₀ : Heap} {L : Addr} {m : Str → Option Value} {K : Frag} {x C f : Addr} {ox : Obj} {od : Option Obj}
/-- the truth of an object that has a length of its own -/
theorem truthy_L {Q : Bool → Shared → Prop} (F : Fr h₀ L s.heap m) (X₀ : K.In h₀) (I : InstAt s.heap x ox C od) (hb : findIn K (.ref C) "__bool__" = some none) (hs : findIn K (.ref C) "__len__" = some (some (.ref f))) (hf : isFn K (.ref f) = true)
    (h : wpAny (model prog w) A.in1 (call (.ref f) [.ref x]) (W.LenBack (fun v s' => match v with | .int n _ => Q (n != 0) s' | _ => False)) E s) : wpAny (model prog w) A (truthy (.ref x)) Q E s := by
  have X := X₀.keeps F.keep
  unfold truthy
  refine wpAny_bind (m := callSpecial? (.ref x) (Str.ofString "__bool__")) (wpAny_bind (wpAny_bind (I.type.here ((looks_findIn X hb).here (wpAny_pure ?_)))))
  refine wpAny_bind (wpAny_bind (I.type.here ((looks_findIn X hs).here ?_)))
  simp only [Option.isNone_some, Bool.false_eq_true, if_false]
  refine wpAny_bind (wpAny_runValue (codeAny_builtin entry_len ?_))
  rw [Around.under_plainId plain_len _]
  unfold Builtin.«len»
  refine wpAny_bind (m := oneArg "len" _) (wpAny_pure ?_)
  refine wpAny_bind (m := callSpecial? (.ref x) (Str.ofString "__len__")) (special_fn X I hs (beq_iff_eq.mp hf) (wpAny_mono h (fun r s' hr => ?_) fun _ _ y => y))
  cases r <;> first | exact hr.elim | skip
  rename_i n u
  obtain ⟨⟨h0, h1⟩, hq⟩ := hr
  refine wpAny_bind (wpAny_holding (wpAny_pure ?_))
  refine wpAny_bind (wpAny_letGo ?_)
  show wpAny _ _ (if n < 0 then _ else _) _ _ _
  rw [if_neg (by omega)]
  show wpAny _ _ (if n ≥ 2 ^ 63 then _ else _) _ _ _
  rw [if_neg (by omega)]
  exact wpAny_bind (wpAny_mkInt (wpAny_pure (wpAny_pure hq)))
end
end Mine
end
section
open PySem PySem.W PyProof.Rows PySem.Calls PySem.Spec
set_option maxRecDepth 100000
set_option maxHeartbeats 1000000
namespace Mine
section
variable {prog : Program} {w : World} {A : Around} {E : Value → Shared → Prop} {s : Shared} {h₀ : Heap} {L : Addr} {m : Str → Option Value} {news : List (Addr × Obj)} {K : Frag} {x C : Addr} {ox : Obj} {odx : Option Obj}
theorem al_index {items : Array Value} {n : Nat} {k : Int} {t : Tok} {v : Value} {Q : Value → Shared → Prop} (X : K.In s.heap) (I : InstAt s.heap x ox C odx) (hp : listOver K C = true) (hd : ox.data = .seq items n)
    (h0 : 0 ≤ k) (hfit : k < 2 ^ 63) (hv : items[k.toNat]? = some v) (h : Q v s) : wpAny (model prog w) A (call (.builtin "list.__getitem__") [.ref x, .int k t]) Q E s := by
  refine wpAny_call (codeAny_call_builtin PySem.F.slot_list_getitem.plain PySem.F.entry_list_getitem (chkL (M := model prog w) (s := s) (i := "list.__getitem__") (n := "__getitem__") (self := .ref x) (rest := [.int k t]) (kw := []) (.inr (by decide +kernel)) (by decide +kernel) (acc_isList X I (listOver_in hp)) (by first | exact PySem.F.args_list_getitem_2 _ _ | exact args_list_getitem _ _) ?_))
  show wpAny _ _ (Builtin.List.listSubscript? (.int k t) >>= _) _ _ s
  refine wpAny_bind (wpAny_listSubscript_int (fitsIndex_of h0 hfit) ?_)
  clear hfit
  obtain ⟨j, rfl⟩ := Int.eq_ofNat_of_zero_le h0
  have hx' : items[j]? = some v := hv
  show wpAny _ _ ((seqItemAt x j >>= fun r => pure (r.map (j, ·))) >>= _) _ _ s
  refine wpAny_bind (wpAny_bind (wpAny_seqItemAt I.at_ hd (wpAny_pure ?_)))
  rw [hx']
  first
    | exact wpAny_bind (wpAny_pure (wpAny_pure h))
    | exact wpAny_pure h
theorem k_index {value slice : Expr} {vs : List Value} {n : Nat} {k : Int} {t : Tok} {v : Value} {dx : Option Addr} {sls : Array (Option Value)} {Q : Value → Shared → Prop} (F : Fr h₀ L s.heap m) (X₀ : K.In h₀) (I : InstAt s.heap x ⟨.ref C, dx, .seq vs.toArray n, sls⟩ C odx)
    (hp : listOver K C = true) (hq : noSeq K C = true) (hs : findIn K (.ref C) "__getitem__" = some (some (.builtin "list.__getitem__"))) (h0 : 0 ≤ k) (hfit : k < 2 ^ 63) (hv : vs[k.toNat]? = some v)
    (hQ : Q v s)
    (hsub : subscripted slice false (.ref x) (.int k t) = operate [.ref x, .int k t] (getItem (.ref x) (.int k t)) := by with_unfolding_all rfl) :
    wpAny (model prog w) A (subscriptTail value slice (.ref x) (.int k t)) Q E s := by
  refine tail_bi (X₀.keeps F.keep) I hs ?_ hsub
  refine getItem_bi (X₀.keeps F.keep) I hq hs (by rw [PySem.F.slot_list_getitem.bind]) ?_
  exact al_index (X₀.keeps F.keep) I hp rfl h0 hfit (by rw [List.getElem?_toArray]; exact hv) hQ
end
end Mine
end
section
open PySem PySem.W PyProof.Rows PySem.Calls PySem.Spec
set_option maxRecDepth 100000
set_option maxHeartbeats 1000000
namespace Mine
section
variable {prog : Program} {w : World} {A : Around} {E : Value → Shared → Prop} {s : Shared} {h₀ : Heap} {L : Addr} {m : Str → Option Value} {news : List (Addr × Obj)} {K : Frag} {x C f : Addr} {ox : Obj} {od : Obj} {name : Str}
theorem ag_bind {expr : Bool} {Q : Value → Shared → Prop} (X : K.In s.heap) (I : InstAt s.heap x ox C (some od)) (hm : mroIn K C (.type "list") = some true) (hga : findIn K (.ref C) "__getattribute__" = some (some (.builtin "list.__getattribute__"))) (hk : findIn K (.ref C) "__getattr__" = some none)
    (hf : findObj K C (some od) name = some (.bind (.builtin "function.__get__") (.ref f))) (hfn : isFn K (.ref f) = true) (h : ∀ h', h' = s.heap.push (methodObj (.ref f) (.ref x)) → Q (.ref s.heap.objs.size) { s with heap := h', toks := s.toks + 1 }) :
    wpAny (model prog w) A (getAttr (.ref x) name expr) Q E s := by
  obtain ⟨hp, g, d, t, os⟩ := s
  have L0 := I.type (M := model prog w)
  have L1 := looks_findIn (M := model prog w) X hga
  have L2 := looks_findIn (M := model prog w) X hk
  have L3 := looks_find (M := model prog w) X I hf
  have L4 := acc_isList (M := model prog w) X I hm
  unfold getAttr getAttrBy
  refine wpAny_bind (wpAny_mkText (wpAny_holding (wpAny_bind (L0.at (wpAny_bind (L1.at ?_))))))
  show wpAny _ _ (getAttrByItsOwn _ _ _ _ _ _) _ _ _
  unfold getAttrByItsOwn hookBefore
  refine wpAny_bind (L2.at (wpAny_bind (wpAny_attempt (wpAny_holding ?_))))
  have e : ∀ nm, callGetattribute (.ref x) nm (.builtin "list.__getattribute__") expr = boundAndCalled (.builtin "list.__getattribute__") (.ref x) nm := fun nm => by
    unfold callGetattribute
    rw [show onTheHeap (.builtin "list.__getattribute__") = false from rfl, Bool.and_false, if_neg Bool.false_ne_true]
  rw [e]
  unfold boundAndCalled
  rw [PySem.F.slot_list_getattribute.bind]
  refine wpAny_bind (wpAny_pure (wpAny_call ?_))
  refine codeAny_call_builtin PySem.F.slot_list_getattribute.plain entry_list_ga (chkL (M := model prog w) (s := ⟨hp, g, d, t + 1, os⟩) (i := "list.__getattribute__") (n := "__getattribute__") (self := .ref x) (rest := [.str name t]) (kw := []) (.inl (by decide +kernel)) (by decide +kernel) L4 (PySem.F.args_list_getattribute_2 (.ref x) (.str name t)) ?_)
  unfold Builtin.«object.__getattribute__»
  refine wpAny_bind (wpAny_pure (wpAny_bind (wpAny_pure (wpAny_bind (L0.at (wpAny_bind (L3.at ?_)))))))
  show wpAny _ _ (Builtin.ObjectAttr.bindTo _ _ _ _) _ _ _
  unfold Builtin.ObjectAttr.bindTo
  refine wpAny_bind (wpAny_holding ?_)
  refine wpAny_call ?_
  refine fn_get (s := ⟨hp, g, d, t + 1, os⟩) X (beq_iff_eq.mp hfn) ?_
  refine wpAny_pure ?_
  exact wpAny_pure (h _ rfl)
theorem ag_boundK {expr : Bool} {Q : Value → Shared → Prop} {es : List DictEntry} {n : Nat} (F : Fr h₀ L s.heap m) (X₀ : K.In h₀) (N : News h₀ L s.heap news) (I : InstAt s.heap x ox C (some (dictOf es n))) (hp : listOver K C = true) (hga : findIn K (.ref C) "__getattribute__" = some (some (.builtin "list.__getattribute__"))) (hk : findIn K (.ref C) "__getattr__" = some none)
    (hh : hasDictIn K C = true) (ha : findIn K (.ref C) name = some (some (.ref f))) (hf : isFn K (.ref f) = true)
    (hgf : specialIn K (.ref f) "__get__" = some (some (.builtin "function.__get__"))) (ht : takesIn K (.ref f) = some false) (hc : copiedNames.contains name = false) (hl : getL name es = some none)
    (h : ∀ q h', Fr h₀ L h' m → News h₀ L h' ((q, methodObj (.ref f) (.ref x)) :: news) → (∀ p ∈ news, p.1 < q) → Q (.ref q) { s with heap := h', toks := s.toks + 1 }) : wpAny (model prog w) A (getAttr (.ref x) name expr) Q E s :=
  ag_bind (X₀.keeps F.keep) I (listOver_in hp) hga hk (findObj_fn hh ha hgf ht hc (by show lookIn name (dictOf es n) = _; rw [lookIn_dict, hl])) hf (fun h' e => e ▸ h s.heap.objs.size _ (F.push _) (N.push F _) fun p hp => Heap.lt_size (N p hp).1)
theorem callWith_MS {M : Model} {env : Env} {pos p : Pos} {first : List Value} {Q : Value → Shared → Prop} {e : Expr} {q g : Addr} {self : Value} (_X : K.In h₀) (_N : News h₀ L s.heap news) (_q : (q, methodObj (.ref g) self) ∈ news) (hf : fnIn K g = true) (h : wpAny M A (eval e env) (fun v s₁ => StarOf M A E v (fun vs s₂ => MethP K q g self s₂.heap ∧ wpAny M A (call (.ref q) (first ++ vs)) Q E s₂) s₁) E s)
    (he : starEach [.Starred e p] env = [(true, eval e env)] := by rfl) :
    wpAny M A (callWith pos (.ref q) first (backTo pos (starEach [.Starred e p] env)) []) Q E s := by
  rw [he]
  exact ks_call rfl (keeps_M hf) (ks_lone h)
theorem MethodCall_S {M : Model} {env : Env} {o e : Expr} {p : Pos} {name : Str} {apos pos : Pos} {Q : Value → Shared → Prop}
    (h : wpAny M A (eval o env) (fun ov s₁ => wpAny M A (getAttr ov name true) (fun f s₂ => wpAny M A (callWith pos f [] (backTo pos (starEach [.Starred e p] env)) []) Q E s₂) E s₁) E s)
    (he : eval (.Call (.Attribute o name apos) [.Starred e p] [] pos) env = (do
      let ov ← eval o env
      standAt apos.atName
      let (f, first) ← holding [ov] (do pure (← getAttr ov name true, []))
      callWith pos f first (backTo pos (starEach [.Starred e p] env)) []) := by rfl) :
    wpAny M A (eval (.Call (.Attribute o name apos) [.Starred e p] [] pos) env) Q E s := by
  rw [he]
  refine wpAny_bind (wpAny_mono h (fun ov s₁ h₁ => wpAny_bind (wpAny_standAt (wpAny_bind (wpAny_holding (wpAny_bind (wpAny_mono h₁ (fun fx s₂ h₂ => wpAny_pure ?_) fun _ _ x => x)))))) fun _ _ x => x)
  exact h₂
end
end Mine
end
section
open PySem PySem.W PyProof.Rows PySem.Calls PySem.Spec
set_option maxRecDepth 100000
set_option maxHeartbeats 1000000
namespace Mine
section
variable {prog : Program} {w : World} {A : Around} {s : Shared} {env : Env} {h₀ : Heap}
noncomputable abbrev Inv := Nat → (Str → Option Value) → List (Addr × Obj) → Shared → Prop
/-- what a turn has to leave behind -/
noncomputable def TurnL (h₀ : Heap) (L I : Addr) (it : Obj) (kl : List (Addr × Obj)) (Rn : (Str → Option Value) → List (Addr × Obj) → Shared → Prop) (s₃ : Shared) : Prop :=
  ∃ m' news', Fr h₀ L s₃.heap m' ∧ News h₀ L s₃.heap ((I, it) :: news') ∧ (∀ p ∈ news', p.1 ≠ I) ∧ (∀ p ∈ kl, p ∈ news') ∧ Rn m' news' s₃
noncomputable def PostL (h₀ : Heap) (L I : Addr) (it : Obj) (kl : List (Addr × Obj)) (Rn : (Str → Option Value) → List (Addr × Obj) → Shared → Prop) (Q : Flow → Shared → Prop) (f : Flow) (s₃ : Shared) : Prop :=
  match f with
  | .ret v => Q (.ret v) s₃
  | .brk => Q .next s₃
  | _ => TurnL h₀ L I it kl Rn s₃
noncomputable def LoopL (prog : Program) (w : World) (A : Around) (h₀ : Heap) (env : Env) (x : Str) (body orelse : List Stmt) (Q : Flow → Shared → Prop) (E : Value → Shared → Prop) (it : Value) (s₂ : Shared) : Prop :=
  ∃ (I : Addr) (fp : List Addr) (n : Nat) (P : Nat → Value → Prop) (St : Nat → Heap → Prop) (kl : List (Addr × Obj)) (Rr : Inv),
    it = .ref I ∧ Walks prog w A I fp [I] n P St ∧ env.locals ∉ fp ∧ h₀.get? I = none ∧ (∀ b ∈ fp, b = I ∨ (∃ o, h₀.get? b = some o) ∨ ∃ o, (b, o) ∈ kl) ∧ (∀ i h, St i h → ∃ o, h.get? I = some o) ∧ St 0 s₂.heap ∧
    (∃ m news, Fr h₀ env.locals s₂.heap m ∧ News h₀ env.locals s₂.heap news ∧ (∀ p ∈ news, p.1 ≠ I) ∧ (∀ p ∈ kl, p ∈ news) ∧ Rr 0 m news s₂) ∧
    (∀ i m news s h tk, Rr i m news s → Rr i m news { s with heap := h, toks := tk }) ∧
    (∀ i v io m news s₁, i < n → P i v → Rr i m news s₁ → (∀ p ∈ news, p.1 ≠ I) → (∀ p ∈ kl, p ∈ news) → Fr h₀ env.locals s₁.heap (fun y => if y = x then some v else m y) → News h₀ env.locals s₁.heap ((I, io) :: news) →
      wpAny (model prog w) A (execs body env) (PostL h₀ env.locals I io kl (Rr (i + 1)) Q) E s₁) ∧
    (∀ m news s₁, Rr n m news s₁ → (∀ p ∈ kl, p ∈ news) → Fr h₀ env.locals s₁.heap m → News h₀ env.locals s₁.heap news → wpAny (model prog w) A (execs orelse env) Q E s₁)

theorem For_led {E : Value → Shared → Prop} {Q : Flow → Shared → Prop} {x : Str} {px pos : Pos} {iter : Expr} {body orelse : List Stmt} {mF : Str → Option Value} (_F : Fr h₀ env.locals s.heap mF) (hx : env.kindOf x = some .local)
    (hp : (env.scope.kind == .class || (env.scope.kind == .module && env.locals != env.globals)) = false)
    (h : wpAny (model prog w) A (eval iter env) (fun xv s₁ => wpAny (model prog w) A (pyIter xv) (fun it s₂ => LoopL prog w A h₀ env x body orelse Q E it s₂) E s₁) E s)
    (hs : ∀ x, foldedSetIterable iter env x = pure x := by intro _; rfl)
    (hE : PassesOwn (model prog w) A env E := by passes_own) :
    wpAny (model prog w) A (exec (.For (.Name x px) iter body orelse pos) env) Q E s := by
  refine wpAny_For (wpAny_mono h (fun xv s₁ h₁ => wpAny_mono h₁ (fun it s₂ h₂ => ?_) fun _ _ e => e) fun _ _ e => e) hs
  obtain ⟨I, fp, n, P, St, kl, Rr, rfl, W, hLf, hI0, hfp, hob, hst0, h0, hRs, turn, done⟩ := h₂
  obtain ⟨m0, news0, F0, N0, off0, k0, R0⟩ := h0
  have hIf : I ∈ fp := W.sub I (by simp)
  have hIL : env.locals ≠ I := fun e => hLf (e ▸ hIf)
  refine codeAny_forLoop
    (fun k s' => ∃ i m news, St i s'.heap ∧ Fr h₀ env.locals s'.heap m ∧ News h₀ env.locals s'.heap news ∧ (∀ p ∈ news, p.1 ≠ I) ∧ (∀ p ∈ kl, p ∈ news) ∧ Rr i m news s' ∧ i ≤ n ∧ k = n + 1 - i) ?_ (n + 1)
    ⟨0, m0, news0, hst0, F0, N0, off0, k0, R0, Nat.zero_le _, rfl⟩
  rintro k s' ⟨i, m', news', hst', F', N', off', k', R', hi, rfl⟩
  have old : ∀ b o, h₀.get? b = some o → b ∉ [I] := fun b o e hb => by rw [List.mem_singleton.mp hb, hI0] at e; cases e
  have next : ∀ h₁ : Heap, (∀ b o, b ∉ [I] → s'.heap.get? b = some o → h₁.get? b = some o) → Fr h₀ env.locals h₁ m' ∧ News h₀ env.locals h₁ news' := fun h₁ hk₁ =>
    ⟨⟨F'.ns.at' fun o e => hk₁ _ o (by simpa using hIL) e, fun b o e => hk₁ b o (old b o e) (F'.keep b o e), F'.above⟩, fun p hp => ⟨hk₁ _ _ (by simpa using off' p hp) (N' p hp).1, (N' p hp).2⟩⟩
  by_cases hlt : i < n
  · refine W.item i _ _ _ hlt hst' fun v h₁ tk₁ hP hst₁ hk₁ => ?_
    obtain ⟨F₁, N₁⟩ := next h₁ hk₁
    refine wpAny_assign_Name (wpAny_storeName_local hx F₁.ns (fun h₂ hn₂ hs₂ => ?_) hp)
    have F₂ := F₁.set hn₂ hs₂
    have hst₂ : St (i + 1) h₂ := W.frame _ _ _ hst₁ fun b hb o e => (hs₂.2 b fun q => hLf (q ▸ hb)).trans e
    obtain ⟨io, hio⟩ := hob _ _ hst₂
    have N₂ : News h₀ env.locals h₂ ((I, io) :: news') := fun p hp => by
      rcases List.mem_cons.mp hp with rfl | hp
      · exact ⟨hio, hIL.symm, hI0⟩
      · exact (N₁.set hs₂) p hp
    refine wpAny_mono (wpAny_passesOwn hE (turn i v io m' news' { s' with heap := h₂, toks := tk₁ + 1 } hlt hP (hRs _ _ _ _ _ _ R') off' k' F₂ N₂)) (fun f s₃ h₃ => ?_) fun _ _ e => e
    have fin : TurnL h₀ env.locals I io kl (Rr (i + 1)) s₃ → ∃ m, m < n + 1 - i ∧ ∃ i m_1 news, St i s₃.heap ∧ Fr h₀ env.locals s₃.heap m_1 ∧ News h₀ env.locals s₃.heap news ∧ (∀ p ∈ news, p.1 ≠ I) ∧ (∀ p ∈ kl, p ∈ news) ∧ Rr i m_1 news s₃ ∧ i ≤ n ∧ m = n + 1 - i := by
      rintro ⟨m₃, news₃, F₃, N₃, off₃, k₃, R₃⟩
      refine ⟨n + 1 - (i + 1), by omega, i + 1, m₃, news₃, ?_, F₃, fun p hp => N₃ p (.tail _ hp), off₃, k₃, R₃, hlt, rfl⟩
      refine W.frame _ _ _ hst₂ fun b hb o e => ?_
      rcases hfp b hb with rfl | ⟨o', ho'⟩ | ⟨o', ho'⟩
      · rw [hio] at e; cases e; exact (N₃ _ (.head _)).1
      · have e2 := F₂.keep b o' ho'
        have e3 : o' = o := Option.some.inj (e2.symm.trans e)
        exact e3 ▸ F₃.keep b o' ho'
      · have e2 := (N₂ (b, o') (.tail _ (k' _ ho'))).1
        have e3 : o' = o := Option.some.inj (e2.symm.trans e)
        exact e3 ▸ (N₃ (b, o') (.tail _ (k₃ _ ho'))).1
    cases f with
    | ret v => exact h₃
    | brk => exact h₃
    | next => exact fin h₃
    | cont => exact fin h₃
  · have hin : i = n := by omega
    subst hin
    refine W.done _ _ _ hst' fun h₁ tk₁ hk₁ => ?_
    obtain ⟨F₁, N₁⟩ := next h₁ hk₁
    exact wpAny_passesOwn hE (done m' news' { s' with heap := h₁, toks := tk₁ } (hRs _ _ _ _ _ _ R') k' F₁ N₁)

variable {E : Value → Shared → Prop} {Q : Flow → Shared → Prop} {x : Str} {body orelse : List Stmt} {m : Str → Option Value} {news : List (Addr × Obj)}
theorem iter_rangeL {r : Addr} {a b c : Int} {t₀ u₀ v₀ : Tok} {n : Nat} (Rr : Inv) (kl : List (Addr × Obj))
    (hh : A.handled = none) (hr : IsRange s.heap r a b c t₀ u₀ v₀) (hsmall : Builtin.Range.small a b c = true) (hn : Builtin.Range.rangeSize a b c = (n : Int)) (F : Fr h₀ env.locals s.heap m) (N : News h₀ env.locals s.heap news)
    (hk : ∀ p ∈ kl, p ∈ news) (h0 : ∀ h, Rr 0 m news { s with heap := h }) (hRs : ∀ i m news s h tk, Rr i m news s → Rr i m news { s with heap := h, toks := tk })
    (turn : ∀ I i t io m news s₁, i < n → Rr i m news s₁ → (∀ p ∈ news, p.1 ≠ I) → (∀ p ∈ kl, p ∈ news) → (∀ p ∈ kl, p.1 < I) → Fr h₀ env.locals s₁.heap (fun y => if y = x then some (.int (a + i * c) t) else m y) → News h₀ env.locals s₁.heap ((I, io) :: news) →
      wpAny (model prog w) A (execs body env) (PostL h₀ env.locals I io kl (Rr (i + 1)) Q) E s₁)
    (done : ∀ m news s₁, Rr n m news s₁ → (∀ p ∈ kl, p ∈ news) → Fr h₀ env.locals s₁.heap m → News h₀ env.locals s₁.heap news → wpAny (model prog w) A (execs orelse env) Q E s₁) :
    wpAny (model prog w) A (pyIter (.ref r)) (fun it s₂ => LoopL prog w A h₀ env x body orelse Q E it s₂) E s := by
  refine wpAny_pyIter_range hr hsmall ?_
  have W := Walks.range (prog := prog) (w := w) hh s.heap.objs.size a c n
  have hlt : ∀ p ∈ news, p.1 < s.heap.objs.size := fun p hp => Heap.lt_size (N p hp).1
  refine ⟨_, _, n, _, _, kl, Rr, rfl, W, ?_, next_is_new F, ?_, ?_, ?_, ⟨m, news, F.push _, (fun p hp => ⟨Heap.get?_push_of_some _ (N p hp).1, (N p hp).2⟩), fun p hp => Nat.ne_of_lt (hlt p hp), hk, h0 _⟩, hRs, ?_, done⟩
  · intro hm
    exact absurd F.ns.lt ((List.mem_singleton.mp hm) ▸ Nat.lt_irrefl _)
  · intro b hb
    exact .inl (List.mem_singleton.mp hb)
  · intro i h st
    exact ⟨_, st⟩
  · show IsRangeIter _ _ _ _ _
    rw [hn]; simpa using Heap.get?_push_size _ rfl
  · rintro i v io m' news' s₁ hi ⟨t, rfl⟩ R off k' F₁ N₁
    exact turn _ i t io m' news' s₁ hi R off k' (fun p hp => hlt p (hk p hp)) F₁ N₁
theorem iter_strL {tx : Str} {t : Tok} (Rr : Inv) (kl : List (Addr × Obj)) (hh : A.handled = none) (ha : tx.cps.all (· < 128) = true) (F : Fr h₀ env.locals s.heap m) (N : News h₀ env.locals s.heap news)
    (hk : ∀ p ∈ kl, p ∈ news) (h0 : ∀ h, Rr 0 m news { s with heap := h }) (hRs : ∀ i m news s h tk, Rr i m news s → Rr i m news { s with heap := h, toks := tk })
    (turn : ∀ I i c u io m news s₁, tx.cps[i]? = some c → Rr i m news s₁ → (∀ p ∈ news, p.1 ≠ I) → (∀ p ∈ kl, p ∈ news) → (∀ p ∈ kl, p.1 < I) → Fr h₀ env.locals s₁.heap (fun y => if y = x then some (.str ⟨#[c]⟩ u) else m y) → News h₀ env.locals s₁.heap ((I, io) :: news) →
      wpAny (model prog w) A (execs body env) (PostL h₀ env.locals I io kl (Rr (i + 1)) Q) E s₁)
    (done : ∀ m news s₁, Rr tx.cps.size m news s₁ → (∀ p ∈ kl, p ∈ news) → Fr h₀ env.locals s₁.heap m → News h₀ env.locals s₁.heap news → wpAny (model prog w) A (execs orelse env) Q E s₁) :
    wpAny (model prog w) A (pyIter (.str tx t)) (fun it s₂ => LoopL prog w A h₀ env x body orelse Q E it s₂) E s := by
  have hlt : ∀ p ∈ news, p.1 < s.heap.objs.size := fun p hp => Heap.lt_size (N p hp).1
  refine wpAny_pyIter_ascii ha ?_
  have W := Walks.strAscii (prog := prog) (w := w) hh s.heap.objs.size tx t
  refine ⟨_, _, tx.cps.size, _, _, kl, Rr, rfl, W, ?_, next_is_new F, ?_, ?_, ⟨_, Heap.get?_push_size _ rfl, rfl, rfl⟩, ⟨m, news, F.push _, (fun p hp => ⟨Heap.get?_push_of_some _ (N p hp).1, (N p hp).2⟩), fun p hp => Nat.ne_of_lt (hlt p hp), hk, h0 _⟩, hRs, ?_, done⟩
  · intro hm
    exact absurd F.ns.lt ((List.mem_singleton.mp hm) ▸ Nat.lt_irrefl _)
  · intro b hb
    exact .inl (List.mem_singleton.mp hb)
  · rintro i h ⟨o, ho, _⟩
    exact ⟨o, ho⟩
  · rintro i v io m' news' s₁ hi ⟨c, u, hc, rfl⟩ R off k' F₁ N₁
    exact turn _ i c u io m' news' s₁ hc R off k' (fun p hp => hlt p (hk p hp)) F₁ N₁
theorem iter_listL {l : Addr} {vs : List Value} {k : Nat} (Rr : Inv) (kl : List (Addr × Obj)) (hh : A.handled = none) (hl : (l, ({ cls := .type "list", data := .seq vs.toArray k } : Obj)) ∈ kl) (F : Fr h₀ env.locals s.heap m) (N : News h₀ env.locals s.heap news)
    (hk : ∀ p ∈ kl, p ∈ news) (h0 : ∀ h, Rr 0 m news { s with heap := h }) (hRs : ∀ i m news s h tk, Rr i m news s → Rr i m news { s with heap := h, toks := tk })
    (turn : ∀ I i v io m news s₁, vs[i]? = some v → Rr i m news s₁ → (∀ p ∈ news, p.1 ≠ I) → (∀ p ∈ kl, p ∈ news) → (∀ p ∈ kl, p.1 < I) → Fr h₀ env.locals s₁.heap (fun y => if y = x then some v else m y) → News h₀ env.locals s₁.heap ((I, io) :: news) →
      wpAny (model prog w) A (execs body env) (PostL h₀ env.locals I io kl (Rr (i + 1)) Q) E s₁)
    (done : ∀ m news s₁, Rr vs.length m news s₁ → (∀ p ∈ kl, p ∈ news) → Fr h₀ env.locals s₁.heap m → News h₀ env.locals s₁.heap news → wpAny (model prog w) A (execs orelse env) Q E s₁) :
    wpAny (model prog w) A (pyIter (.ref l)) (fun it s₂ => LoopL prog w A h₀ env x body orelse Q E it s₂) E s := by
  have hlt : ∀ p ∈ news, p.1 < s.heap.objs.size := fun p hp => Heap.lt_size (N p hp).1
  have hL := N _ (hk _ hl)
  have hls : s.heap.IsList l vs.toArray := ⟨_, hL.1, rfl, k, rfl⟩
  have hne : l ≠ s.heap.objs.size := Nat.ne_of_lt (hlt _ (hk _ hl))
  refine wpAny_pyIter_list hls ?_
  have W := Walks.list (prog := prog) (w := w) hh s.heap.objs.size l hne vs.toArray
  have e1 : vs.toArray.size = vs.length := by simp
  rw [e1] at W
  refine ⟨_, _, vs.length, _, _, kl, Rr, rfl, W, ?_, next_is_new F, ?_, ?_, ⟨⟨_, Heap.get?_push_size _ rfl, rfl, rfl⟩, hls.at fun o e => Heap.get?_push_of_some _ e⟩, ⟨m, news, F.push _, (fun p hp => ⟨Heap.get?_push_of_some _ (N p hp).1, (N p hp).2⟩), fun p hp => Nat.ne_of_lt (hlt p hp), hk, h0 _⟩, hRs, ?_, done⟩
  · intro hm
    rcases List.mem_cons.mp hm with e | hm
    · exact absurd F.ns.lt (e ▸ Nat.lt_irrefl _)
    · exact hL.2.1 (List.mem_singleton.mp hm).symm
  · intro b hb
    rcases List.mem_cons.mp hb with e | hb
    · exact .inl e
    · rw [List.mem_singleton.mp hb]; exact .inr (.inr ⟨_, hl⟩)
  · rintro i h ⟨⟨o, ho, _⟩, _⟩
    exact ⟨o, ho⟩
  · rintro i v io m' news' s₁ hi hP R off k' F₁ N₁
    exact turn _ i v io m' news' s₁ (by simpa using hP) R off k' (fun p hp => hlt p (hk p hp)) F₁ N₁
noncomputable def PostB (Q : Flow → Shared → Prop) (f : Flow) (s₃ : Shared) : Prop :=
  match f with
  | .ret v => Q (.ret v) s₃
  | .brk => Q .next s₃
  | _ => False
theorem first_str {tx : Str} {t : Tok} {c : Nat} (hh : A.handled = none) (ha : tx.cps.all (· < 128) = true) (hc : tx.cps[0]? = some c) (F : Fr h₀ env.locals s.heap m) (N : News h₀ env.locals s.heap news)
    (turn : ∀ I u io h tk, (∀ p ∈ news, p.1 < I) → Fr h₀ env.locals h (fun y => if y = x then some (.str ⟨#[c]⟩ u) else m y) → News h₀ env.locals h ((I, io) :: news) →
      wpAny (model prog w) A (execs body env) (PostB Q) E { s with heap := h, toks := tk }) :
    wpAny (model prog w) A (pyIter (.str tx t)) (fun it s₂ => LoopL prog w A h₀ env x body orelse Q E it s₂) E s := by
  refine iter_strL (fun i m' news' s' => i = 0 ∧ m' = m ∧ news' = news ∧ ∃ h tk, s' = { s with heap := h, toks := tk }) news hh ha F N (fun _ h => h) (fun h => ⟨rfl, rfl, rfl, h, s.toks, rfl⟩) ?_ ?_ ?_
  · rintro i m₁ news₁ s₁ h tk ⟨e1, e2, e3, h', tk', rfl⟩
    exact ⟨e1, e2, e3, h, tk, rfl⟩
  · rintro I i c' u io m₁ news₁ s₁ hc' ⟨rfl, rfl, rfl, h, tk, rfl⟩ off k1 lt F₁ N₁
    rw [hc] at hc'
    cases hc'
    refine wpAny_mono (turn I u io h tk lt F₁ N₁) (fun f s₃ h₃ => ?_) fun _ _ e => e
    cases f <;> first | exact h₃ | exact h₃.elim
  · rintro m₁ news₁ s₁ ⟨e, _⟩
    have h1 : 0 < tx.cps.size := by
      rcases Nat.eq_zero_or_pos tx.cps.size with h | h
      · rw [Array.getElem?_eq_none (by omega)] at hc; cases hc
      · exact h
    omega
theorem first_range {r : Addr} {a b c : Int} {t₀ u₀ v₀ : Tok} {n : Nat}
    (hh : A.handled = none) (hr : IsRange s.heap r a b c t₀ u₀ v₀) (hsmall : Builtin.Range.small a b c = true) (hn : Builtin.Range.rangeSize a b c = (n : Int)) (hpos : 0 < n) (F : Fr h₀ env.locals s.heap m) (N : News h₀ env.locals s.heap news)
    (turn : ∀ I u io h tk, (∀ p ∈ news, p.1 < I) → Fr h₀ env.locals h (fun y => if y = x then some (.int a u) else m y) → News h₀ env.locals h ((I, io) :: news) →
      wpAny (model prog w) A (execs body env) (PostB Q) E { s with heap := h, toks := tk }) :
    wpAny (model prog w) A (pyIter (.ref r)) (fun it s₂ => LoopL prog w A h₀ env x body orelse Q E it s₂) E s := by
  refine iter_rangeL (fun i m' news' s' => i = 0 ∧ m' = m ∧ news' = news ∧ ∃ h tk, s' = { s with heap := h, toks := tk }) news hh hr hsmall hn F N (fun _ h => h) (fun h => ⟨rfl, rfl, rfl, h, s.toks, rfl⟩) ?_ ?_ ?_
  · rintro i m₁ news₁ s₁ h tk ⟨e1, e2, e3, h', tk', rfl⟩
    exact ⟨e1, e2, e3, h, tk, rfl⟩
  · rintro I i u io m₁ news₁ s₁ hi ⟨rfl, rfl, rfl, h, tk, rfl⟩ off k1 lt F₁ N₁
    simp only [Int.natCast_zero, Int.zero_mul, Int.add_zero, Int.cast_ofNat_Int] at F₁
    refine wpAny_mono (turn I u io h tk lt F₁ N₁) (fun f s₃ h₃ => ?_) fun _ _ e => e
    cases f <;> first | exact h₃ | exact h₃.elim
  · rintro m₁ news₁ s₁ ⟨e, _⟩
    omega
theorem down_size {k : Nat} : Builtin.Range.rangeSize (k : Int) 0 (-1) = (k : Int) := by
  unfold Builtin.Range.rangeSize
  rw [if_neg (by decide)]
  have e : (-(-1) : Int) = 1 := rfl
  rw [e, Int.ediv_one]
  split <;> omega
theorem down_small {k : Nat} (hk : k ≤ 1000) : Builtin.Range.small (k : Int) 0 (-1) = true := by
  unfold Builtin.Range.small
  rw [down_size]
  simp [Builtin.Range.rangeFitsLong]
  omega
theorem up_size {k : Nat} : Builtin.Range.rangeSize 0 (k : Int) 1 = (k : Int) := by
  unfold Builtin.Range.rangeSize
  rw [if_pos (by decide), Int.ediv_one]
  split <;> omega
theorem up_small {k : Nat} (hk : k ≤ 1000) : Builtin.Range.small 0 (k : Int) 1 = true := by
  unfold Builtin.Range.small
  rw [up_size]
  simp [Builtin.Range.rangeFitsLong]
  omega
theorem PostB.brk {s : Shared} (h : Q .next s) : PostB Q .brk s := h
theorem PostL.nxt {L I : Addr} {it : Obj} {kl : List (Addr × Obj)} {Rn : (Str → Option Value) → List (Addr × Obj) → Shared → Prop} {s : Shared} (h : TurnL h₀ L I it kl Rn s) : PostL h₀ L I it kl Rn Q .next s := h
theorem PostL.brk {L I : Addr} {it : Obj} {kl : List (Addr × Obj)} {Rn : (Str → Option Value) → List (Addr × Obj) → Shared → Prop} {s : Shared} (h : Q .next s) : PostL h₀ L I it kl Rn Q .brk s := h
end
end Mine
end
section
open PySem PySem.W PyProof.Rows PySem.Calls PySem.Spec PySem.Builtin PySem.Builtin.Re
set_option maxRecDepth 100000
set_option maxHeartbeats 1000000
namespace Mine
section
variable {M : Model} {A : Around} {E : Value → Shared → Prop} {s : Shared}
theorem runFor_done {n : Nat} {m : Sre.M} (h : m.outcome.isSome = true) : m.runFor n = m := by
  cases n <;> simp [Sre.M.runFor, h]
theorem runFor_add : ∀ (a b : Nat) (m : Sre.M), m.runFor (a + b) = (m.runFor a).runFor b
  | 0, b, m => by rw [Nat.zero_add]; rfl
  | a + 1, b, m => by
    rw [Nat.succ_add]
    cases h : m.outcome.isSome with
    | true => rw [runFor_done h, runFor_done h, runFor_done h]
    | false => simp only [Sre.M.runFor, h, Bool.false_eq_true, if_false]; exact runFor_add a b _
theorem wp_drive {Q : Sre.M → Shared → Prop} : ∀ (T n : Nat) (m : Sre.M), T < n → (m.runFor (4 * (T + 1))).outcome.isSome = true → Q (m.runFor (4 * (T + 1))) s → wpAny M A (reDrive n m) Q E s
  | T, 0, m, h, _, _ => by omega
  | T, n + 1, m, h, ho, hq => by
    unfold reDrive
    show wpAny _ _ (if (m.runFor reTurnSteps).outcome.isSome = true then _ else _) _ _ _
    by_cases h1 : (m.runFor reTurnSteps).outcome.isSome = true
    · rw [if_pos h1]
      have e : m.runFor (4 * (T + 1)) = m.runFor reTurnSteps := by
        rw [show 4 * (T + 1) = reTurnSteps + 4 * T from by unfold reTurnSteps; omega, runFor_add, runFor_done h1]
      rw [e] at hq
      exact wpAny_pure hq
    · rw [if_neg h1]
      refine wpAny_bind (wpAny_rule ?_)
      cases T with
      | zero => exact absurd ho h1
      | succ T =>
        have e : m.runFor (4 * (T + 1 + 1)) = (m.runFor reTurnSteps).runFor (4 * (T + 1)) := by
          rw [show 4 * (T + 1 + 1) = reTurnSteps + 4 * (T + 1) from by unfold reTurnSteps; omega, runFor_add]
        rw [e] at ho hq
        exact wp_drive T n _ (by omega) ho hq
theorem wp_end {Q : Option Sre.M → Shared → Prop} {m : Sre.M} (T : Nat) (hT : T < 2 ^ 64) (r : Bool) (ho : (m.runFor (4 * (T + 1))).outcome = some (if r then .matched else .failed)) (hq : Q (if r then some (m.runFor (4 * (T + 1))) else none) s) : wpAny M A (reRunToEnd m) Q E s := by
  unfold reRunToEnd
  refine wpAny_bind (wp_drive T _ m hT (by rw [ho]; rfl) ?_)
  generalize m.runFor (4 * (T + 1)) = m' at ho hq
  refine wpAny_bind (m := forIn _ _ _) (?_ : wpAny M A _ _ E s)
  have key : ∀ (l : List Nat) (Q' : PUnit → Shared → Prop), Q' ⟨⟩ s → wpAny M A (forIn l PUnit.unit fun i _ => if m'.seen.has i = true then do rule (Sre.names.getD i ""); pure (ForInStep.yield PUnit.unit) else pure (ForInStep.yield PUnit.unit)) Q' E s := by
    intro l
    induction l with
    | nil => intro Q' h; exact wpAny_pure h
    | cons i l ih =>
      intro Q' h
      rw [List.forIn_cons]
      refine wpAny_bind ?_
      split
      · exact wpAny_bind (wpAny_rule (wpAny_pure (ih Q' h)))
      · exact wpAny_pure (ih Q' h)
  trace_state
  refine key _ _ ?_
  rw [ho]
  cases r <;> exact wpAny_pure hq
end
end Mine
end
section
open PySem PySem.W PyProof.Rows PySem.Calls PySem.Spec PySem.Builtin PySem.Builtin.Re
set_option maxRecDepth 100000
set_option maxHeartbeats 1000000
namespace Mine
/-- where the machine finds the next match -/
noncomputable def foundAt (code text : Array Nat) (start : Nat) (must : Bool) : Option (Option (Nat × Nat)) :=
  let m := (Sre.forSearch code text 0 start text.size must).runFor 2000
  match m.outcome with
  | some .matched => some (some (m.start, m.handed))
  | some .failed => some none
  | _ => none
/-- the matches that a substitution takes -/
noncomputable def subs (code text : Array Nat) : Nat → (start : Nat) → Bool → Option (List (Nat × Nat))
  | 0, _, _ => none
  | fuel + 1, start, must =>
    match foundAt code text start must with
    | some (some (b, e)) => (subs code text fuel e (e == b)).map ((b, e) :: ·)
    | some none => some []
    | none => none
/-- the pieces that a substitution leaves -/
noncomputable def pieces (text : Array Nat) (r : Str) : List (Nat × Nat) → Nat → List Str
  | [], done => if done < text.size then [⟨text.extract done text.size⟩] else []
  | (b, e) :: ms, done => (if done < b then [(⟨text.extract done b⟩ : Str)] else []) ++ r :: pieces text r ms e
section
variable {M : Model} {A : Around} {E : Value → Shared → Prop} {s : Shared}
theorem wp_next {Q : Option Sre.M → Shared → Prop} {t : ReTarget} {start : Nat} {must : Bool} {r : Option (Nat × Nat)} (hg : t.groups = 0) (hl : t.lim = t.text.size) (h : foundAt t.code t.text start must = some r)
    (hq : ∀ mo : Option Sre.M, mo.map (fun m => (m.start, m.handed)) = r → Q mo s) : wpAny M A (reNextFound t start must) Q E s := by
  unfold reNextFound
  rw [hg, hl]
  unfold foundAt at h
  generalize Sre.forSearch t.code t.text 0 start t.text.size must = m0 at h
  dsimp only at h
  split at h
  · rename_i ho
    cases h
    exact wp_end 499 (by decide) true ho (hq _ rfl)
  · rename_i ho
    cases h
    exact wp_end 499 (by decide) false ho (hq _ rfl)
  · cases h
noncomputable abbrev strsV (ls : List (Str × Tok)) : List Value := ls.map fun p => .str p.1 p.2
noncomputable def PL (h : Heap) (l : Addr) (ls : List (Str × Tok)) : Prop := ∃ k, h.get? l = some { cls := .type "list", data := .seq (strsV ls).toArray k }
theorem wp_push {l : Addr} {ls : List (Str × Tok)} {y : Str} {t : Tok} {Q : Unit → Shared → Prop} (hl : PL s.heap l ls) (hz : ls.length ≤ 1000)
    (h : ∀ h', PL h' l (ls ++ [(y, t)]) → Heap.SameBut l s.heap h' → Q () { s with heap := h' }) : wpAny M A (updateSeq l (·.push (.str y t))) Q E s := by
  obtain ⟨k, hk⟩ := hl
  refine wpAny_updateSeq hk rfl (h _ ⟨k + 1, ?_⟩ (Heap.SameBut.update ..)) (by rw [sizeLine_eq]; simp; omega) (by rw [sizeLine_eq]; simp; omega)
  rw [Heap.get?_update_self _ hk (by rw [mapSeq_push]; rfl), mapSeq_push]
  congr 3
  simp [strsV]
theorem wp_slice {text : Array Nat} {b e : Nat} {Q : Value → Shared → Prop} (hz : text.size ≤ 1000) (h : Q (.str ⟨text.extract b e⟩ s.toks) { s with toks := s.toks + 1 }) : wpAny M A (reSlice text 0 b e) Q E s := by
  unfold reSlice
  rw [if_pos (by rfl)]
  refine wpAny_mkStr h ?_
  show (text.extract b e).size ≤ _
  rw [Array.size_extract, sizeLine_eq]
  omega
/-- a compiled pattern over texts, without groups -/
structure PatOk (h : Heap) (p : Addr) (code : Array Nat) : Prop where
  ex : ∃ op fs c oc ws n, h.get? p = some op ∧ op.cls = .type "re.Pattern" ∧ op.data = .fields fs ∧ reRawNat (fs.getD 6 .none) = 0 ∧ reRawNat (fs.getD 2 .none) = 0 ∧ fs.getD 5 .none = .ref c ∧ h.get? c = some oc ∧ oc.data = .seq ws n ∧ (ws.map reRawOf).map (·.toNat) = code
theorem PatOk.keeps {h h' : Heap} {p : Addr} {code : Array Nat} (P : PatOk h p code) (k : ∀ b o, h.get? b = some o → h'.get? b = some o) : PatOk h' p code := by
  obtain ⟨op, fs, c, oc, ws, n, h1, h0, h2, h3, h4, h5, h6, h7, h8⟩ := P.ex
  exact ⟨op, fs, c, oc, ws, n, k _ _ h1, h0, h2, h3, h4, h5, k _ _ h6, h7, h8⟩
theorem wp_target {p : Addr} {code : Array Nat} {x : Str} {t : Tok} {Q : ReTarget → Shared → Prop} (P : PatOk s.heap p code)
    (h : Q { pattern := .ref p, string := .str x t, code := code, text := x.cps, kind := 0, groups := 0, pos := 0, lim := x.cps.size } s) : wpAny M A (reWholeTarget (.ref p) (.str x t)) Q E s := by
  obtain ⟨op, fs, c, oc, ws, n, h1, h0, h2, h3, h4, h5, h6, h7, h8⟩ := P.ex
  unfold reWholeTarget
  refine wpAny_bind (m := fieldsOf _) ?_
  unfold fieldsOf
  refine wpAny_bind (wpAny_load h1 ?_)
  rw [h2]
  refine wpAny_pure ?_
  refine wpAny_bind (m := reTextOf _) ?_
  unfold reTextOf asStr?
  refine wpAny_bind (wpAny_pure (wpAny_pure ?_))
  dsimp only
  rw [h3, h5, h4]
  refine wpAny_bind (m := reNoCollectionInside _ _) (wpAny_pure ?_)
  refine wpAny_bind (m := reRawItems _) ?_
  unfold reRawItems seqItems?
  refine wpAny_bind (wpAny_bind (wpAny_load h6 ?_))
  rw [h7]
  refine wpAny_pure (wpAny_pure (wpAny_pure ?_))
  dsimp only [Option.getD]
  rw [h8]
  exact h
end
section
variable {prog : Program} {w : World} {A : Around} {E : Value → Shared → Prop} {s : Shared}
theorem entry_sub_loop : entryFor table "re.Pattern.sub.loop" = some Builtin.«re.Pattern.sub.loop» := entryFor_of_tree (by kernel_rfl)
theorem entry_sub : entryFor table "re.Pattern.sub" = some Builtin.«re.Pattern.sub» := entryFor_of_tree (by kernel_rfl)
theorem plain_loop : plainId "re.Pattern.sub.loop" = true := by decide +kernel
theorem sub_loop {p l : Addr} {code : Array Nat} {x r : Str} {t1 t2 : Tok} {Q : Value → Shared → Prop} {h0 : Heap} (P0 : PatOk h0 p code) (hl0 : h0.get? l = none) (hx : x.cps.size ≤ 300) (hr : r.length ≤ 300) :
    ∀ (fuel n done start : Nat) (must : Bool) (s : Shared) (ls : List (Str × Tok)) (ms : List (Nat × Nat)), subs code x.cps fuel start must = some ms → (∀ b o, h0.get? b = some o → s.heap.get? b = some o) → PL s.heap l ls → ls.length + 2 * fuel ≤ 500 → (∀ q ∈ ls, q.1.length ≤ 300) →
    (∀ h' tk' t', (∀ b o, h0.get? b = some o → h'.get? b = some o) → Q (.str (Str.join "" (ls.map (·.1) ++ pieces x.cps r ms done)) t') { s with heap := h', toks := tk' }) →
    codeAny (model prog w) A (.builtin "re.Pattern.sub.loop" ⟨[.ref p, .str x t2, .str r t1, rawInt 0, rawInt 0, rawInt n, rawInt done, rawInt start, .bool must, .ref l, .bool false], []⟩) (fun r s' => match r with | .ok (.ret v) => Q v s' | .ok _ => False | .error e => E e s') s := by
  have keepS : ∀ (h h' : Heap), (∀ b o, h0.get? b = some o → h.get? b = some o) → Heap.SameBut l h h' → (∀ b o, h0.get? b = some o → h'.get? b = some o) := by
    intro h h' k sb b o e
    have hb : b ≠ l := by rintro rfl; rw [hl0] at e; cases e
    rw [sb.2 b hb]
    exact k b o e
  intro fuel
  induction fuel with
  | zero => intro n done start must s ls ms h; cases h
  | succ fuel ih =>
    intro n done start must s ls ms h k hl hz hb hq
    refine codeAny_builtin entry_sub_loop ?_
    rw [Around.under_plainId plain_loop _]
    unfold Builtin.«re.Pattern.sub.loop»
    dsimp only [rawInt]
    refine wpAny_bind (m := reWholeTarget _ _) (wp_target (P0.keeps k) ?_)
    rw [if_pos (by rfl)]
    refine wpAny_bind (m := reLiteralCannotBeTurned _) ?_
    · unfold reLiteralCannotBeTurned asStr?
      refine wpAny_bind (wpAny_pure (wpAny_pure ?_))
      rw [if_neg (by simp)]
      rw [Int.toNat_natCast, Int.toNat_natCast]
      unfold subs at h
      split at h
      · rename_i b e hf
        obtain ⟨ms', hms, rfl⟩ := Option.map_eq_some_iff.mp h
        refine wpAny_bind (wp_next rfl rfl hf ?_)
        rintro (_ | m) hm
        · cases hm
        · obtain ⟨hb', he'⟩ := Prod.mk.inj (Option.some.inj hm)
          dsimp only
          rw [hb', he']
          have tail : ∀ (s₁ : Shared) (ls₁ : List (Str × Tok)), (∃ h tk, s₁ = { s with heap := h, toks := tk }) → (∀ b o, h0.get? b = some o → s₁.heap.get? b = some o) → PL s₁.heap l ls₁ → ls₁.length ≤ ls.length + 1 → (∀ q ∈ ls₁, q.1.length ≤ 300) → (ls₁.map (·.1) ++ r :: pieces x.cps r ms' e = ls.map (·.1) ++ pieces x.cps r ((b, e) :: ms') done) →
              wpAny (model prog w) A.in1 (updateSeq l (·.push (.str r t1)) >>= fun _ => again (.builtin "re.Pattern.sub.loop" ⟨[.ref p, .str x t2, .str r t1, .int 0 0, .int 0 0, .int (n + 1) 0, .int e 0, .int e 0, .bool (e == b), .ref l, .bool false], []⟩))
                (fun fin s' => match fin with | .done f => (match (Except.ok f : Result) with | .ok (.ret v) => Q v s' | .ok _ => False | .error e => E e s') | .again c' => c'.quiet = true ∧ codeAny (model prog w) A c' (fun r s' => match r with | .ok (.ret v) => Q v s' | .ok _ => False | .error e => E e s') s')
                (fun e s' => match (Except.error e : Result) with | .ok (.ret v) => Q v s' | .ok _ => False | .error e => E e s') s₁ := by
            rintro s₁ ls₁ ⟨h₁, tk₁, rfl⟩ k₁ hl₁ hz₁ hb₁ he₁
            refine wpAny_bind (wp_push hl₁ (by omega) fun h' hl' sb => wpAny_pure ⟨plainId_quiet plain_loop _, ?_⟩)
            refine ih (n + 1) e e (e == b) _ (ls₁ ++ [(r, t1)]) ms' hms (keepS _ _ k₁ sb) hl' (by rw [List.length_append]; simp only [List.length_cons, List.length_nil]; omega) ?_ ?_
            · intro q hq'
              rcases List.mem_append.mp hq' with h1 | h1
              · exact hb₁ q h1
              · rw [List.mem_singleton.mp h1]; exact hr
            · intro h'' tk'' t' k''
              have z := hq h'' tk'' t' k''
              rw [← he₁] at z
              simpa using z
          by_cases hd : done < b
          · rw [if_pos hd]
            refine wpAny_bind (wp_slice (by omega) ?_)
            refine wpAny_bind (wp_push (ls := ls) hl (by omega) fun h' hl' sb => ?_)
            rw [if_pos (by rfl)]
            refine wpAny_bind (wpAny_pure ?_)
            rw [if_pos (by rfl)]
            refine tail _ _ ⟨h', s.toks + 1, rfl⟩ (keepS _ _ k sb) hl' (by simp) ?_ ?_
            · intro q hq'
              rcases List.mem_append.mp hq' with h1 | h1
              · exact hb q h1
              · rw [List.mem_singleton.mp h1]
                show (x.cps.extract done b).size ≤ 300
                rw [Array.size_extract]; omega
            · rw [pieces, if_pos hd]; simp
          · rw [if_neg hd]
            rw [if_pos (by rfl)]
            refine wpAny_bind (wpAny_pure ?_)
            rw [if_pos (by rfl)]
            refine tail s ls ⟨s.heap, s.toks, rfl⟩ k hl (by omega) hb ?_
            rw [pieces, if_neg hd]; simp
      · rename_i hf
        cases h
        refine wpAny_bind (wp_next rfl rfl hf ?_)
        rintro (_ | m) hm
        · dsimp only
          have fin : ∀ (s₁ : Shared) (ls₁ : List (Str × Tok)), (∃ h tk, s₁ = { s with heap := h, toks := tk }) → (∀ b o, h0.get? b = some o → s₁.heap.get? b = some o) → PL s₁.heap l ls₁ → ls₁.length ≤ 1000 → (∀ q ∈ ls₁, q.1.length ≤ 300) → (ls₁.map (·.1) = ls.map (·.1) ++ pieces x.cps r [] done) →
              wpAny (model prog w) A.in1 (reSlice x.cps 0 0 0 >>= fun joiner => seqItems? (.ref l) >>= fun it => if (it.getD #[]).isEmpty = true then (pure joiner >>= fun text => if false = true then (holding [text] (mkInt n >>= fun i => newTuple [text, i]) >>= fun v => ret v) else ret text) else (call (.builtin (if (0 == 0) = true then "str.join" else "bytes.join")) [joiner, .ref l] >>= fun text => if false = true then (holding [text] (mkInt n >>= fun i => newTuple [text, i]) >>= fun v => ret v) else ret text))
                (fun fin s' => match fin with | .done f => (match (Except.ok f : Result) with | .ok (.ret v) => Q v s' | .ok _ => False | .error e => E e s') | .again c' => c'.quiet = true ∧ codeAny (model prog w) A c' (fun r s' => match r with | .ok (.ret v) => Q v s' | .ok _ => False | .error e => E e s') s')
                (fun e s' => match (Except.error e : Result) with | .ok (.ret v) => Q v s' | .ok _ => False | .error e => E e s') s₁ := by
            rintro s₁ ls₁ ⟨h₁, tk₁, rfl⟩ k₁ hl₁ hz₁ hb₁ he₁
            have e0 : (⟨x.cps.extract 0 0⟩ : Str) = "" := by
              have : x.cps.extract 0 0 = #[] := by simp
              rw [this]; decide
            refine wpAny_bind (wp_slice (by omega) ?_)
            rw [e0]
            obtain ⟨kk, hkk⟩ := id hl₁
            refine wpAny_bind (m := seqItems? _) ?_
            unfold seqItems?
            refine wpAny_bind (wpAny_load hkk (wpAny_pure ?_))
            dsimp only [Option.getD]
            cases ls₁ with
            | nil =>
              rw [if_pos (by rfl)]
              refine wpAny_bind (wpAny_pure ?_)
              rw [if_neg (by decide)]
              refine wpAny_pure ?_
              have z := hq h₁ (tk₁ + 1) tk₁ k₁
              rw [← he₁] at z
              exact z
            | cons q0 r0 =>
              rw [if_neg (by simp [strsV])]
              rw [if_pos (by rfl)]
              have sumL : ∀ (l9 : List (Str × Tok)), (∀ q ∈ l9, q.1.length ≤ 300) → ((l9.map (·.1)).map (·.length)).sum ≤ 300 * l9.length := by
                intro l9
                induction l9 with
                | nil => intro _; simp
                | cons a b ih9 =>
                  intro hb9
                  have e1 := ih9 fun y hy => hb9 y (.tail _ hy)
                  have e2 := hb9 a (.head _)
                  simp only [List.map_cons, List.sum_cons, List.length_cons] at e1 ⊢
                  omega
              have sa : ∀ (l9 : List (Str × Tok)), StrsAre (strsV l9) (l9.map (·.1)) := by
                intro l9
                induction l9 with
                | nil => exact .nil
                | cons a b ih9 => exact .cons a.1 a.2 ih9
              refine wpAny_bind (join_list (ys := (q0 :: r0).map (·.1)) (items := (strsV (q0 :: r0)).toArray) ⟨_, hkk, rfl, _, rfl⟩ (by simpa using sa (q0 :: r0)) ?_ ?_)
              · have h1 := sumL _ hb₁
                rw [show Str.length ("" : Str) = 0 by decide, Nat.mul_zero]
                omega
              · intro t' k'
                rw [if_neg (by decide)]
                refine wpAny_pure ?_
                have z := hq h₁ k' t' k₁
                rw [← he₁] at z
                have e5 : Txt.join "" ((q0 :: r0).map (·.1)) = Str.join "" ((q0 :: r0).map (·.1)) := eq_of_beq (join_plain_closes _ _)
                rw [e5]
                exact z
          by_cases hd : done < x.cps.size
          · rw [if_pos hd]
            refine wpAny_bind (wp_slice (by omega) ?_)
            refine wpAny_bind (wp_push (ls := ls) hl (by omega) fun h' hl' sb => ?_)
            refine fin _ _ ⟨h', s.toks + 1, rfl⟩ (keepS _ _ k sb) hl' (by simp; omega) ?_ ?_
            · intro q hq'
              rcases List.mem_append.mp hq' with h1 | h1
              · exact hb q h1
              · rw [List.mem_singleton.mp h1]
                show (x.cps.extract done x.cps.size).size ≤ 300
                rw [Array.size_extract]; omega
            · rw [pieces, if_pos hd]; simp
          · rw [if_neg hd]
            refine fin s ls ⟨s.heap, s.toks, rfl⟩ k hl (by omega) hb ?_
            rw [pieces, if_neg hd]; simp
        · cases hm
      · cases h
end
end Mine
end
section
open PySem PySem.W PyProof.Rows PySem.Calls PySem.Spec PySem.Builtin PySem.Builtin.Re
set_option maxRecDepth 100000
set_option maxHeartbeats 1000000
namespace Mine
theorem plainAttrs_pat : PlainAttrs "re.Pattern" := ⟨⟨"object.__getattribute__", by rw [typeLookup_type, builtinLookup_eq_fast]; kernel_rfl, by decide +kernel⟩, by rw [typeLookup_type, builtinLookup_eq_fast]; kernel_rfl⟩
theorem slot_pat_sub : Slot "re.Pattern" "sub" "re.Pattern.sub" :=
  .of (owner := "re.Pattern") (n := "sub") (by rw [typeLookup_type, builtinLookup_eq_fast]; kernel_rfl) (by decide +kernel) (by decide +kernel) (by decide +kernel)
    (by first | exact .inl (by decide +kernel) | exact .inr (by decide +kernel)) (by rw [isSubtype_type]; kernel_rfl)
theorem type_pat_sub : typeOf (.builtin "re.Pattern.sub") = pure (.type "method_descriptor") := by show builtinType _ = _; rw [builtinType_eq_fast]; kernel_rfl
theorem args_pat_sub (a b c : Value) : argsOk "re.Pattern.sub" ⟨[a, b, c], []⟩ := by unfold argsOk; kernel_rfl
theorem str_no_call : typeLookup (.type "str") "__call__" = pure none := by rw [typeLookup_type, builtinLookup_eq_fast]; kernel_rfl
section
variable {prog : Program} {w : World} {A : Around} {E : Value → Shared → Prop} {s : Shared}
theorem re_sub {p : Addr} {code : Array Nat} {x r : Str} {t1 t2 : Tok} {Q : Value → Shared → Prop} {ms : List (Nat × Nat)} (P0 : PatOk s.heap p code) (hx : x.cps.size ≤ 300) (hr : r.length ≤ 300) (hlit : r.cps.contains 92 = false) (fuel : Nat) (hf : fuel ≤ 200)
    (hs : subs code x.cps fuel 0 false = some ms)
    (hq : ∀ h' tk' t', (∀ b o, s.heap.get? b = some o → h'.get? b = some o) → Q (.str (Str.join "" (pieces x.cps r ms 0)) t') { s with heap := h', toks := tk' }) :
    wpAny (model prog w) A (call (.builtin "re.Pattern.sub") [.ref p, .str r t1, .str x t2]) Q E s := by
  obtain ⟨op, fs, c, oc, ws, n, h1, h0, _⟩ := P0.ex
  refine wpAny_call (codeAny_call_builtin slot_pat_sub.plain entry_sub (slot_pat_sub.check _ _ _ _ _ _ _ _ ⟨op, h1, h0⟩ (args_pat_sub _ _ _) ?_))
  unfold Builtin.«re.Pattern.sub» reSubstitute
  dsimp only
  refine wpAny_bind (m := reNamed _ _ _ _ _ _) (wpAny_of_eq (a := [some (.str r t1), some (.str x t2), none]) (by first | rfl | kernel_rfl) ?_)
  dsimp only
  refine wpAny_bind (wpAny_pure ?_)
  refine wpAny_bind (wpAny_specialOf (typeIs_str s r t1) str_no_call ?_)
  rw [if_neg (by decide)]
  unfold asStr?
  refine wpAny_bind (wpAny_pure ?_)
  dsimp only
  refine wpAny_bind (wpAny_pure ?_)
  rw [hlit]
  rw [if_neg (by decide), if_pos (by rfl)]
  refine wpAny_bind (wpAny_pure ?_)
  dsimp only
  refine wpAny_bind (wpAny_holding (wp_target P0 ?_))
  rw [if_neg (by decide)]
  refine wpAny_bind (wpAny_newList ?_ (by rw [sizeLine_eq]; simp))
  refine wpAny_pure ⟨plainId_quiet plain_loop _, ?_⟩
  refine sub_loop (h0 := s.heap) P0 (Heap.get?_none_of_le (Nat.le_refl _)) hx hr fuel 0 0 0 false _ [] ms hs (fun b o e => Heap.get?_push_of_some _ e) ⟨0, Heap.get?_push_size _ rfl⟩ (by simp; omega) (fun _ h => nomatch h) ?_
  intro h' tk' t' k
  exact hq h' tk' t' k
theorem re_subK {h₀ : Heap} {L : Addr} {m : Str → Option Value} {news : List (Addr × Obj)} {p : Addr} {code : Array Nat} {x r : Str} {t1 t2 : Tok} {Q : Value → Shared → Prop} {ms : List (Nat × Nat)} (F : Fr h₀ L s.heap m) (N : News h₀ L s.heap news) (P0 : PatOk s.heap p code) (hx : x.cps.size ≤ 300) (hr : r.length ≤ 300) (hlit : r.cps.contains 92 = false)
    (hs : subs code x.cps 60 0 false = some ms)
    (hq : ∀ h' tk' t', Fr h₀ L h' m → News h₀ L h' news → Q (.str (Str.join "" (pieces x.cps r ms 0)) t') { s with heap := h', toks := tk' }) :
    wpAny (model prog w) A (call (.builtin "re.Pattern.sub") [.ref p, .str r t1, .str x t2]) Q E s :=
  re_sub P0 hx hr hlit 60 (by decide) hs fun h' tk' t' k => hq h' tk' t' (F.keeps k) fun p hp => ⟨k _ _ (N p hp).1, (N p hp).2⟩
theorem pat_method {p : Addr} {op : Obj} {pl : Sem Bool} {Q : Value × List Value → Shared → Prop} (h1 : s.heap.get? p = some op) (hc : op.cls = .type "re.Pattern") (hd : op.dict = none) (h : Q (.builtin "re.Pattern.sub", [.ref p]) s) :
    wpAny (model prog w) A (getMethod (.ref p) "sub" pl) Q E s :=
  getMethod_builtin ⟨op, h1, hc⟩ plainAttrs_pat slot_pat_sub type_pat_sub (fun a e => by cases e; exact ⟨op, h1, hd⟩) h
end
/-- the text that a substitution gives -/
noncomputable def subText (code : Array Nat) (x r : Str) : Option Str := (subs code x.cps 60 0 false).map fun ms => Str.join "" (pieces x.cps r ms 0)
end Mine
end
section
open PySem PySem.W PyProof.Rows PySem.Calls PySem.Spec
set_option maxRecDepth 100000
set_option maxHeartbeats 1000000
namespace Mine
section
variable {prog : Program} {w : World} {A : Around} {E : Value → Shared → Prop} {s : Shared} {h₀ : Heap} {L : Addr} {m : Str → Option Value} {news : List (Addr × Obj)}
/-- sum over a plain list of ints in the ledger -/
theorem sum_news {l : Addr} {its : Array Value} {k : Nat} {ns : List Int} {Q : Value → Shared → Prop} (hh : A.handled = none) (F : Fr h₀ L s.heap m) (N : News h₀ L s.heap news) (hl : (l, ({ cls := .type "list", data := .seq its k } : Obj)) ∈ news) (hi : IntsAre its.toList ns)
    (h : ∀ h' tk t', Fr h₀ L h' m → News h₀ L h' news → Q (.int ns.sum t') { s with heap := h', toks := tk }) : wpAny (model prog w) A (call (.builtin "sum") [.ref l]) Q E s := by
  have ha : AllInts its := by simpa using hi.allInts
  obtain ⟨xs, rfl⟩ := ha.items
  have e : ns = numsOf (intItems xs).toList := hi.numsOf.symm
  refine sum_intListG hh ⟨_, (N _ hl).1, rfl, k, rfl⟩ fun h' tk t' hk => ?_
  have z := h h' tk t' (F.keeps hk) fun p hp => ⟨hk _ _ (N p hp).1, (N p hp).2⟩
  rw [e, nums_intItems] at z
  rw [preSum_eq, List.take_of_length_le (by simp)]
  exact z
end
theorem ints_of_all : ∀ {l : List Value}, (∀ v ∈ l, ∃ a t, v = Value.int a t) → ∃ ns, IntsAre l ns
  | [], _ => ⟨[], .nil⟩
  | v :: r, h => by
    obtain ⟨ns, hn⟩ := ints_of_all (l := r) fun x hx => h x (.tail _ hx)
    obtain ⟨a, t, rfl⟩ := h v (.head _)
    exact ⟨a :: ns, .cons a t hn⟩
theorem pick_ints {ys : List Value} {ms : List Int} {lo hi st : Option Int} (h : IntsAre ys ms) : ∃ ns, IntsAre (slicePick ys.toArray lo hi st).toList ns := by
  refine ints_of_all fun v hv => ?_
  have ha := h.allInts
  refine ha v ?_
  unfold slicePick at hv
  simp only [List.mem_filterMap] at hv
  obtain ⟨i, _, hi⟩ := hv
  exact Array.mem_of_getElem? hi
end Mine
end
section
open PySem PySem.W PyProof.Rows PySem.Calls PySem.Spec PyProof.Rows.LCg
set_option maxRecDepth 100000
set_option maxHeartbeats 1000000
namespace Mine
section
variable {prog : Program} {w : World} {A : Around} {E : Value → Shared → Prop} {s : Shared} {h₀ : Heap} {L : Addr} {m : Str → Option Value} {env : Env} {news : List (Addr × Obj)}
/-- an element's end, kept closed -/
inductive EltEnd (s : Shared) (h : Heap) (r : Int) : Value → Shared → Prop
  | mk (t : Tok) (tk : Nat) : EltEnd s h r (.int r t) { s with heap := h, toks := tk }
/-- what an element of the comprehension is -/
noncomputable def ZipElt (prog : Program) (w : World) (A : Around) (h₀ : Heap) (L : Addr) (m : Str → Option Value) (env : Env) (elt : PySem.Expr) (a b : Str) (scope : Scope) (cl : List (Str × Addr)) (news : List (Addr × Obj)) (s : Shared) (f : Int → Int → Int) : Prop :=
  ∀ C oC m₂ h tk (x y : Int) tx ty (E' : Value → Shared → Prop), NsObj oC m₂ → m₂ a = some (.int x tx) → m₂ b = some (.int y ty) → Fr h₀ L h m → News h₀ L h ((C, oC) :: news) →
    wpAny (model prog w) A (eval elt (compEnvC scope cl C env)) (EltEnd s h (f x y)) E' { s with heap := h, toks := tk }

theorem zip_block {elt iter : PySem.Expr} {a b : Str} {pa pb tp : Pos} {kk : Nat} {scope : Scope} {cl : List (Str × Addr)} {pos : Pos} {s₂ : Shared} {z TI TO i1 i2 l1 l2 : Addr} {n1 n2 : Nat} {xs ys : List Value} {as bs : List Int} {f : Int → Int → Int}
    {RR : Value → Addr → Result → Shared → Prop}
    (hh : A.handled = none) (D : ZipApart z TI TO i1 i2 l1 l2) (hx : IntsAre xs as) (hy : IntsAre ys bs) (hsz : xs.length ≤ 1000)
    (hz : IsZip s₂.heap z TI TO .none) (hTI : IsPair s₂.heap TI (.ref i1) (.ref i2)) (hTO : ∃ a b, IsPair s₂.heap TO a b) (h1 : s₂.heap.IsListIter i1 l1 0) (h2 : s₂.heap.IsListIter i2 l2 0)
    (m1 : (l1, ({ cls := .type "list", data := .seq xs.toArray n1 } : Obj)) ∈ news) (m2 : (l2, ({ cls := .type "list", data := .seq ys.toArray n2 } : Obj)) ∈ news)
    (hcell : ∀ y ∈ scope.names, y.2 ≠ .cell) (hkind : scope.kind = .function) (hxa : scope.names.lookup a = some .local) (hxb : scope.names.lookup b = some .local) (hab : ¬ a = b)
    (F : Fr h₀ L s₂.heap m) (N : News h₀ L s₂.heap news) (hw : ∀ c ∈ [z, TO, i1, i2], c ≠ L ∧ h₀.get? c = none ∧ ∀ p ∈ news, p.1 ≠ c)
    (he : ZipElt prog w A h₀ L m env elt a b scope cl news s₂ f)
    (hRR : ∀ D C h tk m' vs, Fr h₀ L h m → News h₀ L h ((D, lst vs) :: news) → (∀ p ∈ news, p.1 < D) → h.Ns C m' → h₀.get? C = none → C ≠ L → C ≠ D → (∀ p ∈ news, p.1 ≠ C) → IntsAre vs (List.zipWith f as bs) → RR (.ref D) C (.ok .next) { s₂ with heap := h, toks := tk }) :
    wpAny (model prog w) A (newList []) (fun acc s₃ => wpAny (model prog w) A (newFunctionEnv scope env.globals cl [] env.qual none .none (some env)) (fun cenv s₄ =>
      codeAny (model prog w) A (.compStart (.ListComp elt [⟨.Tuple [.Name a pa, .Name b pb] kk tp, iter, [], 0⟩] scope pos) 0 (.ref z) acc { cenv with scope := relabel scope env }) (RR acc cenv.locals) s₄) E s₃) E s₂ := by
  have W := WalksT.zip2 (prog := prog) (w := w) hh z TI TO i1 i2 l1 l2 D xs.toArray ys.toArray
  generalize hn : min xs.toArray.size ys.toArray.size = n at W
  have hnx : n ≤ xs.length := by rw [← hn, List.size_toArray]; exact Nat.min_le_left ..
  have hl1 : s₂.heap.IsList l1 xs.toArray := ⟨_, (N _ m1).1, rfl, _, rfl⟩
  have hl2 : s₂.heap.IsList l2 ys.toArray := ⟨_, (N _ m2).1, rfl, _, rfl⟩
  obtain ⟨aa, bb, hTO⟩ := hTO
  refine wpAny_newObj_type (wpAny_newFunctionEnv hcell (by intro y hy; simp at hy) (fun h₁ hns₁ hsb₁ => ?_) hkind)
  dsimp only at hns₁ hsb₁ ⊢
  generalize hH2 : s₂.heap.push { cls := .type "list", dict := none, data := .seq ([] : List Value).toArray } = H2 at hns₁ hsb₁ ⊢
  have hC : H2.objs.size = s₂.heap.objs.size + 1 := by rw [← hH2, Heap.size_push]
  have hDC : s₂.heap.objs.size ≠ H2.objs.size := by rw [hC]; exact Nat.ne_of_lt (Nat.lt_succ_self _)
  have below : ∀ b, b < s₂.heap.objs.size → b ≠ H2.objs.size ∧ b ≠ s₂.heap.objs.size := fun b hb => ⟨by rw [hC]; exact Nat.ne_of_lt (Nat.lt_succ_of_lt hb), Nat.ne_of_lt hb⟩
  have old : ∀ b o, s₂.heap.get? b = some o → h₁.get? b = some o := fun b o e => hsb₁.extBut b o (below b (Heap.lt_size e)).1 (Heap.get?_push_of_some _ (hH2 ▸ Heap.get?_push_of_some _ e))
  have hacc : h₁.get? s₂.heap.objs.size = some (lst []) := hsb₁.extBut _ _ hDC (Heap.get?_push_of_some _ (hH2 ▸ Heap.get?_push_size _ rfl))
  have fresh : ∀ a, s₂.heap.objs.size ≤ a → s₂.heap.get? a = none := fun a ha => by
    cases e : s₂.heap.get? a with
    | none => rfl
    | some o' => exact absurd (Heap.lt_size e) (Nat.not_lt.mpr ha)
  have fresh₀ : ∀ a, s₂.heap.objs.size ≤ a → h₀.get? a = none := fun a ha => by
    cases e : h₀.get? a with
    | none => rfl
    | some o' => have := F.keep a o' e; rw [fresh a ha] at this; cases this
  have hD₀ : h₀.get? s₂.heap.objs.size = none := fresh₀ _ (Nat.le_refl _)
  have hC₀ : h₀.get? H2.objs.size = none := fresh₀ _ (by rw [hC]; exact Nat.le_succ _)
  have hLlt : L < s₂.heap.objs.size := F.ns.lt
  have hDL : s₂.heap.objs.size ≠ L := Ne.symm (below L hLlt).2
  have hCL : H2.objs.size ≠ L := Ne.symm (below L hLlt).1
  have lt_z : z < s₂.heap.objs.size := Heap.lt_size hz
  have lt_TI : TI < s₂.heap.objs.size := Heap.lt_size hTI
  have lt_TO : TO < s₂.heap.objs.size := Heap.lt_size hTO
  have lt_1 : i1 < s₂.heap.objs.size := by obtain ⟨_, e, _⟩ := h1; exact Heap.lt_size e
  have lt_2 : i2 < s₂.heap.objs.size := by obtain ⟨_, e, _⟩ := h2; exact Heap.lt_size e
  have lt_l1 : l1 < s₂.heap.objs.size := Heap.lt_size (N _ m1).1
  have lt_l2 : l2 < s₂.heap.objs.size := Heap.lt_size (N _ m2).1
  have ltn : ∀ p ∈ news, p.1 < s₂.heap.objs.size := fun p hp => Heap.lt_size (N p hp).1
  have ltf : ∀ c ∈ [z, TI, TO, i1, i2, l1, l2], c < s₂.heap.objs.size := by
    intro c hc
    simp only [List.mem_cons, List.not_mem_nil, or_false] at hc
    rcases hc with rfl | rfl | rfl | rfl | rfl | rfl | rfl <;> assumption
  have ltw : ∀ c ∈ [z, TO, i1, i2], c < s₂.heap.objs.size := fun c hc => ltf c (W.sub c hc)
  have hLw : L ∉ [z, TO, i1, i2] := fun hm => (hw _ hm).1 rfl
  have hCw : H2.objs.size ∉ [z, TO, i1, i2] := fun hm => (below _ (ltw _ hm)).1 rfl
  have hDw : s₂.heap.objs.size ∉ [z, TO, i1, i2] := fun hm => (below _ (ltw _ hm)).2 rfl
  have hnw : ∀ p ∈ news, p.1 ∉ [z, TO, i1, i2] := fun p hp hm => (hw _ hm).2.2 p hp rfl
  have how : ∀ b o, h₀.get? b = some o → b ∉ [z, TO, i1, i2] := fun b o e hm => by rw [(hw _ hm).2.1] at e; cases e
  have St0 := W.frame 0 s₂.heap h₁ ⟨hz, hTI, ⟨_, _, hTO⟩, h1, h2, hl1, hl2⟩ fun b _ o e => old b o e
  have loop : ∀ s₃ : Shared, s₃ = { s₂ with heap := h₁, toks := s₂.toks + ([] : List (Str × Value)).length } →
      codeAny (model prog w) A (.compLoop (.ListComp elt [⟨.Tuple [.Name a pa, .Name b pb] kk tp, iter, [], 0⟩] scope pos) 0 (.ref z) (.ref s₂.heap.objs.size) (compEnvC scope cl H2.objs.size env))
        (RR (.ref s₂.heap.objs.size) H2.objs.size) s₃ := by
    rintro s₃ rfl
    refine kcp_loop
      (fun k s' => ∃ h' tk i vs m', s' = { s₂ with heap := h', toks := tk } ∧ i ≤ n ∧ k = n + 1 - i ∧ IntsAre vs (List.zipWith f (as.take i) (bs.take i)) ∧ vs.length = i ∧ (IsZip h' z TI TO .none ∧ IsPair h' TI (.ref i1) (.ref i2) ∧ (∃ a b, IsPair h' TO a b) ∧ h'.IsListIter i1 l1 i ∧ h'.IsListIter i2 l2 i ∧ h'.IsList l1 xs.toArray ∧ h'.IsList l2 ys.toArray) ∧ Fr h₀ L h' m ∧ h'.Ns H2.objs.size m' ∧
        News h₀ L h' ((s₂.heap.objs.size, lst vs) :: news)) ?_ (n + 1)
      ⟨h₁, _, 0, [], _, rfl, Nat.zero_le _, rfl, by simp; exact .nil, rfl, St0, F.keeps old, hns₁, fun p hp => ?_⟩
    · rintro k s' ⟨h', tk, i, vs, m', rfl, hi, rfl, hv, hvl, hst', F', hn', N'⟩
      by_cases hlt : i < n
      · refine W.item i _ _ _ hlt hst' fun T vals h₂ tk₂ hP hge hT hMd hk₂ => ?_
        have hTw := W.apart _ _ _ hMd
        refine W.go _ _ _ i T _ _ _ hMd fun h₃ hst₃ hk₃ => ?_
        obtain ⟨x, y, hx', hy', rfl⟩ := hP
        obtain ⟨p, tp', rfl, hpa⟩ := hx.at i x (by simpa using hx')
        obtain ⟨q, tq', rfl, hqb⟩ := hy.at i y (by simpa using hy')
        have up₃ : ∀ c o, c ∉ [z, TO, i1, i2] → h'.get? c = some o → h₃.get? c = some o := fun c o hc e => hk₃ c o hc (hk₂ c o hc e)
        have hT₃ : h₃.IsTuple T #[.int p tp', .int q tq'] := hT.at fun o e => hk₃ _ o hTw e
        refine kcp_assign (env := compEnvC scope cl H2.objs.size env) hh hT₃ (lookup_relabel_local hxa) (lookup_relabel_local hxb) (by simp [compEnvC, relabel, hkind]) (hn'.at' fun o e => up₃ _ o hCw e) fun h₄ tk₄ hn₄ hs₄ => ?_
        have up : ∀ c o, c ∉ [z, TO, i1, i2] → c ≠ H2.objs.size → h'.get? c = some o → h₄.get? c = some o := fun c o h1 h2 e => hs₄ c o h2 (up₃ c o h1 e)
        have hst₄ := W.frame (i + 1) h₃ h₄ hst₃ fun c hc o e => hs₄ c o (fun q => by rw [q] at hc; exact (below _ (ltf _ hc)).1 rfl) e
        obtain ⟨oC, heC, hoC⟩ := ns_obj hn₄
        have F₄ : Fr h₀ L h₄ m := ⟨F'.ns.at' fun o e => up _ o hLw (Ne.symm hCL) e, fun c o e => up c o (how c o e) (fun q => by rw [q, hC₀] at e; cases e) (F'.keep c o e), F'.above⟩
        have N₄ : News h₀ L h₄ ((H2.objs.size, oC) :: news) := fun r hr => by
          rcases List.mem_cons.mp hr with rfl | hr
          · exact ⟨heC, hCL, hC₀⟩
          · have z := N' r (.tail _ hr)
            exact ⟨up _ _ (hnw r hr) (below _ (ltn r hr)).1 z.1, z.2⟩
        have hD₄ : h₄.get? s₂.heap.objs.size = some (lst vs) := up _ _ hDw hDC (N' _ (.head _)).1
        refine wpAny_mono (he H2.objs.size oC _ h₄ _ p q tp' tq' _ hoC (by simp [hab]) (by simp) F₄ N₄) (fun v s₅ h₅ => ?_) fun _ _ e => e
        obtain ⟨tv, tk₅⟩ := h₅
        refine append_at (hsz := by show vs.toArray.size ≤ sizeLine; rw [List.size_toArray, hvl, sizeLine_eq]; omega) hD₄ fun h₆ hs₆ hD₆ => ?_
        refine ⟨n + 1 - (i + 1), by omega, h₆, tk₅, i + 1, vs ++ [.int (f p q) tv], _, rfl, hlt, rfl, ?_, by rw [List.length_append, List.length_singleton, hvl], ?_, F₄.change hs₆ hDL hD₀, hn₄.sameBut hs₆ (Ne.symm hDC), fun r hr => ?_⟩
        · rw [List.take_add_one, List.take_add_one, hpa, hqb]
          have hia : (as.take i).length = i := by rw [List.length_take]; have := (List.getElem?_eq_some_iff.mp hpa).1; omega
          have hib : (bs.take i).length = i := by rw [List.length_take]; have := (List.getElem?_eq_some_iff.mp hqb).1; omega
          rw [List.zipWith_append (by rw [hia, hib])]
          exact hv.append (.cons _ _ .nil)
        · exact W.frame (i + 1) h₄ h₆ hst₄ fun c hc o e => hs₆.extBut c o (fun q => by rw [q] at hc; exact (below _ (ltf _ hc)).2 rfl) e
        · rcases List.mem_cons.mp hr with rfl | hr
          · exact ⟨hD₆.trans (congrArg some (lst_snoc vs _)), hDL, hD₀⟩
          · have z := N₄ r (.tail _ hr)
            exact ⟨hs₆.extBut _ _ (below _ (ltn r hr)).2 z.1, z.2⟩
      · have hin : i = n := Nat.le_antisymm hi (Nat.not_lt.mp hlt)
        subst hin
        refine W.done _ _ _ hst' fun h₂ tk₂ hk₂ => ?_
        have F₂ : Fr h₀ L h₂ m := ⟨F'.ns.at' fun o e => hk₂ _ o hLw e, fun c o e => hk₂ c o (how c o e) (F'.keep c o e), F'.above⟩
        refine hRR _ _ h₂ tk₂ _ vs F₂ (fun p hp => ?_) ltn (hn'.at' fun o e => hk₂ _ o hCw e) hC₀ hCL (Ne.symm hDC) (fun p hp => (below _ (ltn p hp)).1) ?_
        · have z := N' p hp
          refine ⟨hk₂ _ _ ?_ z.1, z.2⟩
          rcases List.mem_cons.mp hp with rfl | hp
          · exact hDw
          · exact hnw p hp
        · have e : List.zipWith f (as.take i) (bs.take i) = List.zipWith f as bs := by
            rw [← List.take_zipWith, List.take_of_length_le]
            rw [List.length_zipWith, ← hx.length, ← hy.length, ← hn]
            simp
          rw [← e]; exact hv
    · rcases List.mem_cons.mp hp with rfl | hp
      · exact ⟨hacc, hDL, hD₀⟩
      · exact ⟨old _ _ (N p hp).1, (N p hp).2⟩
  exact codeAny_compStart_list (loop _ rfl) (W.self 0 _ _ _ St0 (loop _ rfl))

/-- behind the zip call -/
noncomputable def ZipSrc (prog : Program) (w : World) (A : Around) (h₀ : Heap) (L : Addr) (m : Str → Option Value) (env : Env) (elt : PySem.Expr) (a b : Str) (scope : Scope) (cl : List (Str × Addr)) (Fin : Shared → List Int → List (Addr × Obj) → Prop) (xv : Value) (s₁ : Shared) : Prop :=
  ∃ (z TI TO i1 i2 l1 l2 : Addr) (n1 n2 : Nat) (xs ys : List Value) (as bs : List Int) (f : Int → Int → Int) (news : List (Addr × Obj)), xv = .ref z ∧ A.handled = none ∧ ZipApart z TI TO i1 i2 l1 l2 ∧ IntsAre xs as ∧ IntsAre ys bs ∧ xs.length ≤ 1000 ∧
    IsZip s₁.heap z TI TO .none ∧ IsPair s₁.heap TI (.ref i1) (.ref i2) ∧ (∃ a b, IsPair s₁.heap TO a b) ∧ s₁.heap.IsListIter i1 l1 0 ∧ s₁.heap.IsListIter i2 l2 0 ∧
    (l1, ({ cls := .type "list", data := .seq xs.toArray n1 } : Obj)) ∈ news ∧ (l2, ({ cls := .type "list", data := .seq ys.toArray n2 } : Obj)) ∈ news ∧
    Fr h₀ L s₁.heap m ∧ News h₀ L s₁.heap news ∧ (∀ c ∈ [z, TO, i1, i2], c ≠ L ∧ h₀.get? c = none ∧ ∀ p ∈ news, p.1 ≠ c) ∧ ZipElt prog w A h₀ L m env elt a b scope cl news s₁ f ∧ Fin s₁ (List.zipWith f as bs) news

noncomputable def FinZ (h₀ : Heap) (L : Addr) (m : Str → Option Value) (y : Str) (Q : Flow → Shared → Prop) (s : Shared) (ns : List Int) (news : List (Addr × Obj)) : Prop :=
  ∀ D h tk vs, Fr h₀ L h (fun z => if z = y then some (.ref D) else m z) → News h₀ L h ((D, lst vs) :: news) → (∀ p ∈ news, p.1 < D) → IntsAre vs ns → Q .next { s with heap := h, toks := tk }

theorem Assign_zip {elt iter : PySem.Expr} {x x₂ y : Str} {px px₂ tp py : Pos} {tk} {scope : Scope} {cl : List (Str × Addr)} {pos spos : Pos} {Q : Flow → Shared → Prop} (F₀ : Fr h₀ L s.heap m) (hLe : env.locals = L)
    (hsw : swapsWith (.ListComp elt [⟨.Tuple [.Name x px, .Name x₂ px₂] tk tp, iter, [], 0⟩] scope pos) (some (.Name y py)) spos.line env = pure true)
    (hclos : closureFor scope env = pure cl) (hcell : ∀ z ∈ scope.names, z.2 ≠ .cell) (hkind : scope.kind = .function)
    (hnames : ∀ z ∈ scope.names, z.2 = .local → scope.names.lookup z.1 = some .local) (hx : scope.names.lookup x = some .local) (hx₂ : scope.names.lookup x₂ = some .local) (hxx : ¬ x = x₂)
    (hy : env.kindOf y = some .local) (hp : (env.scope.kind == .class || (env.scope.kind == .module && env.locals != env.globals)) = false)
    (h : wpAny (model prog w) A (eval iter env) (ZipSrc prog w A h₀ L m env elt x x₂ scope cl (FinZ h₀ L m y Q)) E s)
    (hs : ∀ x, foldedSetIterable iter env x = pure x := by intro _; rfl) :
    wpAny (model prog w) A (exec (.Assign [.Name y py] (.ListComp elt [⟨.Tuple [.Name x px, .Name x₂ px₂] tk tp, iter, [], 0⟩] scope pos) spos) env) Q E s := by
  subst hLe
  rw [exec_Assign_Name_used _ _ _ _ hsw]
  refine wpAny_bind (wpAny_standAt (wpAny_bind ?_))
  show wpAny _ A (do let _ ← comprehension (.ListComp elt [⟨.Tuple [.Name x px, .Name x₂ px₂] tk tp, iter, [], 0⟩] scope pos) scope env _ (newList []) false (eval iter env) (some (assign (.Name y py) env))) _ _ s
  refine wpAny_bind (wpAny_mono (wpAny_comprehension_free (use := some (assign (.Name y py) env)) (Q := fun _ s' => Q .next s') rfl hs hclos hkind hnames
    (wpAny_mono h (fun xv s₁ h₁ => ?_) fun _ _ e => e)) (fun _ s' hq => wpAny_pure (wpAny_pure hq)) fun _ _ e => e)
  obtain ⟨z, TI, TO, i1, i2, l1, l2, n1, n2, xs, ys, as, bs, f, news, rfl, hh, D, hxi, hyi, hsz, hz, hTI, hTO, h1, h2, m1, m2, F, N, hw, he, fin⟩ := h₁
  refine wpAny_pyIter_zip hz ?_
  refine zip_block hh D hxi hyi hsz hz hTI hTO h1 h2 m1 m2 hcell hkind hx hx₂ hxx F N hw he ?_
  intro D C h' tk m' vs F' N' lt hn hC₀ hCL hCD offC hv
  show wpAny _ A (assign (.Name y py) env (.ref D)) _ _ _
  refine wpAny_assign_Name (wpAny_storeName_local hy F'.ns (fun h₂ hn₂ hs₂ => ?_) hp)
  have hL₀ : h₀.get? env.locals = none := Heap.get?_none_of_le F'.above
  have F₂ : Fr h₀ env.locals h₂ (fun z => if z = y then some (.ref D) else m z) := ⟨hn₂, fun b o e => hs₂.extBut b o (fun q => by rw [q, hL₀] at e; cases e) (F'.keep b o e), F'.above⟩
  refine ⟨m', hn.sameBut hs₂ hCL, fun h'' hs'' => fin D h'' _ vs (F₂.change hs'' hCL hC₀) (fun p hp => ?_) lt hv⟩
  have z : h₂.get? p.1 = some p.2 := hs₂.extBut _ _ (N' p hp).2.1 (N' p hp).1
  refine ⟨hs''.extBut _ _ ?_ z, (N' p hp).2⟩
  rcases List.mem_cons.mp hp with rfl | hp
  · exact Ne.symm hCD
  · exact offC p hp

theorem zip_src {elt : PySem.Expr} {a b : Str} {scope : Scope} {cl : List (Str × Addr)} {Fin : Shared → List Int → List (Addr × Obj) → Prop} {l1 l2 : Addr} {n1 n2 : Nat} {xs ys : List Value} {as bs : List Int} (f : Int → Int → Int)
    (hh : A.handled = none) (F : Fr h₀ L s.heap m) (N : News h₀ L s.heap news) (m1 : (l1, ({ cls := .type "list", data := .seq xs.toArray n1 } : Obj)) ∈ news) (m2 : (l2, ({ cls := .type "list", data := .seq ys.toArray n2 } : Obj)) ∈ news)
    (hx : IntsAre xs as) (hy : IntsAre ys bs) (hsz : xs.length ≤ 1000)
    (he : ∀ g, ZipElt prog w A h₀ L m env elt a b scope cl news { s with heap := g } f) (fin : ∀ g, Fin { s with heap := g } (List.zipWith f as bs) news) :
    wpAny (model prog w) A (call (.type "zip") [.ref l1, .ref l2]) (ZipSrc prog w A h₀ L m env elt a b scope cl Fin) E s := by
  have lt1 : l1 < s.heap.objs.size := Heap.lt_size (N _ m1).1
  have lt2 : l2 < s.heap.objs.size := Heap.lt_size (N _ m2).1
  have ltn : ∀ p ∈ news, p.1 < s.heap.objs.size := fun p hp => Heap.lt_size (N p hp).1
  have hLlt : L < s.heap.objs.size := F.ns.lt
  have fresh₀ : ∀ a, s.heap.objs.size ≤ a → h₀.get? a = none := fun a ha => by
    cases e : h₀.get? a with
    | none => rfl
    | some o' => exact absurd (Heap.lt_size (F.keep a o' e)) (Nat.not_lt.mpr ha)
  refine call_zip_2 ⟨_, (N _ m1).1, rfl, _, rfl⟩ ⟨_, (N _ m2).1, rfl, _, rfl⟩ fun h' hz hTI hTO h1 h2 hs hk => ?_
  generalize hzS : s.heap.objs.size = S at *
  have ne : ∀ {a b : Nat}, a < b → a ≠ b := fun h => Nat.ne_of_lt h
  refine ⟨_, _, _, _, _, l1, l2, n1, n2, xs, ys, as, bs, f, news, rfl, hh, ?_, hx, hy, hsz, hz, hTI, ⟨_, _, hTO⟩, h1, h2, m1, m2, F.keeps hk, fun p hp => ⟨hk _ _ (N p hp).1, (N p hp).2⟩, ?_, he _, fin _⟩
  · have lt1' : @LT.lt Nat _ l1 S := lt1
    have lt2' : @LT.lt Nat _ l2 S := lt2
    exact ⟨ne (by omega), ne (by omega), ne (by omega), ne (by omega), ne (by omega), (ne (by omega)).symm, (ne (by omega)).symm, (ne (by omega)).symm, (ne (by omega)).symm, ne (by omega), ne (by omega), ne (by omega), ne (by omega), ne (by omega), ne (by omega), ne (by omega), ne (by omega), ne (by omega)⟩
  · intro c hc
    have hge : @LE.le Nat _ S c := by
      simp only [List.mem_cons, List.not_mem_nil, or_false] at hc
      rcases hc with rfl | rfl | rfl | rfl
      · exact Nat.le_add_right ..
      · exact Nat.le_add_right ..
      · exact Nat.le_refl _
      · exact Nat.le_add_right ..
    exact ⟨(Nat.ne_of_lt (Nat.lt_of_lt_of_le hLlt hge)).symm, fresh₀ c hge, fun p hp => Nat.ne_of_lt (Nat.lt_of_lt_of_le (ltn p hp) hge)⟩
end
end Mine
end
section
open PySem PySem.W PyProof.Rows PySem.Calls PySem.Spec PyProof.Rows.LCg
set_option maxRecDepth 100000
set_option maxHeartbeats 1000000
namespace Mine
section
variable {prog : Program} {w : World} {A : Around} {E : Value → Shared → Prop} {Q : Flow → Shared → Prop} {s : Shared} {env : Env} {h₀ : Heap}
/-- a list of the ledger whose items are pairs of the ledger, walked by two names -/
noncomputable def PairL (prog : Program) (w : World) (A : Around) (h₀ : Heap) (env : Env) (x y : Str) (body : List Stmt) (Q : Flow → Shared → Prop) (E : Value → Shared → Prop) (xv : Value) (s₁ : Shared) : Prop :=
  ∃ (l : Addr) (k : Nat) (vs : List Value) (kl : List (Addr × Obj)) (Rr : Inv) (m : Str → Option Value) (news : List (Addr × Obj)) (pr : Nat → Value × Value),
    xv = .ref l ∧ A.handled = none ∧ (l, ({ cls := .type "list", data := .seq vs.toArray k } : Obj)) ∈ kl ∧ Fr h₀ env.locals s₁.heap m ∧ News h₀ env.locals s₁.heap news ∧ (∀ p ∈ kl, p ∈ news) ∧ (∀ h, Rr 0 m news { s₁ with heap := h }) ∧
    (∀ i m news s h tk, Rr i m news s → Rr i m news { s with heap := h, toks := tk }) ∧
    (∀ i v, vs[i]? = some v → ∃ (t : Addr) (nt : Nat), v = .ref t ∧ (t, ({ cls := .type "tuple", data := .seq #[(pr i).1, (pr i).2] nt } : Obj)) ∈ kl) ∧
    (∀ I i io m news s₂, i < vs.length → Rr i m news s₂ → (∀ p ∈ news, p.1 ≠ I) → (∀ p ∈ kl, p ∈ news) → (∀ p ∈ kl, p.1 < I) → Fr h₀ env.locals s₂.heap (fun z => if z = y then some (pr i).2 else if z = x then some (pr i).1 else m z) → News h₀ env.locals s₂.heap ((I, io) :: news) →
      wpAny (model prog w) A (execs body env) (PostL h₀ env.locals I io kl (Rr (i + 1)) Q) E s₂) ∧
    (∀ m news s₂, Rr vs.length m news s₂ → (∀ p ∈ kl, p ∈ news) → Fr h₀ env.locals s₂.heap m → News h₀ env.locals s₂.heap news → Q .next s₂)

theorem For_pairs {x y : Str} {px py tp pos : Pos} {kk : Nat} {iter : PySem.Expr} {body : List Stmt} {mF : Str → Option Value} (_F : Fr h₀ env.locals s.heap mF) (hx : env.kindOf x = some .local) (hy : env.kindOf y = some .local)
    (hp : (env.scope.kind == .class || (env.scope.kind == .module && env.locals != env.globals)) = false)
    (h : wpAny (model prog w) A (eval iter env) (PairL prog w A h₀ env x y body Q E) E s)
    (hs : ∀ x, foldedSetIterable iter env x = pure x := by intro _; rfl)
    (hE : PassesOwn (model prog w) A env E := by passes_own) :
    wpAny (model prog w) A (exec (.For (.Tuple [.Name x px, .Name y py] kk tp) iter body [] pos) env) Q E s := by
  refine wpAny_For (wpAny_mono h (fun xv s₁ h₁ => ?_) fun _ _ e => e) hs
  obtain ⟨l, k, vs, kl, Rr, m, news, pr, rfl, hh, hl, F, N, hk, h0, hRs, hpr, turn, done⟩ := h₁
  have hlt : ∀ p ∈ news, p.1 < s₁.heap.objs.size := fun p hp => Heap.lt_size (N p hp).1
  have hL := N _ (hk _ hl)
  have hls : s₁.heap.IsList l vs.toArray := ⟨_, hL.1, rfl, k, rfl⟩
  have hne : l ≠ s₁.heap.objs.size := Nat.ne_of_lt (hlt _ (hk _ hl))
  refine wpAny_pyIter_list hls ?_
  have W := Walks.list (prog := prog) (w := w) hh s₁.heap.objs.size l hne vs.toArray
  have e1 : vs.toArray.size = vs.length := by simp
  rw [e1] at W
  have hI0 : h₀.get? s₁.heap.objs.size = none := next_is_new F
  have hltk : ∀ p ∈ kl, p.1 < s₁.heap.objs.size := fun p hp => hlt p (hk p hp)
  have hIL : env.locals ≠ s₁.heap.objs.size := Nat.ne_of_lt F.ns.lt
  have hlL : env.locals ≠ l := fun e => hL.2.1 e.symm
  have St0 : (s₁.heap.push { cls := .type "list_iterator", data := .fields #[.ref l, .int 0 0] }).IsListIter s₁.heap.objs.size l 0 := ⟨_, Heap.get?_push_size _ rfl, rfl, rfl⟩
  have hls0 := hls.push { cls := .type "list_iterator", data := .fields #[.ref l, .int 0 0] }
  have up0 : ∀ b o, s₁.heap.get? b = some o → (s₁.heap.push { cls := .type "list_iterator", data := .fields #[.ref l, .int 0 0] }).get? b = some o := fun b o e => Heap.get?_push_of_some _ e
  generalize hI : s₁.heap.objs.size = I at *
  generalize hn : vs.length = n at *
  refine codeAny_forLoop_any (R := fun r s' => match r with | .ok f => Q f s' | .error e => cameBackBy (model prog w) A env E e s')
    (fun k s' => ∃ i m news, (s'.heap.IsListIter I l i ∧ s'.heap.IsList l vs.toArray) ∧ Fr h₀ env.locals s'.heap m ∧ News h₀ env.locals s'.heap news ∧ (∀ p ∈ news, p.1 ≠ I) ∧ (∀ p ∈ kl, p ∈ news) ∧ Rr i m news s' ∧ i ≤ n ∧ k = n + 1 - i) ?_ (n + 1)
    ⟨0, m, news, ⟨St0, hls0⟩, F.keeps up0, fun p hp => ⟨up0 _ _ (N p hp).1, (N p hp).2⟩, fun p hp => Nat.ne_of_lt (hlt p hp), hk, h0 _, Nat.zero_le _, rfl⟩
  rintro k s' ⟨i, m', news', hst', F', N', off', k', R', hi, rfl⟩
  have old : ∀ b o, h₀.get? b = some o → b ∉ [I] := fun b o e hb => by rw [List.mem_singleton.mp hb, hI0] at e; cases e
  have next : ∀ h₁ : Heap, (∀ b o, b ∉ [I] → s'.heap.get? b = some o → h₁.get? b = some o) → Fr h₀ env.locals h₁ m' ∧ News h₀ env.locals h₁ news' := fun h₁ hk₁ =>
    ⟨⟨F'.ns.at' fun o e => hk₁ _ o (by simpa using hIL) e, fun b o e => hk₁ b o (old b o e) (F'.keep b o e), F'.above⟩, fun p hp => ⟨hk₁ _ _ (by simpa using off' p hp) (N' p hp).1, (N' p hp).2⟩⟩
  by_cases hlt' : i < n
  · refine W.item i _ _ _ hlt' hst' fun v h₁ tk₁ hP hst₁ hk₁ => ?_
    have hit₁ : ({ s' with heap := h₁, toks := tk₁ } : Shared).heap.IsListIter I l (i + 1) := hst₁.1
    obtain ⟨F₁, N₁⟩ := next h₁ hk₁
    obtain ⟨t, nt, rfl, ht⟩ := hpr i v (by simpa using hP)
    refine wpAny_letOwnedTupleGo_listiter hit₁ ?_
    have hT : h₁.IsTuple t #[(pr i).1, (pr i).2] := ⟨_, (N₁ _ (k' _ ht)).1, rfl, nt, rfl⟩
    refine kcp_assign hh hT hx hy hp F₁.ns fun h₂ tk₂ hn₂ hs₂ => ?_
    have hL₀ : h₀.get? env.locals = none := Heap.get?_none_of_le F'.above
    have F₂ : Fr h₀ env.locals h₂ _ := ⟨hn₂, fun b o e => hs₂ b o (fun q => by rw [q, hL₀] at e; cases e) (F₁.keep b o e), F₁.above⟩
    obtain ⟨⟨io, hio, hio2⟩, hlst₁⟩ := hst₁
    have hio₂ : h₂.get? I = some io := hs₂ _ _ hIL.symm hio
    have N₂ : News h₀ env.locals h₂ ((I, io) :: news') := fun p hp => by
      rcases List.mem_cons.mp hp with rfl | hp
      · exact ⟨hio₂, hIL.symm, hI0⟩
      · exact ⟨hs₂ _ _ (N₁ p hp).2.1 (N₁ p hp).1, (N₁ p hp).2⟩
    refine wpAny_mono (wpAny_passesOwn hE (turn I i io m' news' { s' with heap := h₂, toks := tk₂ } hlt' (hRs _ _ _ _ _ _ R') off' k' hltk F₂ N₂)) (fun f s₃ h₃ => ?_) fun _ _ e => e
    have fin : TurnL h₀ env.locals I io kl (Rr (i + 1)) s₃ → ∃ m, m < n + 1 - i ∧ ∃ i m_1 news, (s₃.heap.IsListIter I l i ∧ s₃.heap.IsList l vs.toArray) ∧ Fr h₀ env.locals s₃.heap m_1 ∧ News h₀ env.locals s₃.heap news ∧ (∀ p ∈ news, p.1 ≠ I) ∧ (∀ p ∈ kl, p ∈ news) ∧ Rr i m_1 news s₃ ∧ i ≤ n ∧ m = n + 1 - i := by
      rintro ⟨m₃, news₃, F₃, N₃, off₃, k₃, R₃⟩
      exact ⟨n + 1 - (i + 1), by omega, i + 1, m₃, news₃, ⟨⟨io, (N₃ _ (.head _)).1, hio2⟩, ⟨_, (N₃ _ (.tail _ (k₃ _ hl))).1, rfl, _, rfl⟩⟩, F₃, fun p hp => N₃ p (.tail _ hp), off₃, k₃, R₃, hlt', rfl⟩
    cases f with
    | ret v => exact h₃
    | brk => exact h₃
    | next => exact fin h₃
    | cont => exact fin h₃
  · have hin : i = n := by omega
    subst hin
    refine W.done _ _ _ hst' fun h₁ tk₁ hk₁ => wpAny_execs_nil ?_
    obtain ⟨F₁, N₁⟩ := next h₁ hk₁
    exact done m' news' { s' with heap := h₁, toks := tk₁ } (hRs _ _ _ _ _ _ R') k' F₁ N₁
end
end Mine
end
section
open PySem PySem.W PyProof.Rows PySem.Calls PySem.Spec PyProof.Rows.LCg
set_option maxRecDepth 100000
set_option maxHeartbeats 1000000
namespace Mine
section
variable {prog : Program} {w : World} {A : Around} {E : Value → Shared → Prop} {s : Shared} {env : Env} {h₀ : Heap} {L : Addr} {news : List (Addr × Obj)}
/-- an item of a list of three texts at an unknown place -/
theorem menu3 {value slice : PySem.Expr} {l : Addr} {a b c : Str} {ta tb tc u : Tok} {n : Nat} {k : Int} {Q : Value → Shared → Prop} (N : News h₀ L s.heap news)
    (hm : (l, ({ cls := .type "list", data := .seq #[.str a ta, .str b tb, .str c tc] n } : Obj)) ∈ news) (h0 : 0 ≤ k) (h3 : k < 3)
    (h : ∀ e t, (e = a ∨ e = b ∨ e = c) → Q (.str e t) s)
    (hs : ∀ k : Int, subscripted slice false (.ref l) (.int k u) = operate [.ref l, .int k u] (getItem (.ref l) (.int k u)) := by intro k; with_unfolding_all rfl) :
    wpAny (model prog w) A (subscriptTail value slice (.ref l) (.int k u)) Q E s := by
  have hl : s.heap.IsList l #[.str a ta, .str b tb, .str c tc] := ⟨_, (N _ hm).1, rfl, _, rfl⟩
  have hk : k = 0 ∨ k = 1 ∨ k = 2 := by omega
  rcases hk with rfl | rfl | rfl
  · exact tail_any hl.typeIs slot_list_getitem.lookup (wpAny_getItem_list hl (by decide) (by decide) rfl (h _ _ (.inl rfl))) (hs 0)
  · exact tail_any hl.typeIs slot_list_getitem.lookup (wpAny_getItem_list hl (by decide) (by decide) rfl (h _ _ (.inr (.inl rfl)))) (hs 1)
  · exact tail_any hl.typeIs slot_list_getitem.lookup (wpAny_getItem_list hl (by decide) (by decide) rfl (h _ _ (.inr (.inr rfl)))) (hs 2)
noncomputable def Mark : Prop := True
/-- what an expression's value is, kept closed -/
noncomputable def Meet (h₀ : Heap) (L : Addr) (m : Str → Option Value) (news : List (Addr × Obj)) (s : Shared) (x : Int) (v : Value) (s' : Shared) : Prop := ∃ t h tk, v = .int x t ∧ s' = { s with heap := h, toks := tk } ∧ Fr h₀ L h m ∧ News h₀ L h news
theorem Meet.mk {m : Str → Option Value} {x y : Int} {t : Tok} {h : Heap} {tk : Nat} (e : y = x) (F : Fr h₀ L h m) (N : News h₀ L h news) : Meet h₀ L m news s x (.int y t) { s with heap := h, toks := tk } := by
  subst e; exact ⟨t, h, tk, rfl, rfl, F, N⟩
noncomputable def Known (s : Shared) (b0 b : Bool) (s' : Shared) : Prop := b = b0 ∧ ∃ tk, s' = { s with toks := tk }
theorem Known.mk {b0 b : Bool} {tk : Nat} (e : b = b0) : Known s b0 b { s with toks := tk } := ⟨e, tk, rfl⟩
/-- an if whose test is known -/
theorem If_known {test : PySem.Expr} {body orelse : List Stmt} {pos : Pos} {Q : Flow → Shared → Prop} (b0 : Bool)
    (ht : wpAny (model prog w) A (isTrue test env (eval test env)) (Known s b0) E s)
    (h : ∀ tk, wpAny (model prog w) A (execs (if b0 = true then body else orelse) env) Q E { s with toks := tk }) :
    wpAny (model prog w) A (exec (.If test body orelse pos) env) Q E s := by
  refine wpAny_If (wpAny_mono ht (fun b s' h' => ?_) fun _ _ e => e)
  obtain ⟨rfl, tk, rfl⟩ := h'
  cases b
  · rw [if_neg (by decide)]; exact h tk
  · rw [if_pos rfl]; exact h tk
theorem eval_meet {e : PySem.Expr} {x : Int} {m : Str → Option Value} {Q : Value → Shared → Prop} (_F : Fr h₀ L s.heap m) (_N : News h₀ L s.heap news)
    (h : wpAny (model prog w) A (eval e env) (Meet h₀ L m news s x) E s)
    (k : ∀ t h tk, Fr h₀ L h m → News h₀ L h news → Q (.int x t) { s with heap := h, toks := tk }) : wpAny (model prog w) A (eval e env) Q E s := by
  refine wpAny_mono h (fun v s' h' => ?_) fun _ _ e => e
  obtain ⟨t, h, tk, rfl, rfl, F, N⟩ := h'
  exact k t h tk F N
theorem sub_nat {a b : Nat} {t u : Tok} {Q : Value → Shared → Prop} (hab : b ≤ a) (h : Q (.int ((a - b : Nat) : Int) s.toks) { s with toks := s.toks + 1 }) : wpAny (model prog w) A (binaryOp .Sub (.int (a : Int) t) (.int (b : Int) u)) Q E s := by
  refine sub_int ?_
  rw [← Int.ofNat_sub hab]; exact h
theorem pow_nat {a : Int} {n : Nat} {t u : Tok} {Q : Value → Shared → Prop} (hn : n ≤ 1000) (ha : a.natAbs ≤ 1000) (h : Q (.int (a ^ n) s.toks) { s with toks := s.toks + 1 }) : wpAny (model prog w) A (binaryOp .Pow (.int a t) (.int (n : Int) u)) Q E s := by
  refine pow_int_small (by omega) (by omega) (by omega) ?_
  rw [Int.toNat_natCast]; exact h
noncomputable abbrev lnObj (vs : List Value) (n : Nat) : Obj := { cls := .type "list", data := .seq vs.toArray n }
theorem mul_news {l : Addr} {n1 k : Nat} {x : Value} {u : Tok} {m : Str → Option Value} {Q : Value → Shared → Prop} (F : Fr h₀ L s.heap m) (N : News h₀ L s.heap news) (hm : (l, lnObj [x] n1) ∈ news) (hk : k ≤ 200)
    (h : ∀ D h', Fr h₀ L h' m → News h₀ L h' ((D, lnObj (List.replicate k x) 0) :: news) → (∀ p ∈ news, p.1 < D) → Q (.ref D) { s with heap := h' }) : wpAny (model prog w) A (binaryOp .Mult (.ref l) (.int (k : Int) u)) Q E s :=
  KMa.mul F N ⟨_, (N _ hm).1, rfl, _, rfl⟩ (by omega) (by omega) (by rw [Int.toNat_natCast]; simp; omega) (by rw [Int.toNat_natCast]; simp) h
theorem add_news {l1 l2 : Addr} {n1 n2 : Nat} {xs ys : List Value} {m : Str → Option Value} {Q : Value → Shared → Prop} (F : Fr h₀ L s.heap m) (N : News h₀ L s.heap news) (m1 : (l1, lnObj xs n1) ∈ news) (m2 : (l2, lnObj ys n2) ∈ news) (hz : xs.length + ys.length ≤ 1000)
    (h : ∀ D h', Fr h₀ L h' m → News h₀ L h' ((D, lnObj (xs ++ ys) 0) :: news) → (∀ p ∈ news, p.1 < D) → Q (.ref D) { s with heap := h' }) : wpAny (model prog w) A (binaryOp .Add (.ref l1) (.ref l2)) Q E s :=
  add_lists (hsz := by rw [sizeLine_eq]; omega) F N ⟨_, (N _ m1).1, rfl, _, rfl⟩ ⟨_, (N _ m2).1, rfl, _, rfl⟩ fun h' F' N' => h _ h' F' N' fun p hp => Heap.lt_size (N p hp).1
end
end Mine
end
section
open PySem PySem.W PyProof.Rows PySem.Calls PySem.Spec
set_option maxRecDepth 100000
set_option maxHeartbeats 1000000
namespace Mine
/-- what the law leaves behind, told over the ghost -/
noncomputable def LawEnd (g : Heap) (os0 : OsState) (tabs : List (Addr × Addr)) (r : Result) (s' : Shared) : Prop :=
  r = .ok (.ret (.bool true)) ∧ (∀ b o, g.get? b = some o → s'.heap.get? b = some o) ∧ s'.os = os0 ∧ AllBare s'.gens ∧ GrownAll tabs s'.heap
theorem law_post {M : Model} {A : Around} {cd : Code} {s s₁ : Shared} {cw : ClaimW} {cl : Str → Option Addr} {mean : ExcName → Option Value} {args : List WData} {tabs : List (Addr × Addr)} (hT : TabsAt tabs s₁.heap) (hr : ∀ x, cw.raises args x = false)
    (hp : cw.post args (.bool true) args = true)
    (h : codeAny M A cd (LawEnd (ghostOf s₁.heap tabs) s₁.os tabs) s) : codeAny M A cd (GoodWG cw cl mean args s₁) s :=
  codeAny_mono h fun r s' ⟨hc, hk, hos, hg, hgr⟩ => by
    have keep : ∀ b o, b ∉ tabs.map (·.2) → s₁.heap.get? b = some o → s'.heap.get? b = some o := fun b o hb e => hk b o (ghost_ne e hb)
    have grown : ∀ b o, b ∈ tabs.map (·.2) → s₁.heap.get? b = some o → isCodeTable s₁.heap b ∧ o = tabObj #[] ∧ ∃ ps, s'.heap.get? b = some (tabObj ps) := fun b o hb e => by
      obtain ⟨q, hq, rfl⟩ := List.mem_map.mp hb
      have e2 := (hT q hq).2
      rw [e] at e2
      exact ⟨((hT q hq).1.tab (hT q hq).2).isCodeTable, Option.some.inj e2, hgr.get q hq⟩
    subst hc
    refine ⟨.inl ⟨.bool true, .bool true, [], rfl, hr, .bool _, hp, fun _ => ⟨List.nodup_nil, fun a ha => by cases ha⟩⟩, ⟨fun b o e => ?_, fun b o e => ?_⟩, hos, hg⟩
    · by_cases hb : b ∈ tabs.map (·.2)
      · obtain ⟨ht, rfl, ps, hP⟩ := grown b o hb e
        exact .inr (.inl ⟨ht, rfl, #[], ps, rfl, by rw [Array.empty_append]; exact hP⟩)
      · exact .inl (keep b o hb e)
    · by_cases hb : b ∈ tabs.map (·.2)
      · obtain ⟨_, _, ps, hP⟩ := grown b o hb e
        exact ⟨_, hP⟩
      · exact ⟨o, keep b o hb e⟩
end Mine
end
section
set_option maxRecDepth 100000
namespace Mine
noncomputable def leastOf (wd size : Nat) : Nat := if size = 0 then 0 else size + (size - 1) / wd + 1
structure Ops (α : Type) where
  zero : α
  one : α
  add : α → α → α
  mul : α → α → α
  sub : α → α → α
section
variable {α β : Type} (O : Ops α)
noncomputable def pw (u : α) : Nat → α
  | 0 => O.one
  | n + 1 => O.mul (pw u n) u
noncomputable def worthOf (u v : α) (gain : Nat) : α := O.mul (pw O u gain) (if gain % 2 = 0 then O.one else v)
noncomputable def addRow (w : α) (size : Nat) (sums old : List α) : List α := List.zipWith (fun x y => O.add x (O.mul w y)) sums (List.replicate size O.zero ++ old)
noncomputable def sumsOf (bound place size : Nat) (u v : α) (tab : List (Nat × List α)) : List α :=
  tab.foldl (fun sums e => if e.1 ≤ size then addRow O (worthOf O u v (leastOf place size - size)) size sums e.2 else sums) (List.replicate (bound + 1) O.zero)
noncomputable def brk (rows bound place size : Nat) : Bool := decide (place < rows) && decide (bound < size + leastOf place size)
noncomputable def sizesOf (rows bound place : Nat) : List Nat := (List.range (bound + 1)).takeWhile fun size => !brk rows bound place size
noncomputable def tableOf (rows bound : Nat) (u v : α) : Nat → List (Nat × List α)
  | 0 => [(0, O.one :: List.replicate bound O.zero)]
  | p + 1 => (sizesOf rows bound (p + 1)).map fun size => (leastOf (p + 1) size, sumsOf O bound (p + 1) size u v (tableOf rows bound u v p))
noncomputable def found0 (rows bound : Nat) (u v : α) : List α := (tableOf O rows bound u v rows).foldl (fun f e => List.zipWith O.add f e.2) (List.replicate (bound + 1) O.zero)
noncomputable def foundN (rows bound : Nat) (u v : α) : Nat → List α
  | 0 => found0 O rows bound u v
  | p + 1 => let f := foundN rows bound u v p; List.zipWith (fun x y => O.sub x (O.mul (pw O u 2) y)) f (List.replicate (rows + (p + 1)) O.zero ++ f)
noncomputable def askedN (bound : Nat) (u v : α) : Nat → List α
  | 0 => O.one :: List.replicate bound O.zero
  | p + 1 => let f := askedN bound u v p; List.zipWith (fun x y => O.add x (O.mul (O.mul u v) y)) f (List.replicate (p + 1) O.zero ++ f)
end
structure Hom {α β : Type} (O : Ops α) (P : Ops β) (φ : α → β) : Prop where
  zero : φ O.zero = P.zero
  one : φ O.one = P.one
  add : ∀ x y, φ (O.add x y) = P.add (φ x) (φ y)
  mul : ∀ x y, φ (O.mul x y) = P.mul (φ x) (φ y)
  sub : ∀ x y, φ (O.sub x y) = P.sub (φ x) (φ y)
section
variable {α β : Type} {O : Ops α} {P : Ops β} {φ : α → β} (H : Hom O P φ)
include H
theorem hom_pw (u : α) : ∀ n, φ (pw O u n) = pw P (φ u) n
  | 0 => H.one
  | n + 1 => by show φ (O.mul _ _) = P.mul _ _; rw [H.mul, hom_pw u n]
theorem hom_worth (u v : α) (n : Nat) : φ (worthOf O u v n) = worthOf P (φ u) (φ v) n := by
  unfold worthOf
  rw [H.mul, hom_pw H]
  split
  · rw [H.one]
  · rfl
theorem hom_zip {f : α → α → α} {g : β → β → β} (h : ∀ x y, φ (f x y) = g (φ x) (φ y)) : ∀ xs ys : List α, (List.zipWith f xs ys).map φ = List.zipWith g (xs.map φ) (ys.map φ)
  | [], _ => by simp
  | _ :: _, [] => by simp
  | x :: xs, y :: ys => by simp [h, hom_zip h xs ys]
theorem hom_pad (n : Nat) (ys : List α) : (List.replicate n O.zero ++ ys).map φ = List.replicate n P.zero ++ ys.map φ := by
  rw [List.map_append, List.map_replicate, H.zero]
theorem hom_addRow (w : α) (size : Nat) (sums old : List α) : (addRow O w size sums old).map φ = addRow P (φ w) size (sums.map φ) (old.map φ) := by
  unfold addRow
  rw [hom_zip H (g := fun x y => P.add x (P.mul (φ w) y)) (fun x y => by rw [H.add, H.mul]), hom_pad H]
noncomputable def mapTab (φ : α → β) (tab : List (Nat × List α)) : List (Nat × List β) := tab.map fun e => (e.1, e.2.map φ)
theorem hom_fold {C : Nat → Bool} {f : List α → List α → List α} {g : List β → List β → List β} (h : ∀ x y, (f x y).map φ = g (x.map φ) (y.map φ)) : ∀ (tab : List (Nat × List α)) (z : List α),
    (tab.foldl (fun sums e => if C e.1 then f sums e.2 else sums) z).map φ = (mapTab φ tab).foldl (fun sums e => if C e.1 then g sums e.2 else sums) (z.map φ)
  | [], _ => rfl
  | e :: r, z => by
    unfold mapTab
    rw [List.foldl_cons, List.map_cons, List.foldl_cons, hom_fold h r]
    unfold mapTab
    dsimp only
    split
    · rw [h]
    · rfl
theorem hom_sums (bound place size : Nat) (u v : α) (tab : List (Nat × List α)) : (sumsOf O bound place size u v tab).map φ = sumsOf P bound place size (φ u) (φ v) (mapTab φ tab) := by
  unfold sumsOf
  have e := hom_fold (φ := φ) H (C := fun k => decide (k ≤ size)) (f := addRow O (worthOf O u v (leastOf place size - size)) size) (g := addRow P (worthOf P (φ u) (φ v) (leastOf place size - size)) size)
    (fun x y => by rw [hom_addRow H, hom_worth H]) tab (List.replicate (bound + 1) O.zero)
  simp only [decide_eq_true_eq, List.map_replicate, H.zero] at e
  exact e
theorem hom_table (rows bound : Nat) (u v : α) : ∀ p, mapTab φ (tableOf O rows bound u v p) = tableOf P rows bound (φ u) (φ v) p
  | 0 => by simp [mapTab, tableOf, H.one, H.zero, List.map_replicate]
  | p + 1 => by
    unfold tableOf mapTab
    rw [List.map_map]
    refine List.map_congr_left fun size _ => ?_
    dsimp only [Function.comp]
    rw [hom_sums H, hom_table rows bound u v p]
theorem hom_found0 (rows bound : Nat) (u v : α) : (found0 O rows bound u v).map φ = found0 P rows bound (φ u) (φ v) := by
  unfold found0
  have e := hom_fold (φ := φ) H (C := fun _ => true) (f := List.zipWith O.add) (g := List.zipWith P.add) (fun x y => hom_zip H (fun a b => H.add a b) x y) (tableOf O rows bound u v rows) (List.replicate (bound + 1) O.zero)
  simp only [if_true, List.map_replicate, H.zero] at e
  rw [hom_table H] at e
  exact e
theorem hom_found (rows bound : Nat) (u v : α) : ∀ p, (foundN O rows bound u v p).map φ = foundN P rows bound (φ u) (φ v) p
  | 0 => hom_found0 H rows bound u v
  | p + 1 => by
    unfold foundN
    dsimp only
    rw [hom_zip H (g := fun x y => P.sub x (P.mul (pw P (φ u) 2) y)) (fun x y => by rw [H.sub, H.mul, hom_pw H]), hom_pad H, hom_found rows bound u v p]
theorem hom_asked (bound : Nat) (u v : α) : ∀ p, (askedN O bound u v p).map φ = askedN P bound (φ u) (φ v) p
  | 0 => by simp [askedN, H.one, H.zero, List.map_replicate]
  | p + 1 => by
    unfold askedN
    dsimp only
    rw [hom_zip H (g := fun x y => P.add x (P.mul (P.mul (φ u) (φ v)) y)) (fun x y => by rw [H.add, H.mul, H.mul]), hom_pad H, hom_asked bound u v p]
end
/-! polynomials in one and two letters -/
noncomputable def ev1 (v : Int) : List Int → Int
  | [] => 0
  | c :: r => c + v * ev1 v r
noncomputable def ad1 : List Int → List Int → List Int
  | [], q => q
  | p, [] => p
  | a :: p, b :: q => (a + b) :: ad1 p q
noncomputable def sc1 (c : Int) (p : List Int) : List Int := p.map (c * ·)
noncomputable def ml1 : List Int → List Int → List Int
  | [], _ => []
  | c :: r, q => ad1 (sc1 c q) (0 :: ml1 r q)
theorem ev1_ad (v : Int) : ∀ p q, ev1 v (ad1 p q) = ev1 v p + ev1 v q
  | [], q => by simp [ad1, ev1]
  | a :: p, [] => by simp [ad1, ev1]
  | a :: p, b :: q => by simp only [ad1, ev1, ev1_ad v p q]; rw [Int.mul_add]; omega
theorem ev1_sc (v c : Int) : ∀ p, ev1 v (sc1 c p) = c * ev1 v p
  | [] => by simp [sc1, ev1]
  | a :: p => by
    have e := ev1_sc v c p
    unfold sc1 at e ⊢
    simp only [List.map_cons, ev1]
    rw [e, Int.mul_add, Int.mul_left_comm]
theorem ev1_ml (v : Int) : ∀ p q, ev1 v (ml1 p q) = ev1 v p * ev1 v q
  | [], q => by simp [ml1, ev1]
  | c :: r, q => by
    simp only [ml1, ev1, ev1_ad, ev1_sc, ev1_ml v r q]
    rw [Int.add_mul, Int.zero_add, Int.mul_assoc]
noncomputable def ev2 (u v : Int) : List (List Int) → Int
  | [] => 0
  | c :: r => ev1 v c + u * ev2 u v r
noncomputable def ad2 : List (List Int) → List (List Int) → List (List Int)
  | [], q => q
  | p, [] => p
  | a :: p, b :: q => ad1 a b :: ad2 p q
noncomputable def sc2 (c : List Int) (p : List (List Int)) : List (List Int) := p.map (ml1 c)
noncomputable def ml2 : List (List Int) → List (List Int) → List (List Int)
  | [], _ => []
  | c :: r, q => ad2 (sc2 c q) ([] :: ml2 r q)
noncomputable def sb2 (p q : List (List Int)) : List (List Int) := ad2 p (sc2 [-1] q)
theorem ev2_ad (u v : Int) : ∀ p q, ev2 u v (ad2 p q) = ev2 u v p + ev2 u v q
  | [], q => by simp [ad2, ev2]
  | a :: p, [] => by simp [ad2, ev2]
  | a :: p, b :: q => by simp only [ad2, ev2, ev2_ad u v p q, ev1_ad]; rw [Int.mul_add]; omega
theorem ev2_sc (u v : Int) (c : List Int) : ∀ p, ev2 u v (sc2 c p) = ev1 v c * ev2 u v p
  | [] => by simp [sc2, ev2]
  | a :: p => by
    have e := ev2_sc u v c p
    unfold sc2 at e ⊢
    simp only [List.map_cons, ev2, ev1_ml]
    rw [e, Int.mul_add, Int.mul_left_comm]
theorem ev2_ml (u v : Int) : ∀ p q, ev2 u v (ml2 p q) = ev2 u v p * ev2 u v q
  | [], q => by simp [ml2, ev2]
  | c :: r, q => by
    simp only [ml2, ev2, ev2_ad, ev2_sc, ev2_ml u v r q, ev1]
    rw [Int.add_mul, Int.zero_add, Int.mul_assoc]
theorem ev2_sb (u v : Int) (p q : List (List Int)) : ev2 u v (sb2 p q) = ev2 u v p - ev2 u v q := by
  unfold sb2
  rw [ev2_ad, ev2_sc]
  simp [ev1]
  omega
noncomputable def isZ (p : List (List Int)) : Bool := p.all fun c => c.all (· == 0)
theorem ev1_z (v : Int) : ∀ p : List Int, p.all (· == 0) = true → ev1 v p = 0
  | [], _ => rfl
  | c :: r, h => by
    simp only [List.all_cons, Bool.and_eq_true, beq_iff_eq] at h
    simp only [ev1, h.1, ev1_z v r h.2, Int.mul_zero, Int.add_zero]
theorem ev2_z (u v : Int) : ∀ p, isZ p = true → ev2 u v p = 0
  | [], _ => rfl
  | c :: r, h => by
    simp only [isZ, List.all_cons, Bool.and_eq_true] at h
    simp only [ev2, ev1_z v c h.1, ev2_z u v r h.2, Int.mul_zero, Int.add_zero]
noncomputable def opsZ : Ops Int := ⟨0, 1, (· + ·), (· * ·), (· - ·)⟩
noncomputable def opsP : Ops (List (List Int)) := ⟨[], [[1]], ad2, ml2, sb2⟩
theorem homP (u v : Int) : Hom opsP opsZ (ev2 u v) := ⟨rfl, by show (1 + v * 0) + u * 0 = (1:Int); simp, ev2_ad u v, ev2_ml u v, ev2_sb u v⟩
noncomputable def sameP : List (List (List Int)) → List (List (List Int)) → Bool
  | [], [] => true
  | a :: p, b :: q => isZ (sb2 a b) && sameP p q
  | _, _ => false
theorem same_ev (u v : Int) : ∀ p q, sameP p q = true → p.map (ev2 u v) = q.map (ev2 u v)
  | [], [], _ => rfl
  | [], _ :: _, h => by cases h
  | _ :: _, [], h => by cases h
  | a :: p, b :: q, h => by
    simp only [sameP, Bool.and_eq_true] at h
    rw [List.map_cons, List.map_cons, same_ev u v p q h.2]
    have e := ev2_z u v _ h.1
    rw [ev2_sb] at e
    rw [show ev2 u v a = ev2 u v b by omega]
noncomputable def letterU : List (List Int) := [[], [1]]
noncomputable def letterV : List (List Int) := [[0, 1]]
noncomputable def good (rows bound : Nat) : Bool := sameP (foundN opsP rows bound letterU letterV rows) (askedN opsP bound letterU letterV rows)
theorem good_int {rows bound : Nat} (u v : Int) (h : good rows bound = true) : foundN opsZ rows bound u v rows = askedN opsZ bound u v rows := by
  have e := same_ev u v _ _ h
  rw [hom_found (homP u v), hom_asked (homP u v)] at e
  have eu : ev2 u v letterU = u := by simp [letterU, ev2, ev1]
  have ew : ev2 u v letterV = v := by simp [letterV, ev2, ev1]
  rwa [eu, ew] at e
theorem good_2_7 : good 2 7 = true := by decide +kernel
theorem good_2_8 : good 2 8 = true := by decide +kernel
theorem good_2_9 : good 2 9 = true := by decide +kernel
theorem good_2_10 : good 2 10 = true := by decide +kernel
theorem good_3_7 : good 3 7 = true := by decide +kernel
theorem good_3_8 : good 3 8 = true := by decide +kernel
theorem good_3_9 : good 3 9 = true := by decide +kernel
theorem good_3_10 : good 3 10 = true := by decide +kernel
theorem good_4_7 : good 4 7 = true := by decide +kernel
theorem good_4_8 : good 4 8 = true := by decide +kernel
theorem good_4_9 : good 4 9 = true := by decide +kernel
theorem good_4_10 : good 4 10 = true := by decide +kernel
theorem plain_law {rows bound : Nat} (u v : Int) (h2 : 2 ≤ rows) (h4 : rows ≤ 4) (h7 : 7 ≤ bound) (h10 : bound ≤ 10) : foundN opsZ rows bound u v rows = askedN opsZ bound u v rows := by
  refine good_int u v ?_
  have hr : rows = 2 ∨ rows = 3 ∨ rows = 4 := by omega
  have hb : bound = 7 ∨ bound = 8 ∨ bound = 9 ∨ bound = 10 := by omega
  rcases hr with rfl | rfl | rfl
  · rcases hb with rfl | rfl | rfl | rfl
    · exact good_2_7
    · exact good_2_8
    · exact good_2_9
    · exact good_2_10
  · rcases hb with rfl | rfl | rfl | rfl
    · exact good_3_7
    · exact good_3_8
    · exact good_3_9
    · exact good_3_10
  · rcases hb with rfl | rfl | rfl | rfl
    · exact good_4_7
    · exact good_4_8
    · exact good_4_9
    · exact good_4_10
end Mine
end
section
open PySem PySem.W PyProof.Rows
set_option maxRecDepth 100000
set_option maxHeartbeats 8000000
namespace Mine
section
local macro_rules | `(tactic| o_head $_) => `(tactic| skip)
theorem mk (h : PySem.Challenge.rw_tc0050_01.row.Holds) : PySem.Challenge.rw_tc0050_01.row.Holds := by
  x_head
  exact h
end
end Mine
end
section
open PySem PySem.W PyProof.Rows
set_option maxRecDepth 100000
set_option maxHeartbeats 8000000
namespace Mine
noncomputable def keepA (p : Addr × Obj) : Bool := !(p.1 == 174 || p.1 == 181)
theorem filt_keep {a : Addr} {o : Obj} {l r : Frag} (h : keepA (a, o) = true) (e : r = l.filter keepA) : (a, o) :: r = List.filter keepA ((a, o) :: l) := by
  rw [List.filter_cons_of_pos h, e]
theorem filt_drop {a : Addr} {o : Obj} {l r : Frag} (h : keepA (a, o) = false) (e : r = l.filter keepA) : r = List.filter keepA ((a, o) :: l) := by
  rw [List.filter_cons_of_neg (by rw [h]; exact Bool.false_ne_true), e]
noncomputable def KN (P : Params) : Frag :=
  (fun (l : Frag) (_ : l = (mk.heap_1 P).filter keepA) => l) _ (by
    delta mk.heap_1
    repeat (first | (apply filt_keep; · rfl) | (apply filt_drop; · rfl))
    exact (rfl : ([] : Frag) = List.filter keepA []))
theorem KN_eq (P : Params) : KN P = (mk.heap_1 P).filter keepA := by kernel_rfl
theorem lookup_filter {l : Frag} {a : Addr} {o : Obj} : ∀ (l : Frag), (l.filter keepA).lookup a = some o → l.lookup a = some o ∧ a ≠ 174 ∧ a ≠ 181
  | [], h => by cases h
  | (b, x) :: r, h => by
    by_cases hk : keepA (b, x) = true
    · rw [List.filter_cons_of_pos hk] at h
      rw [List.lookup_cons] at h ⊢
      cases e : a == b with
      | true =>
        rw [e] at h
        refine ⟨h, ?_⟩
        have e' : a = b := by simpa using e
        subst e'
        simp [keepA] at hk
        exact hk
      | false => rw [e] at h; exact lookup_filter (l := l) r h
    · rw [List.filter_cons_of_neg hk] at h
      obtain ⟨h1, h2⟩ := lookup_filter (l := l) r h
      refine ⟨?_, h2⟩
      rw [List.lookup_cons]
      cases e : a == b with
      | true =>
        exfalso
        have e' : a = b := by simpa using e
        subst e'
        simp [keepA] at hk
        exact absurd (hk h2.1) h2.2
      | false => exact h1
noncomputable abbrev tabs9 : List (Addr × Addr) := [(178, 174), (185, 181)]
theorem KN_ghost {P : Params} {h : Heap} (X : (mk.heap_1 P).In h) : (KN P).In (ghostOf h tabs9) := fun a o e => by
  rw [KN_eq] at e
  obtain ⟨h1, h2, h3⟩ := lookup_filter (l := []) _ e
  exact ghost_ne (X a o h1) (by simp [tabs9]; exact ⟨h2, h3⟩)
noncomputable def codeB (o : Option Obj) (P : Addr) : Bool := match o with
  | some ⟨.type c, _, .fields vs, _⟩ => c == "code" && (match (vs[11]? : Option Value) with | some (.ref q) => q == P | _ => false) && (match vs.getD 18 .none with | .str _ _ => true | _ => false) && (match vs.getD 7 .none with | .int _ _ => true | _ => false)
     && (match vs.getD 9 .none with | .bool _ => true | _ => false) && (match vs.getD 10 .none with | .int _ _ => true | _ => false)
  | _ => false
theorem codeHd_of {K : Frag} {h : Heap} {c P : Addr} (X : K.In h) (e : codeB (K.lookup c) P = true) (hne : c ≠ P) : CodeHd h c P := by
  cases q : K.lookup c with
  | none => rw [q] at e; cases e
  | some o =>
    rw [q] at e
    have ho := X c o q
    unfold codeB at e
    split at e
    · rename_i cn d vs sl heq
      cases heq
      simp only [Bool.and_eq_true] at e
      obtain ⟨⟨⟨⟨⟨e1, e2⟩, e3⟩, e4⟩, e5⟩, e6⟩ := e
      have hc : cn = "code" := by simpa using e1
      subst hc
      split at e2
      · rename_i r hr
        have : r = P := by simpa using e2
        subst this
        split at e3
        · rename_i f tf hf
          split at e4
          · rename_i g tg hg
            split at e5
            · rename_i b hb
              split at e6
              · rename_i i ti hi
                exact ⟨_, vs, f, tf, g, tg, b, i, ti, ho, rfl, rfl, hr, by rw [Array.getD_eq_getD_getElem?, hr]; rfl, hf, hg, hb, hi, hne⟩
              · cases e6
            · cases e5
          · cases e4
        · cases e3
      · cases e2
    · cases e
theorem tab_at {K : Frag} {h : Heap} {P : Addr} (X : K.In h) (e : (match K.lookup P with | some ⟨.none, none, .fields vs, sl⟩ => vs.size == 0 && sl.size == 0 | _ => false) = true) : h.get? P = some (tabObj #[]) := by
  split at e
  · rename_i vs sl heq
    simp only [Bool.and_eq_true, beq_iff_eq] at e
    rw [X _ _ heq, Array.eq_empty_of_size_eq_zero e.1, Array.eq_empty_of_size_eq_zero e.2]
  · cases e
theorem tabs_at {P : Params} {h : Heap} (X : (mk.heap_1 P).In h) : TabsAt tabs9 h := by
  intro q hq
  rcases List.mem_cons.mp hq with rfl | hq
  · exact ⟨codeHd_of X (by kernel_rfl) (by decide), tab_at X (by kernel_rfl)⟩
  · rcases List.mem_cons.mp hq with rfl | hq
    · exact ⟨codeHd_of X (by kernel_rfl) (by decide), tab_at X (by kernel_rfl)⟩
    · cases hq
theorem KN_code1 {P : Params} {h : Heap} (X : (KN P).In h) : CodeHd h 178 174 := codeHd_of X (by kernel_rfl) (by decide)
theorem KN_code2 {P : Params} {h : Heap} (X : (KN P).In h) : CodeHd h 185 181 := codeHd_of X (by kernel_rfl) (by decide)
end Mine
end
namespace Mine
open PySem PySem.W PyProof.Rows
noncomputable def asV : List PySem.Addr := [0, 1, 2, 3, 4, 5, 6, 7, 8, 9, 10, 11, 12, 13, 14, 15, 32, 33, 34, 35, 36, 37, 38, 39, 42, 43, 44, 45, 46, 47, 48, 49, 50, 51, 52, 53, 54, 55, 63, 64, 65, 66, 67, 68, 69, 70, 71, 72, 73, 74, 75, 76, 77, 78, 79, 80, 81, 82, 83, 84, 85, 86, 87, 88, 89, 90, 91, 92, 93, 94, 95, 96, 97, 98, 99, 100, 101, 102, 103, 104, 105, 106, 107, 108, 109, 110, 111, 112, 113, 114, 115, 116, 117, 118, 119, 120, 121, 122, 123, 124, 125, 126, 127, 128, 129, 130, 133, 136, 141, 142, 143, 144, 145, 146, 147, 148, 149, 150, 151, 152, 153, 154, 155, 156, 157, 158, 159, 160, 161, 162, 163, 164, 165, 166, 167, 168, 169, 170, 171, 172, 173, 174, 175, 176, 177, 178, 179, 180, 181, 182, 183, 184, 185, 186, 187, 188, 189, 190, 191, 192, 193, 194, 195, 196, 197, 198, 199, 200, 201, 202, 203, 204, 205, 206, 207, 208, 209, 210, 211, 212, 213, 214, 220, 221, 225, 226, 227, 228, 229, 230, 231, 232, 233, 234, 235, 236, 237, 238, 239, 240, 241, 242, 243, 244, 245, 246, 247, 248, 249, 250, 251, 252]
theorem asV_eq (P : Params) : asV = (mk.heap_1 P).map (·.1) := by kernel_rfl
end Mine
open PySem PySem.W PyProof.Rows PySem.Calls PySem.Spec
set_option maxHeartbeats 8000000
namespace Mine
noncomputable abbrev accO (d : Addr) (vs : List Value) (n : Nat) : Obj := { cls := .ref 212, dict := some d, data := .seq vs.toArray n, slots := #[] }
noncomputable abbrev accD (w : World) (i : Int) (t1 t2 : Tok) : Obj := dictOf [⟨PyData.keyHash w.params "_initial_size", .str "_initial_size" t1, .int i t2⟩] 1
noncomputable abbrev tupO (vs : List Value) : Obj := { cls := .type "tuple", data := .seq vs.toArray }
/-- a part of an accumulator: where its tuple lies, the two texts and their marks -/
structure Part where
  at_ : Nat
  fws : Str
  t1 : Tok
  str : Str
  t2 : Tok
noncomputable abbrev Part.obj (q : Part) : Obj := tupO [.str q.fws q.t1, .str q.str q.t2]
noncomputable abbrev partsV (qs : List Part) : List Value := qs.map fun q => .ref q.at_
noncomputable abbrev partsN (qs : List Part) : List (Addr × Obj) := qs.map fun q => (q.at_, q.obj)
noncomputable abbrev posLen : Pos := ⟨150, 19, 150, 63⟩
theorem allLt_mem {d : Nat} {l : List (Addr × Obj)} (h : AllLt d l) : ∀ p ∈ l, @LT.lt Nat _ p.1 d := by
  induction l with
  | nil => intro p hp; cases hp
  | cons a r ih =>
    intro p hp
    rcases List.mem_cons.mp hp with e | hp
    · rw [e]; exact h.1
    · exact ih h.2 p hp
theorem ne_of_allLt {x e : Nat} {l : List (Addr × Obj)} (h : AllLt e l) (hx : e ≤ x) : ∀ p ∈ l, p.1 ≠ x := by
  intro p hp q
  have h1 := allLt_mem h p hp
  rw [q] at h1
  exact absurd (Nat.lt_of_lt_of_le h1 hx) (Nat.lt_irrefl _)

theorem over212 (p : Params) : listOver (KN p) 212 = true := by kernel_rfl
noncomputable abbrev linesV (ls : List (Str × Tok)) : List Value := ls.map fun p => .str p.1 p.2
noncomputable abbrev fmtD (w : World) (wd : Int) (l x : Addr) (u1 u2 u3 u4 u5 u6 v1 v2 v3 v4 : Tok) : Obj := dictOf [⟨PyData.keyHash w.params "_maxlen", .str "_maxlen" u1, .int wd v1⟩, ⟨PyData.keyHash w.params "_continuation_ws", .str "_continuation_ws" u2, .str " " v2⟩, ⟨PyData.keyHash w.params "_continuation_ws_len", .str "_continuation_ws_len" u3, .int 1 v3⟩, ⟨PyData.keyHash w.params "_splitchars", .str "_splitchars" u4, .str "." v4⟩, ⟨PyData.keyHash w.params "_lines", .str "_lines" u5, .ref l⟩, ⟨PyData.keyHash w.params "_current_line", .str "_current_line" u6, .ref x⟩] 6
theorem sep_cons {a x : Nat} {o : Obj} {l : List (Addr × Obj)} (h : a ≠ x) (h2 : ∀ p ∈ l, p.1 ≠ x) : ∀ p ∈ (a, o) :: l, p.1 ≠ x := by
  intro p hp
  rcases List.mem_cons.mp hp with e | hp
  · rw [e]; exact h
  · exact h2 p hp
theorem sep_nil {x : Nat} : ∀ p ∈ ([] : List (Addr × Obj)), p.1 ≠ x := fun _ h => nomatch h
theorem rot5 {h₀ h : Heap} {L : Addr} {t x d a b : Addr × Obj} {r : List (Addr × Obj)} (N : News h₀ L h (t :: x :: d :: a :: b :: r)) : News h₀ L h (x :: d :: a :: b :: t :: r) := by
  intro p hp
  simp only [List.mem_cons] at hp
  rcases hp with e | e | e | e | e | e <;> first | (subst e; apply N; simp) | exact N p (by simp [e])
theorem rot5' {h₀ h : Heap} {L : Addr} {t x d a b : Addr × Obj} {r : List (Addr × Obj)} (N : News h₀ L h (x :: d :: a :: b :: t :: r)) : News h₀ L h (t :: x :: d :: a :: b :: r) := by
  intro p hp
  simp only [List.mem_cons] at hp
  rcases hp with e | e | e | e | e | e <;> first | (subst e; apply N; simp) | exact N p (by simp [e])
theorem news_tail {h₀ h : Heap} {L : Addr} {a : Addr × Obj} {r : List (Addr × Obj)} (N : News h₀ L h (a :: r)) : News h₀ L h r := fun p hp => N p (.tail _ hp)
theorem mt4 {p a0 a1 a2 a3 : Addr × Obj} {l : List (Addr × Obj)} (h : p ∈ l) : p ∈ a0 :: a1 :: a2 :: a3 :: l := .tail _ (.tail _ (.tail _ (.tail _ ( h))))
theorem mt5 {p a0 a1 a2 a3 a4 : Addr × Obj} {l : List (Addr × Obj)} (h : p ∈ l) : p ∈ a0 :: a1 :: a2 :: a3 :: a4 :: l := .tail _ (.tail _ (.tail _ (.tail _ (.tail _ ( h)))))
theorem mt6 {p a0 a1 a2 a3 a4 a5 : Addr × Obj} {l : List (Addr × Obj)} (h : p ∈ l) : p ∈ a0 :: a1 :: a2 :: a3 :: a4 :: a5 :: l := .tail _ (.tail _ (.tail _ (.tail _ (.tail _ (.tail _ ( h))))))
theorem mt7 {p a0 a1 a2 a3 a4 a5 a6 : Addr × Obj} {l : List (Addr × Obj)} (h : p ∈ l) : p ∈ a0 :: a1 :: a2 :: a3 :: a4 :: a5 :: a6 :: l := .tail _ (.tail _ (.tail _ (.tail _ (.tail _ (.tail _ (.tail _ ( h)))))))
theorem mt8 {p a0 a1 a2 a3 a4 a5 a6 a7 : Addr × Obj} {l : List (Addr × Obj)} (h : p ∈ l) : p ∈ a0 :: a1 :: a2 :: a3 :: a4 :: a5 :: a6 :: a7 :: l := .tail _ (.tail _ (.tail _ (.tail _ (.tail _ (.tail _ (.tail _ (.tail _ ( h))))))))
theorem mt9 {p a0 a1 a2 a3 a4 a5 a6 a7 a8 : Addr × Obj} {l : List (Addr × Obj)} (h : p ∈ l) : p ∈ a0 :: a1 :: a2 :: a3 :: a4 :: a5 :: a6 :: a7 :: a8 :: l := .tail _ (.tail _ (.tail _ (.tail _ (.tail _ (.tail _ (.tail _ (.tail _ (.tail _ ( h)))))))))
theorem mt10 {p a0 a1 a2 a3 a4 a5 a6 a7 a8 a9 : Addr × Obj} {l : List (Addr × Obj)} (h : p ∈ l) : p ∈ a0 :: a1 :: a2 :: a3 :: a4 :: a5 :: a6 :: a7 :: a8 :: a9 :: l := .tail _ (.tail _ (.tail _ (.tail _ (.tail _ (.tail _ (.tail _ (.tail _ (.tail _ (.tail _ ( h))))))))))
theorem mt11 {p a0 a1 a2 a3 a4 a5 a6 a7 a8 a9 a10 : Addr × Obj} {l : List (Addr × Obj)} (h : p ∈ l) : p ∈ a0 :: a1 :: a2 :: a3 :: a4 :: a5 :: a6 :: a7 :: a8 :: a9 :: a10 :: l := .tail _ (.tail _ (.tail _ (.tail _ (.tail _ (.tail _ (.tail _ (.tail _ (.tail _ (.tail _ (.tail _ ( h)))))))))))
theorem mt12 {p a0 a1 a2 a3 a4 a5 a6 a7 a8 a9 a10 a11 : Addr × Obj} {l : List (Addr × Obj)} (h : p ∈ l) : p ∈ a0 :: a1 :: a2 :: a3 :: a4 :: a5 :: a6 :: a7 :: a8 :: a9 :: a10 :: a11 :: l := .tail _ (.tail _ (.tail _ (.tail _ (.tail _ (.tail _ (.tail _ (.tail _ (.tail _ (.tail _ (.tail _ (.tail _ ( h))))))))))))
theorem rot7 {h₀ h : Heap} {L : Addr} {x d l f fd a b : Addr × Obj} {r : List (Addr × Obj)} (N : News h₀ L h (x :: d :: l :: f :: fd :: a :: b :: r)) : News h₀ L h (x :: d :: a :: b :: l :: f :: fd :: r) := by
  intro p hp
  simp only [List.mem_cons] at hp
  rcases hp with e | e | e | e | e | e | e | e <;> first | (subst e; apply N; simp) | exact N p (by simp [e])
theorem rot8 {h₀ h : Heap} {L : Addr} {t x d l f fd a b : Addr × Obj} {r : List (Addr × Obj)} (N : News h₀ L h (t :: x :: d :: l :: f :: fd :: a :: b :: r)) : News h₀ L h (x :: d :: l :: f :: fd :: a :: b :: t :: r) := by
  intro p hp
  simp only [List.mem_cons] at hp
  rcases hp with e | e | e | e | e | e | e | e | e <;> first | (subst e; apply N; simp) | exact N p (by simp [e])
theorem with_map {P : Prop} {h₀ h : Heap} {L : Addr} {m : Str → Option Value} (F : Fr h₀ L h m) (k : ∀ m0, m0 = m → Fr h₀ L h m0 → P) : P := k m rfl F
theorem with_led {P : Prop} {h₀ h : Heap} {L : Addr} {nw : List (Addr × Obj)} (N : News h₀ L h nw) (k : ∀ n0, n0 = nw → News h₀ L h n0 → P) : P := k nw rfl N
noncomputable def Stop (P : Prop) : Prop := P
theorem Stop.mk {P : Prop} (h : Stop P) : P := h
theorem Stop.un {P : Prop} (h : P) : Stop P := h
theorem fillKN : PySem.Challenge.rw_tc0050_01 = PySem.Challenge.rw_tc0050_01 ∧ KN = KN := by
  k_fill
  exact ⟨rfl, rfl⟩
local macro_rules | `(tactic| k_all) => `(tactic| first | assumption | (rename AllLt _ _ => hA9; exact Mine.ne_of_allLt hA9 (by omega)))
local macro_rules | `(tactic| k_room) => `(tactic| ((try simp only [depth_under_make, depth_under_kw, depth_in1, depth_deeper, depth_caller, recursionLimit]); omega))
local macro_rules | `(tactic| k_inst) => `(tactic| (refine' Mine.instS ?N ?h1 ?h2; (case N => k_asm); (case h1 => k_mem); (case h2 => k_mem)))
local macro_rules | `(tactic| k_mem) => `(tactic| first | assumption | exact List.Mem.tail _ (by assumption) | exact List.Mem.tail _ (List.Mem.tail _ (by assumption)) | exact List.Mem.tail _ (List.Mem.tail _ (List.Mem.tail _ (by assumption))))
local macro_rules | `(tactic| walk_at "wpAt") => `(tactic| (dsimp only; ks_step "execs cons"; refine ks_wpAt_execs_cons ?_))
local macro_rules | `(tactic| walk_at "wpAt") => `(tactic| (ks_step "eval Call"; k_dflt (refine ks_wpAt_MethodCall ?_)))
local macro_rules | `(tactic| walk_at "wpAt") => `(tactic| (ks_step "exec Expr"; k_dflt (refine ks_wpAt_Expr_any ?_)))
local macro_rules | `(tactic| walk_at "wpAt") => `(tactic| (ks_step "exec Return"; k_dflt (refine ks_wpAt_Return_some ?_)))
local macro_rules | `(tactic| walk_at "StrBack") => `(tactic| (k_here; k_dflt (unfold PySem.W.StrBack; try dsimp only)))
local macro_rules | `(tactic| walk_at "LenBack") => `(tactic| (k_here; k_dflt (refine ⟨⟨by omega, by omega⟩, ?_⟩; try dsimp only)))
local macro_rules | `(tactic| k_mem) => `(tactic| (rename (_, tupO _) ∈ _ => hM9; first | exact Mine.mt4 hM9 | exact Mine.mt5 hM9 | exact Mine.mt6 hM9 | exact Mine.mt7 hM9 | exact Mine.mt8 hM9 | exact Mine.mt9 hM9 | exact Mine.mt10 hM9 | exact Mine.mt11 hM9 | exact Mine.mt12 hM9))
section
noncomputable def NoStop : Prop := True
local macro_rules | `(tactic| walk_at "sst") => `(tactic| (k_here; (fail_if_success (with_reducible rename Mine.NoStop => ns9)); k_dflt (refine Mine.Stop.mk ?_)))
local macro_rules
  | `(tactic| walk_at "getMethod ref") => `(tactic| walk_at "sst")
  | `(tactic| walk_at "call builtin:list.append") => `(tactic| walk_at "sst")
  | `(tactic| walk_at "getAttr ref") => `(tactic| walk_at "sst")
  | `(tactic| walk_at "setAttr ref") => `(tactic| walk_at "sst")
  | `(tactic| walk_at "call ref") => `(tactic| walk_at "sst")
  | `(tactic| walk_at "callWith ref") => `(tactic| walk_at "sst")
  | `(tactic| walk_at "subscriptTail") => `(tactic| walk_at "sst")
  | `(tactic| walk_at "setItem") => `(tactic| walk_at "sst")
  | `(tactic| walk_at "truthy ref") => `(tactic| walk_at "sst")
  | `(tactic| walk_at "call type:str") => `(tactic| walk_at "sst")
  | `(tactic| walk_at "eval Call Attribute") => `(tactic| walk_at "sst")
  | `(tactic| walk_at "call builtin:str.join") => `(tactic| walk_at "sst")
noncomputable abbrev lenElt : Expr := ((Expr.Name (Str.ofString "len") { line := 150, col := 20, endLine := 150, endCol := 23 }).Call
            [Expr.Name (Str.ofString "fws") { line := 150, col := 24, endLine := 150, endCol := 27 }] []
            { line := 150, col := 20, endLine := 150, endCol := 28 }).BinOp
        Operator.Add
        ((Expr.Name (Str.ofString "len") { line := 150, col := 31, endLine := 150, endCol := 34 }).Call
          [Expr.Name (Str.ofString "part") { line := 150, col := 35, endLine := 150, endCol := 39 }] []
          { line := 150, col := 31, endLine := 150, endCol := 40 })
        { line := 150, col := 20, endLine := 150, endCol := 40 }
noncomputable abbrev lenScope : Scope := { kind := ScopeKind.function, names := [(Str.ofString ".0", NameKind.local), (Str.ofString "fws", NameKind.local), (Str.ofString "part", NameKind.local), (Str.ofString "len", NameKind.globalImplicit)], isGenerator := true, isCoroutine := false }
section
variable {M : Model} {A : Around} {E : Value → Shared → Prop} {s : Shared} {h₀ : Heap} {C : Addr} {m mg mb : Str → Option Value} {p : Program} {loose : List Str} {mean : ExcName → Option Value} {K : Frag} {scope : Scope} {env : Env} {code : Value} {bi : Addr} {x : Str} {pos : Pos} {v : Value} {Q : Value → Shared → Prop} {cl : List (Str × Addr)}
theorem gx_L (F : Fr h₀ C s.heap m) (hv : m x = some v) (hk : scope.kind = .function) (hx : scope.names.lookup x = some .local) (hd : (x == ("__debug__" : Str)) = false) (h : Q v s) :
    wpAny M A (eval (.Name x pos) (genEnv scope cl C code bi env)) Q E s := wpAny_Name (wpAny_loadName_local (env := genEnv scope cl C code bi env) hk hx F.ns hv h) hd
theorem gx_B (hg : env.globals = mainGlobals) (F : Fr h₀ C s.heap m) (X : K.In h₀) (T : Top p loose mean mg mb h₀) (e : nsIn K mainGlobals x = some none) (hv : bootBuiltins x = some v) (hn : x ≠ "__name__")
    (hk : scope.kind = .function) (hx : scope.names.lookup x = some .globalImplicit) (hd : (x == ("__debug__" : Str)) = false) (h : Q v s) :
    wpAny M A (eval (.Name x pos) (genEnv scope cl C code builtinsNs env)) Q E s :=
  Name_function_global hk hx (loadGlobal_builtin (env := genEnv scope cl C code builtinsNs env) (show s.heap.Ns env.globals mg from hg ▸ T.g.keeps F.keep) (mg_none_of X T.g e) (T.b.keeps F.keep) ((T.builtins x hn).trans hv) h) hd
theorem gx_K (hg : env.globals = mainGlobals) (F : Fr h₀ C s.heap m) (X : K.In h₀) (T : Top p loose mean mg mb h₀) (e : nsIn K mainGlobals x = some (some v))
    (hk : scope.kind = .function) (hx : scope.names.lookup x = some .globalImplicit) (hd : (x == ("__debug__" : Str)) = false) (h : Q v s) :
    wpAny M A (eval (.Name x pos) (genEnv scope cl C code bi env)) Q E s :=
  Name_function_global hk hx (loadGlobal_global (env := genEnv scope cl C code bi env) (show s.heap.Ns env.globals mg from hg ▸ T.g.keeps F.keep) (mg_of X T.g e) h) hd
end
theorem len_elt {w : World} {A' : Around} {C' c' : Addr} {h₀ : Heap} {m₂ : Str → Option Value} {t : Shared} {fs pt : Str} {t1 t2 : Tok} {pg : Program} {loose : List Str} {mean : ExcName → Option Value} {mg mb : Str → Option Value} {E' : Value → Shared → Prop} {env : Env} (hg : env.globals = mainGlobals)
   (F : Fr h₀ C' t.heap m₂) (X : (KN w.params).In h₀) (T : Top pg loose mean mg mb h₀) (hma : m₂ "fws" = some (.str fs t1)) (hmb : m₂ "part" = some (.str pt t2)) (hf : fs.length ≤ 1000) (hp : pt.length ≤ 1000):
   wpAny (model PySem.Challenge.rw_tc0050_01.row.prog w) A' (eval lenElt (genEnv lenScope [] C' (.ref c') builtinsNs env))
     (fun y s₃ => (∃ t, y = Value.int ((fs.length + pt.length : Nat) : Int) t) ∧ Keeps t s₃) E' t := by
  have ln : ∀ (x : Str) (px pl pc : Pos) (f : Str) (tf : Tok) (s : Shared) (Q : Value → Shared → Prop), Fr h₀ C' s.heap m₂ → m₂ x = some (.str f tf) → lenScope.names.lookup x = some .local → (x == ("__debug__" : Str)) = false → f.length ≤ 1000 →
      Q (.int f.length (s.toks + 1)) { s with toks := s.toks + 1 + 1 } → wpAny (model PySem.Challenge.rw_tc0050_01.row.prog w) A' (eval (.Call (.Name "len" pl) [.Name x px] [] pc) (genEnv lenScope [] C' (.ref c') builtinsNs env)) Q E' s := by
    intro x px pl pc f tf s Q Fs hx hl hd hf hQ
    refine Call_Name1 (gx_B hg Fs X T (by k_is) (by boot_fast) (by decide) rfl rfl (by decide) ?_)
    refine Calls.callWith_builtin rfl (Calls.evalArgs_plain (Calls.spliced_cons (gx_L Fs hx rfl hl hd (Calls.spliced_nil ?_))))
    exact P.len_str (by omega) hQ
  refine wpAny_BinOp (ln _ _ _ _ fs t1 t _ F hma rfl (by decide) hf (ln _ _ _ _ pt t2 _ _ F hmb rfl (by decide) hp ?_))
  refine P.add_int ?_
  exact ⟨⟨_, by rw [Int.natCast_add]⟩, ⟨t.heap, _, rfl, fun _ _ e => e⟩⟩
noncomputable def total (qs : List Part) : Nat := (qs.map fun q => q.fws.length + q.str.length).sum
theorem total_le {qs : List Part} (hlen : ∀ q ∈ qs, q.fws.length ≤ 1000 ∧ q.str.length ≤ 1000) : total qs ≤ 2000 * qs.length := by
  induction qs with
  | nil => simp [total]
  | cons q r ih =>
    have h1 := hlen q (.head _)
    have h2 := ih fun x hx => hlen x (.tail _ hx)
    simp only [total, List.map_cons, List.sum_cons, List.length_cons] at h2 ⊢
    omega
noncomputable def valOf (qs : List Part) (j : Nat) : Int := match qs[j]? with | some q => ((q.fws.length + q.str.length : Nat) : Int) | none => 0
theorem pre_total (qs : List Part) : ∀ k, k ≤ qs.length → preSum (valOf qs) k = (total (qs.take k) : Nat)
  | 0, _ => by simp [preSum, total]
  | k + 1, h => by
    have e := List.getElem?_eq_getElem (l := qs) (i := k) (by omega)
    rw [preSum, pre_total qs k (by omega), valOf, e, List.take_add_one, e]
    simp only [total, List.map_append, List.sum_append, Option.toList, List.map_cons, List.map_nil, List.sum_cons, List.sum_nil]
    omega
theorem valOf_fit {qs : List Part} (hn : qs.length ≤ 1000) (hlen : ∀ q ∈ qs, q.fws.length ≤ 1000 ∧ q.str.length ≤ 1000) {j : Nat} (hj : j < qs.length) : InLong (valOf qs j) ∧ InLong (preSum (valOf qs) (j + 1)) := by
  have h1 := hlen _ (List.getElem_mem hj)
  have h2 := total_le (qs := qs.take (j + 1)) fun q hq => hlen q (List.mem_of_mem_take hq)
  have h3 : (qs.take (j + 1)).length ≤ 1000 := by rw [List.length_take]; omega
  have e : valOf qs j = ((qs[j].fws.length + qs[j].str.length : Nat) : Int) := by rw [valOf, List.getElem?_eq_getElem hj]
  rw [pre_total qs (j + 1) hj, e]
  unfold InLong
  refine ⟨⟨?_, ?_⟩, ?_, ?_⟩ <;> omega
theorem len_spec {w : World} {dp un : Nat} {gd : Option (List Code)} {cn : Str} {cs : Scope} {a : Addr} {ccd : Value} {cl : List (Str × Addr)} {outer : List Env} {A₀ : Around} {base h₀ : Heap} {L : Addr} {m : Str → Option Value} {s : Shared} {Q : Value → Shared → Prop} {E : Value → Shared → Prop}
   {mean : ExcName → Option Value} {mg mb : Str → Option Value} {news : List (Addr × Obj)} {pg : Program} {loose : List Str}
   (B : Below A₀ base outer h₀) (F : Fr h₀ L s.heap m) (X : (KN w.params).In h₀) (T : Top pg loose mean mg mb h₀) (hk : cs.kind = .function) (hdp : dp + 10 < 1000) (hu : un + 100 < 9900) {g : Obj → List (Addr × Obj)} {x d : Nat} {qs : List Part} {n : Nat} {u1 u2 : Tok} {ps : Array Value} (G : AllBare s.gens)
   (N : News h₀ L s.heap news) (hx : (x, accO d (partsV qs) n) ∈ news) (hd : (d, accD w 0 u1 u2) ∈ news) (U : UpdF 174 (tabObj ps) news g) (hq : ∀ q ∈ qs, (q.at_, q.obj) ∈ news) (hxg : ∀ o, (x, accO d (partsV qs) n) ∈ g o) (hdg : ∀ o, (d, accD w 0 u1 u2) ∈ g o) (hps : TabTwo posLen ps)
   (hn : qs.length ≤ 1000) (hlen : ∀ q ∈ qs, q.fws.length ≤ 1000 ∧ q.str.length ≤ 1000) 
   (hret : ∀ t' s' ps', Fr h₀ L s'.heap m → News h₀ L s'.heap (g (tabObj ps')) → TabTwo posLen ps' → AllBare s'.gens → s'.os = s.os → Q (.int (total qs : Nat) t') s') :
   wpAny (model PySem.Challenge.rw_tc0050_01.row.prog w) (ktrTop dp un gd cn cs L a ccd cl outer) (call (.ref 179) [.ref x]) Q E s := by
  w_strict (repeat' (first | ((with_reducible refine Mine.Stop.un ?_); (first | with_reducible (first | (k_here; k_dflt (refine wpAny_call ?_; (refine' code_def ?k1 ?k2 ?k3 ?k4 ?k5 ?kA ?kF ?kK ?k6 ?k7 ?k8 ?k9 ?kB ?_ ?c2 ?c3 ?c4 ?c5; (case kA => exact rfl); (case kF => exact rfl); (case kK => first | assumption | exact rfl); (case k1 => k_asm); (case k2 => k_asm); (case k3 => k_asm); (case k4 => k_asm); (case k5 => k_asm); (case k6 => k_is); (case k7 => k_is); (case k8 => k_room); (case k9 => first | exact BindsTo.of_eq rfl | exact binds_K (by k_in) rfl (by k_is) rfl rfl rfl); (case c5 => decide); (case kB => exact locs rfl); (case c2 => exact rfl); (case c3 => exact rfl); (case c4 => exact rfl); k_whole; intro g' L' h' FG' F' N' B' X' T'; (try dsimp only); (try k_lift B'); (try k_fold)))) | (k_here; k_dflt (refine' Mine.ag_own ?k1 ?k2 ?k3 ?k4 ?k5 ?k6 ?k7 ?k8 ?k9 ?k10 ?k11 ?_; (case k1 => k_asm); (case k2 => k_asm); (case k3 => k_inst); (case k4 => k_is); (case k5 => k_is); (case k6 => k_is); (case k7 => k_is); (case k8 => k_is); (case k9 => k_is); (case k10 => k_get); (case k11 => k_handed); k_whole))) | (have ns9 : Mine.NoStop := trivial; walk1; (all_goals (try clear ns9))))) | (k_unfold; (try dsimp only)) | (k_end; wrow_close) | walk1 | (dsimp only; walk1) | (leave1; walk_say "STEP leave1"; try dsimp only) | fail "no step"))
  refine' gen_acc (K := KN w.params) (P := 174) (c := 178) (C := 212) (cl := []) (items := (partsV qs).toArray) (Ts := fun j => ((qs[j]?).map Part.at_).getD 0) (vals := fun j => match qs[j]? with | some q => #[.str q.fws q.t1, .str q.str q.t2] | none => #[])
     (Fe := fun j y => ∃ q t, qs[j]? = some q ∧ y = .int ((q.fws.length + q.str.length : Nat) : Int) t) ?hh ?hroom ?F ?X ?T ?N ?G ?U hps ?CH ?code ?glob ?I ?ox ?hp ?hi ?its ?tup ?v2 ?co ?clos ?cell ?h0 ?xa ?xb ?ab ?kind ?hs ?iter ?elt ?Q
  case hh => rfl
  case hroom => k_room
  case F => k_asm
  case X => k_asm
  case T => k_asm
  case N => k_asm
  case G => k_asm
  case U => exact U
  case CH => exact KN_code1 (by k_asm)
  case code => rfl
  case glob => rfl
  case I => k_inst
  case ox => exact ⟨n, rfl⟩
  case hp => kernel_rfl
  case hi => k_is
  case its => intro j hj; simp at hj ⊢; simp [hj]
  case tup =>
    intro j hj
    have hj' : j < qs.length := by simpa using hj
    rw [List.getElem?_eq_getElem hj']
    refine ⟨_, ((by assumption : News _ _ _ _) (qs[j].at_, qs[j].obj) ?_).1, rfl, _, rfl⟩
    exact hq _ (List.getElem_mem hj')
  case v2 =>
    intro j hj
    have hj' : j < qs.length := by simpa using hj
    rw [List.getElem?_eq_getElem hj']
    exact ⟨_, _, rfl⟩
  case co => rfl
  case clos => rfl
  case cell => decide
  case h0 => rfl
  case xa => rfl
  case xb => rfl
  case ab => decide
  case kind => rfl
  case hs => intro x; rfl
  case iter => intro Q' h; w_strict (repeat' (first | ((with_reducible refine Mine.Stop.un ?_); (first | with_reducible (first | (k_here; k_dflt (refine wpAny_call ?_; (refine' code_def ?k1 ?k2 ?k3 ?k4 ?k5 ?kA ?kF ?kK ?k6 ?k7 ?k8 ?k9 ?kB ?_ ?c2 ?c3 ?c4 ?c5; (case kA => exact rfl); (case kF => exact rfl); (case kK => first | assumption | exact rfl); (case k1 => k_asm); (case k2 => k_asm); (case k3 => k_asm); (case k4 => k_asm); (case k5 => k_asm); (case k6 => k_is); (case k7 => k_is); (case k8 => k_room); (case k9 => first | exact BindsTo.of_eq rfl | exact binds_K (by k_in) rfl (by k_is) rfl rfl rfl); (case c5 => decide); (case kB => exact locs rfl); (case c2 => exact rfl); (case c3 => exact rfl); (case c4 => exact rfl); k_whole; intro g' L' h' FG' F' N' B' X' T'; (try dsimp only); (try k_lift B'); (try k_fold)))) | (k_here; k_dflt (refine' Mine.ag_own ?k1 ?k2 ?k3 ?k4 ?k5 ?k6 ?k7 ?k8 ?k9 ?k10 ?k11 ?_; (case k1 => k_asm); (case k2 => k_asm); (case k3 => k_inst); (case k4 => k_is); (case k5 => k_is); (case k6 => k_is); (case k7 => k_is); (case k8 => k_is); (case k9 => k_is); (case k10 => k_get); (case k11 => k_handed); k_whole))) | (have ns9 : Mine.NoStop := trivial; walk1; (all_goals (try clear ns9))))) | (k_unfold; (try dsimp only)) | (k_end; wrow_close) | walk1 | (dsimp only; walk1) | (leave1; walk_say "STEP leave1"; try dsimp only) | fail "no step")); exact h
  case elt =>
    intro c' C' A' E' j va vb t m₂ hj hv hA hD hU Fg hma hmb
    have hj' : j < qs.length := by simpa using hj
    obtain ⟨q, hq⟩ : ∃ q, qs[j]? = some q := ⟨_, List.getElem?_eq_getElem hj'⟩
    have hm := hlen q (List.mem_of_getElem? hq)
    rw [hq] at hv
    dsimp only at hv
    have hv' := congrArg Array.toList hv
    simp only [List.cons.injEq, and_true] at hv'
    obtain ⟨rfl, rfl⟩ := hv'
    refine wpAny_mono (len_elt (c' := c') rfl Fg (by assumption) (by assumption) hma hmb hm.1 hm.2) (fun y s₃ h => ⟨?_, h.2⟩) (fun _ _ e => e)
    obtain ⟨t, rfl⟩ := h.1
    exact ⟨q, t, hq, rfl⟩
  case Q =>
    intro a s₅ ps' kk F5 N5 hps' G5 os5 hLk hkk Gn
    try dsimp only at N5
    have hx5 := hxg (tabObj ps')
    have hd5 := hdg (tabObj ps')
    w_strict (repeat' (first | ((with_reducible refine Mine.Stop.un ?_); (first | with_reducible (first | (k_here; k_dflt (refine wpAny_call ?_; (refine' code_def ?k1 ?k2 ?k3 ?k4 ?k5 ?kA ?kF ?kK ?k6 ?k7 ?k8 ?k9 ?kB ?_ ?c2 ?c3 ?c4 ?c5; (case kA => exact rfl); (case kF => exact rfl); (case kK => first | assumption | exact rfl); (case k1 => k_asm); (case k2 => k_asm); (case k3 => k_asm); (case k4 => k_asm); (case k5 => k_asm); (case k6 => k_is); (case k7 => k_is); (case k8 => k_room); (case k9 => first | exact BindsTo.of_eq rfl | exact binds_K (by k_in) rfl (by k_is) rfl rfl rfl); (case c5 => decide); (case kB => exact locs rfl); (case c2 => exact rfl); (case c3 => exact rfl); (case c4 => exact rfl); k_whole; intro g' L' h' FG' F' N' B' X' T'; (try dsimp only); (try k_lift B'); (try k_fold)))) | (k_here; k_dflt (refine' Mine.ag_own ?k1 ?k2 ?k3 ?k4 ?k5 ?k6 ?k7 ?k8 ?k9 ?k10 ?k11 ?_; (case k1 => k_asm); (case k2 => k_asm); (case k3 => k_inst); (case k4 => k_is); (case k5 => k_is); (case k6 => k_is); (case k7 => k_is); (case k8 => k_is); (case k9 => k_is); (case k10 => k_get); (case k11 => k_handed); k_whole))) | (have ns9 : Mine.NoStop := trivial; walk1; (all_goals (try clear ns9))))) | (k_unfold; (try dsimp only)) | (k_end; wrow_close) | walk1 | (dsimp only; walk1) | (leave1; walk_say "STEP leave1"; try dsimp only) | fail "no step"))
    refine sum2_rowsK (by k_asm) ?g (Gen_toks Gn ?tk) hLk (valOf qs) ?val ?fit ?ret
    case g => exact G5
    case tk => omega
    case val =>
      rintro j v ⟨hj, q, t, hq, rfl⟩
      exact ⟨t, by rw [valOf, hq]⟩
    case fit =>
      intro j hj
      have hj' : j < qs.length := by simpa using hj
      exact valOf_fit hn hlen hj'
    case ret =>
      intro s' t' F6 G6 os6 k6
      have N6 : News _ _ s'.heap _ := fun p hp => ⟨k6 _ _ (hkk p hp) ((by assumption : News _ _ s₅.heap _) p hp).1, (N5 p hp).2⟩
      clear N5
      w_strict (repeat' (first | ((with_reducible refine Mine.Stop.un ?_); (first | with_reducible (first | (k_here; k_dflt (refine wpAny_call ?_; (refine' code_def ?k1 ?k2 ?k3 ?k4 ?k5 ?kA ?kF ?kK ?k6 ?k7 ?k8 ?k9 ?kB ?_ ?c2 ?c3 ?c4 ?c5; (case kA => exact rfl); (case kF => exact rfl); (case kK => first | assumption | exact rfl); (case k1 => k_asm); (case k2 => k_asm); (case k3 => k_asm); (case k4 => k_asm); (case k5 => k_asm); (case k6 => k_is); (case k7 => k_is); (case k8 => k_room); (case k9 => first | exact BindsTo.of_eq rfl | exact binds_K (by k_in) rfl (by k_is) rfl rfl rfl); (case c5 => decide); (case kB => exact locs rfl); (case c2 => exact rfl); (case c3 => exact rfl); (case c4 => exact rfl); k_whole; intro g' L' h' FG' F' N' B' X' T'; (try dsimp only); (try k_lift B'); (try k_fold)))) | (k_here; k_dflt (refine' Mine.ag_own ?k1 ?k2 ?k3 ?k4 ?k5 ?k6 ?k7 ?k8 ?k9 ?k10 ?k11 ?_; (case k1 => k_asm); (case k2 => k_asm); (case k3 => k_inst); (case k4 => k_is); (case k5 => k_is); (case k6 => k_is); (case k7 => k_is); (case k8 => k_is); (case k9 => k_is); (case k10 => k_get); (case k11 => k_handed); k_whole))) | (have ns9 : Mine.NoStop := trivial; walk1; (all_goals (try clear ns9))))) | (k_unfold; (try dsimp only)) | (k_end; wrow_close) | walk1 | (dsimp only; walk1) | (leave1; walk_say "STEP leave1"; try dsimp only) | fail "no step"))
      have e : (partsV qs).toArray.size = qs.length := by simp
      rw [e, pre_total _ _ (Nat.le_refl _), List.take_length]
      exact hret _ _ _ (by assumption) (by assumption) hps' G6 (os6.trans os5)
local macro_rules | `(tactic| walk_at "LenBack") => `(tactic| (k_here; k_dflt ((first | refine ⟨⟨by (have := Mine.total_le (by assumption); omega), by (have := Mine.total_le (by assumption); omega)⟩, ?_⟩); try dsimp only)))
noncomputable abbrev posStr : Pos := ⟨153, 32, 153, 85⟩
noncomputable abbrev strElt : Expr := ((Expr.Name (Str.ofString "EMPTYSTRING") { line := 153, col := 33, endLine := 153, endCol := 44 }).Attribute (Str.ofString "join") { line := 153, col := 33, endLine := 153, endCol := 49 }).Call
   [Expr.Tuple [Expr.Name (Str.ofString "fws") { line := 153, col := 51, endLine := 153, endCol := 54 }, Expr.Name (Str.ofString "part") { line := 153, col := 56, endLine := 153, endCol := 60 }] 0 { line := 153, col := 50, endLine := 153, endCol := 61 }] [] { line := 153, col := 33, endLine := 153, endCol := 62 }
noncomputable abbrev strScope : Scope := { kind := ScopeKind.function, names := [(Str.ofString ".0", NameKind.local), (Str.ofString "fws", NameKind.local), (Str.ofString "part", NameKind.local), (Str.ofString "EMPTYSTRING", NameKind.globalImplicit)], isGenerator := true, isCoroutine := false }
theorem txt_join (sep : Str) (l : List Str) : Txt.join sep l = Str.join sep l := eq_of_beq (join_plain_closes sep l)
theorem str_elt {w : World} {A' : Around} {C' c' : Addr} {h₀ : Heap} {m₂ : Str → Option Value} {t : Shared} {fs pt : Str} {t1 t2 : Tok} {pg : Program} {loose : List Str} {mean : ExcName → Option Value} {mg mb : Str → Option Value} {E' : Value → Shared → Prop} {env : Env} (hg : env.globals = mainGlobals)
   (F : Fr h₀ C' t.heap m₂) (X : (KN w.params).In h₀) (T : Top pg loose mean mg mb h₀) (hma : m₂ "fws" = some (.str fs t1)) (hmb : m₂ "part" = some (.str pt t2)) (hf : fs.length ≤ 1000) (hp : pt.length ≤ 1000):
   wpAny (model PySem.Challenge.rw_tc0050_01.row.prog w) A' (eval strElt (genEnv strScope [] C' (.ref c') builtinsNs env))
     (fun y s₃ => (∃ t, y = Value.str (Str.join "" [fs, pt]) t) ∧ Keeps t s₃) E' t := by
  refine MethodCall_ (gx_K hg F X T (by k_is) rfl rfl (by decide) ?_)
  with_reducible refine GM.of (.str _ _) (typeIs_str _ _ _) PySem.F.slot_str_join PySem.F.type_str_join GM.noRef ?_
  dsimp only
  refine Calls.callWith_builtin rfl (Calls.evalArgs_plain (Calls.spliced_cons (wpAny_Tuple_spliced (x1 := 0) (Calls.spliced_cons (gx_L F hma rfl rfl (by decide) (Calls.spliced_cons (gx_L F hmb rfl rfl (by decide) (Calls.spliced_nil ⟨by rw [sizeLine_eq]; exact Nat.le_of_ble_eq_true rfl, Calls.spliced_nil ?_⟩))))))))
  have e0 : (Str.ofString "").length = 0 := by decide
  refine join_tuple ⟨_, Heap.get?_push_size _ rfl, rfl, _, rfl⟩ (.cons _ _ (.cons _ _ .nil)) (by simp [e0]; omega) ?_
  intro t' k
  exact ⟨⟨t', by rw [txt_join]⟩, _, k, rfl, fun b o e => Heap.get?_push_of_some _ e⟩
noncomputable def textOf (qs : List Part) : Str := Str.join "" (qs.map fun q => Str.join "" [q.fws, q.str])
noncomputable def txOf (qs : List Part) (j : Nat) : Str := match qs[j]? with | some q => Str.join "" [q.fws, q.str] | none => ""
theorem tx_all (qs : List Part) : (List.range qs.length).map (txOf qs) = qs.map fun q => Str.join "" [q.fws, q.str] := by
  apply List.ext_getElem?
  intro i
  by_cases h : i < qs.length
  · simp [txOf, h]
  · simp [h]
theorem str_spec {w : World} {dp un : Nat} {gd : Option (List Code)} {cn : Str} {cs : Scope} {a : Addr} {ccd : Value} {cl : List (Str × Addr)} {outer : List Env} {A₀ : Around} {base h₀ : Heap} {L : Addr} {m : Str → Option Value} {s : Shared} {Q : Value → Shared → Prop} {E : Value → Shared → Prop}
   {mean : ExcName → Option Value} {mg mb : Str → Option Value} {news : List (Addr × Obj)} {pg : Program} {loose : List Str}
   (B : Below A₀ base outer h₀) (F : Fr h₀ L s.heap m) (X : (KN w.params).In h₀) (T : Top pg loose mean mg mb h₀) (hk : cs.kind = .function) (hdp : dp + 10 < 1000) (hu : un + 100 < 9900) {g : Obj → List (Addr × Obj)} {x d : Nat} {qs : List Part} {n : Nat} {u1 u2 : Tok} {ps : Array Value} (G : AllBare s.gens)
   (N : News h₀ L s.heap news) (hx : (x, accO d (partsV qs) n) ∈ news) (hd : (d, accD w 0 u1 u2) ∈ news) (U : UpdF 181 (tabObj ps) news g) (hq : ∀ q ∈ qs, (q.at_, q.obj) ∈ news) (hxg : ∀ o, (x, accO d (partsV qs) n) ∈ g o) (hdg : ∀ o, (d, accD w 0 u1 u2) ∈ g o) (hps : TabTwo posStr ps)
   (hn : qs.length ≤ 1000) (hlen : ∀ q ∈ qs, q.fws.length ≤ 1000 ∧ q.str.length ≤ 1000) (hok : JoinOk "" (qs.map fun q => Str.join "" [q.fws, q.str]) = true)
   
   (hret : ∀ t' s' ps', Fr h₀ L s'.heap m → News h₀ L s'.heap (g (tabObj ps')) → TabTwo posStr ps' → AllBare s'.gens → s'.os = s.os → Q (.str (textOf qs) t') s') :
   wpAny (model PySem.Challenge.rw_tc0050_01.row.prog w) (ktrTop dp un gd cn cs L a ccd cl outer) (call (.ref 186) [.ref x]) Q E s := by
  w_strict (repeat' (first | ((with_reducible refine Mine.Stop.un ?_); (first | with_reducible (first | (k_here; k_dflt (refine wpAny_call ?_; (refine' code_def ?k1 ?k2 ?k3 ?k4 ?k5 ?kA ?kF ?kK ?k6 ?k7 ?k8 ?k9 ?kB ?_ ?c2 ?c3 ?c4 ?c5; (case kA => exact rfl); (case kF => exact rfl); (case kK => first | assumption | exact rfl); (case k1 => k_asm); (case k2 => k_asm); (case k3 => k_asm); (case k4 => k_asm); (case k5 => k_asm); (case k6 => k_is); (case k7 => k_is); (case k8 => k_room); (case k9 => first | exact BindsTo.of_eq rfl | exact binds_K (by k_in) rfl (by k_is) rfl rfl rfl); (case c5 => decide); (case kB => exact locs rfl); (case c2 => exact rfl); (case c3 => exact rfl); (case c4 => exact rfl); k_whole; intro g' L' h' FG' F' N' B' X' T'; (try dsimp only); (try k_lift B'); (try k_fold))))) | (have ns9 : Mine.NoStop := trivial; walk1; (all_goals (try clear ns9))))) | (k_unfold; (try dsimp only)) | (k_end; wrow_close) | walk1 | (dsimp only; walk1) | (leave1; walk_say "STEP leave1"; try dsimp only) | fail "no step"))
  refine' gen_acc (K := KN w.params) (P := 181) (c := 185) (C := 212) (cl := []) (items := (partsV qs).toArray) (Ts := fun j => ((qs[j]?).map Part.at_).getD 0) (vals := fun j => match qs[j]? with | some q => #[.str q.fws q.t1, .str q.str q.t2] | none => #[])
     (Fe := fun j y => ∃ t, y = .str (txOf qs j) t) ?hh ?hroom ?F ?X ?T ?N ?G ?U hps ?CH ?code ?glob ?I ?ox ?hp ?hi ?its ?tup ?v2 ?co ?clos ?cell ?h0 ?xa ?xb ?ab ?kind ?hs ?iter ?elt ?Q
  case hh => rfl
  case hroom => k_room
  case F => k_asm
  case X => k_asm
  case T => k_asm
  case N => k_asm
  case G => k_asm
  case U => exact U
  case CH => exact KN_code2 (by k_asm)
  case code => rfl
  case glob => rfl
  case I => k_inst
  case ox => exact ⟨n, rfl⟩
  case hp => kernel_rfl
  case hi => k_is
  case its => intro j hj; simp at hj ⊢; simp [hj]
  case tup =>
    intro j hj
    have hj' : j < qs.length := by simpa using hj
    rw [List.getElem?_eq_getElem hj']
    refine ⟨_, ((by assumption : News _ _ _ _) (qs[j].at_, qs[j].obj) ?_).1, rfl, _, rfl⟩
    exact hq _ (List.getElem_mem hj')
  case v2 =>
    intro j hj
    have hj' : j < qs.length := by simpa using hj
    rw [List.getElem?_eq_getElem hj']
    exact ⟨_, _, rfl⟩
  case co => rfl
  case clos => rfl
  case cell => decide
  case h0 => rfl
  case xa => rfl
  case xb => rfl
  case ab => decide
  case kind => rfl
  case hs => intro x; rfl
  case iter => intro Q' h; w_strict (repeat' (first | ((with_reducible refine Mine.Stop.un ?_); (first | with_reducible (first | (k_here; k_dflt (refine wpAny_call ?_; (refine' code_def ?k1 ?k2 ?k3 ?k4 ?k5 ?kA ?kF ?kK ?k6 ?k7 ?k8 ?k9 ?kB ?_ ?c2 ?c3 ?c4 ?c5; (case kA => exact rfl); (case kF => exact rfl); (case kK => first | assumption | exact rfl); (case k1 => k_asm); (case k2 => k_asm); (case k3 => k_asm); (case k4 => k_asm); (case k5 => k_asm); (case k6 => k_is); (case k7 => k_is); (case k8 => k_room); (case k9 => first | exact BindsTo.of_eq rfl | exact binds_K (by k_in) rfl (by k_is) rfl rfl rfl); (case c5 => decide); (case kB => exact locs rfl); (case c2 => exact rfl); (case c3 => exact rfl); (case c4 => exact rfl); k_whole; intro g' L' h' FG' F' N' B' X' T'; (try dsimp only); (try k_lift B'); (try k_fold))))) | (have ns9 : Mine.NoStop := trivial; walk1; (all_goals (try clear ns9))))) | (k_unfold; (try dsimp only)) | (k_end; wrow_close) | walk1 | (dsimp only; walk1) | (leave1; walk_say "STEP leave1"; try dsimp only) | fail "no step")); exact h
  case elt =>
    intro c' C' A' E' j va vb t m₂ hj hv hA hD hU Fg hma hmb
    have hj' : j < qs.length := by simpa using hj
    obtain ⟨q, hq⟩ : ∃ q, qs[j]? = some q := ⟨_, List.getElem?_eq_getElem hj'⟩
    have hm := hlen q (List.mem_of_getElem? hq)
    rw [hq] at hv
    dsimp only at hv
    have hv' := congrArg Array.toList hv
    simp only [List.cons.injEq, and_true] at hv'
    obtain ⟨rfl, rfl⟩ := hv'
    refine wpAny_mono (str_elt (c' := c') rfl Fg (by assumption) (by assumption) hma hmb hm.1 hm.2) (fun y s₃ h => ⟨?_, h.2⟩) (fun _ _ e => e)
    obtain ⟨t, rfl⟩ := h.1
    exact ⟨t, by rw [txOf, hq]⟩
  case Q =>
    intro a s₅ ps' kk F5 N5 hps' G5 os5 hLk hkk Gn
    try dsimp only at N5
    have hx5 := hxg (tabObj ps')
    have hd5 := hdg (tabObj ps')
    w_strict (repeat' (first | ((with_reducible refine Mine.Stop.un ?_); (first | with_reducible (first | (k_here; k_dflt (refine wpAny_call ?_; (refine' code_def ?k1 ?k2 ?k3 ?k4 ?k5 ?kA ?kF ?kK ?k6 ?k7 ?k8 ?k9 ?kB ?_ ?c2 ?c3 ?c4 ?c5; (case kA => exact rfl); (case kF => exact rfl); (case kK => first | assumption | exact rfl); (case k1 => k_asm); (case k2 => k_asm); (case k3 => k_asm); (case k4 => k_asm); (case k5 => k_asm); (case k6 => k_is); (case k7 => k_is); (case k8 => k_room); (case k9 => first | exact BindsTo.of_eq rfl | exact binds_K (by k_in) rfl (by k_is) rfl rfl rfl); (case c5 => decide); (case kB => exact locs rfl); (case c2 => exact rfl); (case c3 => exact rfl); (case c4 => exact rfl); k_whole; intro g' L' h' FG' F' N' B' X' T'; (try dsimp only); (try k_lift B'); (try k_fold))))) | (have ns9 : Mine.NoStop := trivial; walk1; (all_goals (try clear ns9))))) | (k_unfold; (try dsimp only)) | (k_end; wrow_close) | walk1 | (dsimp only; walk1) | (leave1; walk_say "STEP leave1"; try dsimp only) | fail "no step"))
    have e : (partsV qs).toArray.size = qs.length := by simp
    refine join_rowsK (by k_asm) ?g (Gen_toks Gn ?tk) hLk (txOf qs) ?val ?fit ?ret ?sz
    case g => exact G5
    case tk => omega
    case val =>
      rintro j v ⟨hj, t, rfl⟩
      exact ⟨t, rfl⟩
    case fit => rw [e, tx_all]; exact hok
    case sz => rw [e, sizeLine_eq]; omega
    case ret =>
      intro s' t' F6 G6 os6 k6
      have N6 : News _ _ s'.heap _ := fun p hp => ⟨k6 _ _ (hkk p hp) ((by assumption : News _ _ s₅.heap _) p hp).1, (N5 p hp).2⟩
      clear N5
      w_strict (repeat' (first | ((with_reducible refine Mine.Stop.un ?_); (first | with_reducible (first | (k_here; k_dflt (refine wpAny_call ?_; (refine' code_def ?k1 ?k2 ?k3 ?k4 ?k5 ?kA ?kF ?kK ?k6 ?k7 ?k8 ?k9 ?kB ?_ ?c2 ?c3 ?c4 ?c5; (case kA => exact rfl); (case kF => exact rfl); (case kK => first | assumption | exact rfl); (case k1 => k_asm); (case k2 => k_asm); (case k3 => k_asm); (case k4 => k_asm); (case k5 => k_asm); (case k6 => k_is); (case k7 => k_is); (case k8 => k_room); (case k9 => first | exact BindsTo.of_eq rfl | exact binds_K (by k_in) rfl (by k_is) rfl rfl rfl); (case c5 => decide); (case kB => exact locs rfl); (case c2 => exact rfl); (case c3 => exact rfl); (case c4 => exact rfl); k_whole; intro g' L' h' FG' F' N' B' X' T'; (try dsimp only); (try k_lift B'); (try k_fold))))) | (have ns9 : Mine.NoStop := trivial; walk1; (all_goals (try clear ns9))))) | (k_unfold; (try dsimp only)) | (k_end; wrow_close) | walk1 | (dsimp only; walk1) | (leave1; walk_say "STEP leave1"; try dsimp only) | fail "no step"))
      rw [e, tx_all, txt_join]
      exact hret _ _ _ (by assumption) (by assumption) hps' G6 (os6.trans os5)
theorem push_code {w : World} {dp un : Nat} {gd : Option (List Code)} {cn : Str} {cs : Scope} {a : Addr} {ccd : Value} {cl : List (Str × Addr)} {outer : List Env} {A₀ : Around} {base h₀ : Heap} {L : Addr} {m : Str → Option Value} {s : Shared} {Q : Value → Shared → Prop} {E : Value → Shared → Prop}
   {mean : ExcName → Option Value} {mg mb : Str → Option Value} {news : List (Addr × Obj)} {pg : Program} {loose : List Str}
   (B : Below A₀ base outer h₀) (F : Fr h₀ L s.heap m) (X : (KN w.params).In h₀) (T : Top pg loose mean mg mb h₀) (hk : cs.kind = .function) (hdp : dp + 10 < 1000) (hu : un + 100 < 9900) {x d : Nat} {vs : List Value} {n : Nat} {u1 u2 : Tok} {fs pt : Str} {t1 t2 : Tok}
   (N : News h₀ L s.heap ((x, accO d vs n) :: (d, accD w 0 u1 u2) :: news)) (hz : vs.length ≤ 900) (hxd : d < x) (o1 : ∀ p ∈ news, p.1 ≠ x) (o2 : ∀ p ∈ news, p.1 ≠ d)
   (hret : ∀ T' h' tk', Fr h₀ L h' m → News h₀ L h' ((T', tupO [.str fs t1, .str pt t2]) :: (x, accO d (vs ++ [.ref T']) (n+1)) :: (d, accD w 0 u1 u2) :: news) → x < T' → d < T' → AllLt T' news → Q .none { s with heap := h', toks := tk' }) :
   codeAny (model PySem.Challenge.rw_tc0050_01.row.prog w) (ktrTop dp un gd cn cs L a ccd cl outer) (.call (.ref 156) ⟨[.ref x, .str fs t1, .str pt t2], []⟩) (fun r s' => match r with | .ok (.ret v) => Q v s' | .ok _ => False | .error e => E e s') s := by
  k_dflt cell_enter
  w_strict (repeat' (first | ((with_reducible refine Mine.Stop.un ?_); (first | with_reducible (first | (k_here; k_dflt (refine wpAny_call ?_; (refine' code_def ?k1 ?k2 ?k3 ?k4 ?k5 ?kA ?kF ?kK ?k6 ?k7 ?k8 ?k9 ?kB ?_ ?c2 ?c3 ?c4 ?c5; (case kA => exact rfl); (case kF => exact rfl); (case kK => first | assumption | exact rfl); (case k1 => k_asm); (case k2 => k_asm); (case k3 => k_asm); (case k4 => k_asm); (case k5 => k_asm); (case k6 => k_is); (case k7 => k_is); (case k8 => k_room); (case k9 => first | exact BindsTo.of_eq rfl | exact binds_K (by k_in) rfl (by k_is) rfl rfl rfl); (case c5 => decide); (case kB => exact locs rfl); (case c2 => exact rfl); (case c3 => exact rfl); (case c4 => exact rfl); k_whole; intro g' L' h' FG' F' N' B' X' T'; (try dsimp only); (try k_lift B'); (try k_fold)))) | (k_here; (with_reducible show wpAny _ _ (call (Value.builtin _) [Value.ref _, _]) _ _ _); k_dflt (refine' Mine.al_append ?k1 ?k2 ?k3 ?k4 ?k5 ?k6 ?k7 ?_; (case k1 => k_asm); (case k2 => k_asm); (case k3 => k_asm); (case k4 => k_inst); (case k5 => kernel_rfl); (case k7 => k_upd); (case k6 => (first | assumption | omega | (simp only [List.length_append, List.length_map, List.length_cons, List.length_nil]; omega))); k_whole); intro h' F' N'; (try k_sweep)) | (k_here; k_dflt (first | (refine' Mine.am_fnK ?k1 ?k2 ?k3 ?k4 ?k5 ?k6 ?k7 ?k8 ?_; (case k1 => k_asm); (case k2 => k_asm); (case k3 => k_inst); (case k4 => k_is); (case k5 => k_is); (case k6 => k_is); (case k7 => k_is); (case k8 => k_get); k_whole) | (refine' Mine.am_biK ?k1 ?k2 ?k3 ?k4 ?k5 ?k6 ?k7 ?k8 ?_; (case k1 => k_asm); (case k2 => k_asm); (case k3 => k_inst); (case k4 => k_is); (case k5 => k_is); (case k6 => k_is); (case k7 => first | exact PySem.F.type_list_append | exact PySem.F.type_list_pop); (case k8 => k_get); k_whole)))) | (have ns9 : Mine.NoStop := trivial; walk1; (all_goals (try clear ns9))))) | (k_unfold; (try dsimp only)) | (k_end; wrow_close) | walk1 | (dsimp only; walk1) | (leave1; walk_say "STEP leave1"; try dsimp only) | fail "no step"))
  exact hret _ _ _ (by assumption) (by assumption) (by omega) (by omega) (by (rename _ ∧ _ => hh); exact hh.2.2)
theorem push_spec {w : World} {dp un : Nat} {gd : Option (List Code)} {cn : Str} {cs : Scope} {a : Addr} {ccd : Value} {cl : List (Str × Addr)} {outer : List Env} {A₀ : Around} {base h₀ : Heap} {L : Addr} {m : Str → Option Value} {s : Shared} {Q : Value → Shared → Prop} {E : Value → Shared → Prop}
   {mean : ExcName → Option Value} {mg mb : Str → Option Value} {news : List (Addr × Obj)} {pg : Program} {loose : List Str}
   (B : Below A₀ base outer h₀) (F : Fr h₀ L s.heap m) (X : (KN w.params).In h₀) (T : Top pg loose mean mg mb h₀) (hk : cs.kind = .function) (hdp : dp + 10 < 1000) (hu : un + 100 < 9900) {x d : Nat} {vs : List Value} {n : Nat} {u1 u2 : Tok} {fs pt : Str} {t1 t2 : Tok}
   (N : News h₀ L s.heap ((x, accO d vs n) :: (d, accD w 0 u1 u2) :: news)) (hz : vs.length ≤ 900) (hxd : d < x) (o1 : ∀ p ∈ news, p.1 ≠ x) (o2 : ∀ p ∈ news, p.1 ≠ d)
   (hret : ∀ T' h' tk', Fr h₀ L h' m → News h₀ L h' ((T', tupO [.str fs t1, .str pt t2]) :: (x, accO d (vs ++ [.ref T']) (n+1)) :: (d, accD w 0 u1 u2) :: news) → x < T' → d < T' → AllLt T' news → Q .none { s with heap := h', toks := tk' }) :
   wpAny (model PySem.Challenge.rw_tc0050_01.row.prog w) (ktrTop dp un gd cn cs L a ccd cl outer) (call (.ref 156) [.ref x, .str fs t1, .str pt t2]) Q E s :=
  wpAny_call (push_code B F X T hk hdp hu N hz hxd o1 o2 hret)
theorem pop_from_spec {w : World} {dp un : Nat} {gd : Option (List Code)} {cn : Str} {cs : Scope} {a : Addr} {ccd : Value} {cl : List (Str × Addr)} {outer : List Env} {A₀ : Around} {base h₀ : Heap} {L : Addr} {m : Str → Option Value} {s : Shared} {Q : Value → Shared → Prop} {E : Value → Shared → Prop}
   {mean : ExcName → Option Value} {mg mb : Str → Option Value} {news : List (Addr × Obj)} {pg : Program} {loose : List Str}
   (B : Below A₀ base outer h₀) (F : Fr h₀ L s.heap m) (X : (KN w.params).In h₀) (T : Top pg loose mean mg mb h₀) (hk : cs.kind = .function) (hdp : dp + 10 < 1000) (hu : un + 100 < 9900) {x d : Nat} {v1 v2 : List Value} {n : Nat} {u1 u2 t1 : Tok}
   (N : News h₀ L s.heap ((x, accO d (v1 ++ v2) n) :: (d, accD w 0 u1 u2) :: news)) (hz : v1.length + v2.length ≤ 900) (hxd : d < x) (o1 : ∀ p ∈ news, p.1 ≠ x) (o2 : ∀ p ∈ news, p.1 ≠ d)
   (hret : ∀ h' tk' l n', Fr h₀ L h' m → News h₀ L h' ((l, listO v2 0) :: (x, accO d v1 n') :: (d, accD w 0 u1 u2) :: news) → x < l → d < l → AllLt l news → Q (.ref l) { s with heap := h', toks := tk' }) :
   wpAny (model PySem.Challenge.rw_tc0050_01.row.prog w) (ktrTop dp un gd cn cs L a ccd cl outer) (call (.ref 164) [.ref x, .int v1.length t1]) Q E s := by
  w_strict (repeat' (first | ((with_reducible refine Mine.Stop.un ?_); (first | with_reducible (first | (k_here; (with_reducible show wpAny _ _ (setItem (Value.ref _) (Value.ref _) (Value.ref _)) _ _ _); (try dsimp only); k_dflt (refine' Mine.k_setSlice ?k1 ?k2 ?k3 ?k4 ?k5 ?k6 ?k7 ?pl ?pu ?hz ?hzn ?hl ?hr ?hn ?U ?_; (case k1 => k_asm); (case k2 => k_asm); (case k3 => k_asm); (case k4 => k_inst); (case k5 => kernel_rfl); (case k6 => kernel_rfl); (case k7 => k_is); (case pl => first | exact IsPart.none | exact IsPart.int _ _); (case pu => first | exact IsPart.none | exact IsPart.int _ _); (case hl => k_mem); (case hr => first | exact Mine.set_all _ _ | exact Mine.set_from _ _); (case hz => first | assumption | omega | (simp only [List.length_append, List.length_map, List.length_cons, List.length_nil]; omega)); (case hzn => first | assumption | omega | exact Nat.le_of_ble_eq_true rfl | (simp only [List.length_append, List.length_map, List.length_cons, List.length_nil]; omega)); (case hn => exact rfl); (case U => k_upd); k_whole); intro h' F' N') | (k_here; (with_reducible show wpAny _ _ (subscriptTail _ _ (Value.ref _) (Value.ref _)) _ _ _); (try dsimp only); k_dflt (refine' Mine.k_slice ?k1 ?k2 ?k3 ?k4 ?k5 ?k6 ?k7 ?pl ?pu ?hz ?_; (case k1 => k_asm); (case k2 => k_asm); (case k3 => k_asm); (case k4 => k_inst); (case k5 => kernel_rfl); (case k6 => kernel_rfl); (case k7 => k_is); (case pl => first | exact IsPart.none | exact IsPart.int _ _); (case pu => first | exact IsPart.none | exact IsPart.int _ _); (case hz => first | assumption | omega | (simp only [List.length_append, List.length_map, List.length_cons, List.length_nil]; omega)); k_whole); intro l' h' F' N' l1; (try k_lt l1)) | (k_here; k_dflt (refine wpAny_call ?_; (refine' code_def ?k1 ?k2 ?k3 ?k4 ?k5 ?kA ?kF ?kK ?k6 ?k7 ?k8 ?k9 ?kB ?_ ?c2 ?c3 ?c4 ?c5; (case kA => exact rfl); (case kF => exact rfl); (case kK => first | assumption | exact rfl); (case k1 => k_asm); (case k2 => k_asm); (case k3 => k_asm); (case k4 => k_asm); (case k5 => k_asm); (case k6 => k_is); (case k7 => k_is); (case k8 => k_room); (case k9 => first | exact BindsTo.of_eq rfl | exact binds_K (by k_in) rfl (by k_is) rfl rfl rfl); (case c5 => decide); (case kB => exact locs rfl); (case c2 => exact rfl); (case c3 => exact rfl); (case c4 => exact rfl); k_whole; intro g' L' h' FG' F' N' B' X' T'; (try dsimp only); (try k_lift B'); (try k_fold)))) | (k_here; k_dflt (refine' Mine.as_set ?k1 ?k2 ?k3 ?k4 ?k5 ?k6 ?k7 ?k8 ?k9 ?k10 ?k11 ?k12 ?k13 ?_; (case k1 => k_asm); (case k2 => k_asm); (case k3 => k_asm); (case k4 => k_inst); (case k5 => exact rfl); (case k6 => k_is); (case k7 => exact Mine.over212 _); (case k8 => k_is); (case k9 => k_is); (case k10 => k_get); (case k11 => k_put); (case k12 => k_upd); (case k13 => exact Nat.le_of_ble_eq_true rfl); k_whole; intro h' F' N'; (try k_sweep)))) | (have ns9 : Mine.NoStop := trivial; walk1; (all_goals (try clear ns9))))) | (k_unfold; (try dsimp only)) | (k_end; wrow_close) | walk1 | (dsimp only; walk1) | (leave1; walk_say "STEP leave1"; try dsimp only) | fail "no step"))
  rw [pick_from] at *
  exact hret _ _ _ _ (by assumption) (by (refine Mine.news_sub (by assumption) ?_; repeat (first | exact Mine.subs_refl | exact Mine.subs_nil | (refine Mine.subs_cons ?_ ?_; (focus k_mem)) | refine Mine.subs_skip ?_))) (by omega) (by omega) (by (rename _ ∧ _ ∧ AllLt _ _ => hh; exact hh.2.2))
theorem reset_list_spec {w : World} {dp un : Nat} {gd : Option (List Code)} {cn : Str} {cs : Scope} {a : Addr} {ccd : Value} {cl : List (Str × Addr)} {outer : List Env} {A₀ : Around} {base h₀ : Heap} {L : Addr} {m : Str → Option Value} {s : Shared} {Q : Value → Shared → Prop} {E : Value → Shared → Prop}
   {mean : ExcName → Option Value} {mg mb : Str → Option Value} {news : List (Addr × Obj)} {pg : Program} {loose : List Str}
   (B : Below A₀ base outer h₀) (F : Fr h₀ L s.heap m) (X : (KN w.params).In h₀) (T : Top pg loose mean mg mb h₀) (hk : cs.kind = .function) (hdp : dp + 10 < 1000) (hu : un + 100 < 9900) {x d l : Nat} {vs v2 : List Value} {n k : Nat} {u1 u2 : Tok}
   (N : News h₀ L s.heap ((l, listO v2 k) :: (x, accO d vs n) :: (d, accD w 0 u1 u2) :: news)) (hz : vs.length ≤ 900) (hz2 : v2.length ≤ 900) (hxd : d < x) (hl1 : x < l) (hl2 : d < l) (o1 : ∀ p ∈ news, p.1 ≠ x) (o2 : ∀ p ∈ news, p.1 ≠ d)
   (hret : ∀ h' tk' n' u3, Fr h₀ L h' m → News h₀ L h' ((x, accO d v2 n') :: (d, accD w 0 u1 u3) :: news) → Q .none { s with heap := h', toks := tk' }) :
   wpAny (model PySem.Challenge.rw_tc0050_01.row.prog w) (ktrTop dp un gd cn cs L a ccd cl outer) (call (.ref 194) [.ref x, .ref l]) Q E s := by
  w_strict (repeat' (first | ((with_reducible refine Mine.Stop.un ?_); (first | with_reducible (first | (k_here; (with_reducible show wpAny _ _ (setItem (Value.ref _) (Value.ref _) (Value.ref _)) _ _ _); (try dsimp only); k_dflt (refine' Mine.k_setSlice ?k1 ?k2 ?k3 ?k4 ?k5 ?k6 ?k7 ?pl ?pu ?hz ?hzn ?hl ?hr ?hn ?U ?_; (case k1 => k_asm); (case k2 => k_asm); (case k3 => k_asm); (case k4 => k_inst); (case k5 => kernel_rfl); (case k6 => kernel_rfl); (case k7 => k_is); (case pl => first | exact IsPart.none | exact IsPart.int _ _); (case pu => first | exact IsPart.none | exact IsPart.int _ _); (case hl => k_mem); (case hr => first | exact Mine.set_all _ _ | exact Mine.set_from _ _); (case hz => first | assumption | omega | (simp only [List.length_append, List.length_map, List.length_cons, List.length_nil]; omega)); (case hzn => first | assumption | omega | exact Nat.le_of_ble_eq_true rfl | (simp only [List.length_append, List.length_map, List.length_cons, List.length_nil]; omega)); (case hn => exact rfl); (case U => k_upd); k_whole); intro h' F' N') | (k_here; (with_reducible show wpAny _ _ (subscriptTail _ _ (Value.ref _) (Value.ref _)) _ _ _); (try dsimp only); k_dflt (refine' Mine.k_slice ?k1 ?k2 ?k3 ?k4 ?k5 ?k6 ?k7 ?pl ?pu ?hz ?_; (case k1 => k_asm); (case k2 => k_asm); (case k3 => k_asm); (case k4 => k_inst); (case k5 => kernel_rfl); (case k6 => kernel_rfl); (case k7 => k_is); (case pl => first | exact IsPart.none | exact IsPart.int _ _); (case pu => first | exact IsPart.none | exact IsPart.int _ _); (case hz => first | assumption | omega | (simp only [List.length_append, List.length_map, List.length_cons, List.length_nil]; omega)); k_whole); intro l' h' F' N' l1; (try k_lt l1)) | (k_here; k_dflt (refine wpAny_call ?_; (refine' code_def ?k1 ?k2 ?k3 ?k4 ?k5 ?kA ?kF ?kK ?k6 ?k7 ?k8 ?k9 ?kB ?_ ?c2 ?c3 ?c4 ?c5; (case kA => exact rfl); (case kF => exact rfl); (case kK => first | assumption | exact rfl); (case k1 => k_asm); (case k2 => k_asm); (case k3 => k_asm); (case k4 => k_asm); (case k5 => k_asm); (case k6 => k_is); (case k7 => k_is); (case k8 => k_room); (case k9 => first | exact BindsTo.of_eq rfl | exact binds_K (by k_in) rfl (by k_is) rfl rfl rfl); (case c5 => decide); (case kB => exact locs rfl); (case c2 => exact rfl); (case c3 => exact rfl); (case c4 => exact rfl); k_whole; intro g' L' h' FG' F' N' B' X' T'; (try dsimp only); (try k_lift B'); (try k_fold)))) | (k_here; k_dflt (refine' Mine.as_set ?k1 ?k2 ?k3 ?k4 ?k5 ?k6 ?k7 ?k8 ?k9 ?k10 ?k11 ?k12 ?k13 ?_; (case k1 => k_asm); (case k2 => k_asm); (case k3 => k_asm); (case k4 => k_inst); (case k5 => exact rfl); (case k6 => k_is); (case k7 => exact Mine.over212 _); (case k8 => k_is); (case k9 => k_is); (case k10 => k_get); (case k11 => k_put); (case k12 => k_upd); (case k13 => exact Nat.le_of_ble_eq_true rfl); k_whole; intro h' F' N'; (try k_sweep)))) | (have ns9 : Mine.NoStop := trivial; walk1; (all_goals (try clear ns9))))) | (k_unfold; (try dsimp only)) | (k_end; wrow_close) | walk1 | (dsimp only; walk1) | (leave1; walk_say "STEP leave1"; try dsimp only) | fail "no step"))
  exact hret _ _ _ _ (by assumption) (by (refine Mine.news_sub (by assumption) ?_; repeat (first | exact Mine.subs_refl | exact Mine.subs_nil | (refine Mine.subs_cons ?_ ?_; (focus k_mem)) | refine Mine.subs_skip ?_)))
section
theorem count_spec {w : World} {dp un : Nat} {gd : Option (List Code)} {cn : Str} {cs : Scope} {a : Addr} {ccd : Value} {cl : List (Str × Addr)} {outer : List Env} {A₀ : Around} {base h₀ : Heap} {L : Addr} {m : Str → Option Value} {s : Shared} {Q : Value → Shared → Prop} {E : Value → Shared → Prop}
   {mean : ExcName → Option Value} {mg mb : Str → Option Value} {news : List (Addr × Obj)} {pg : Program} {loose : List Str}
   (B : Below A₀ base outer h₀) (F : Fr h₀ L s.heap m) (X : (KN w.params).In h₀) (T : Top pg loose mean mg mb h₀) (hk : cs.kind = .function) (hdp : dp + 10 < 1000) (hu : un + 100 < 9900) {x d : Nat} {vs : List Value} {n : Nat} {u1 u2 : Tok} {i : Int}
   (N : News h₀ L s.heap news) (hx : (x, accO d vs n) ∈ news) (hd : (d, accD w i u1 u2) ∈ news)
   (hret : ∀ h' t' tk', Fr h₀ L h' m → News h₀ L h' news → Q (.int vs.length t') { s with heap := h', toks := tk' }) :
   wpAny (model PySem.Challenge.rw_tc0050_01.row.prog w) (ktrTop dp un gd cn cs L a ccd cl outer) (call (.ref 209) [.ref x]) Q E s := by
  w_strict (repeat' (first | ((with_reducible refine Mine.Stop.un ?_); (first | with_reducible (first | (k_here; k_dflt (refine' Mine.supPop ?k1 ?k2 ?k3 ?k4 ?k5 ?k6 ?k7 ?k8 ?k9 ?kz ?ku ?_; (case k1 => k_asm); (case k2 => k_asm); (case k3 => k_asm); (case k4 => k_mem); (case k5 => k_inst); (case k6 => exact rfl); (case k7 => exact rfl); (case k8 => k_is); (case k9 => kernel_rfl); (case kz => first | assumption | omega); (case ku => k_upd); k_whole); intro h' F' N') | (k_here; k_dflt (refine' Mine.supLen ?k1 ?k2 ?k3 ?k4 ?_; (case k1 => k_asm); (case k2 => k_mem); (case k3 => exact (InstAt.at_ (by k_inst))); (case k4 => exact rfl); k_whole)) | (k_here; k_dflt (refine' Mine.callWith_B0 ?k0 ?k1 ?k2 ?_; (case k1 => k_asm); (case k2 => k_mem); (case k0 => rfl); k_whole; try dsimp only [List.nil_append, List.cons_append])) | (k_here; k_dflt (first | (refine' Mine.sb_len ?k1 ?k2 ?k3 ?k4 ?k5 ?k6 ?k7 ?k8 ?k9 ?_; (case k1 => k_asm); (case k2 => k_asm); (case k3 => k_asm); (case k4 => k_mem); (case k5 => k_inst); (case k6 => k_is); (case k7 => ks_is); (case k8 => kernel_rfl); (case k9 => decide); intro q' h' F' N' l1; (try k_lt l1)) | (refine' Mine.sb_init ?k1 ?k2 ?k3 ?k4 ?k5 ?k6 ?k7 ?k8 ?k9 ?_; (case k1 => k_asm); (case k2 => k_asm); (case k3 => k_asm); (case k4 => k_mem); (case k5 => k_inst); (case k6 => k_is); (case k7 => ks_is); (case k8 => kernel_rfl); (case k9 => decide); intro q' h' F' N' l1; (try k_lt l1)) | (refine' Mine.sb_pop ?k1 ?k2 ?k3 ?k4 ?k5 ?k6 ?k7 ?k8 ?k9 ?_; (case k1 => k_asm); (case k2 => k_asm); (case k3 => k_asm); (case k4 => k_mem); (case k5 => k_inst); (case k6 => k_is); (case k7 => ks_is); (case k8 => kernel_rfl); (case k9 => decide); intro q' h' F' N' l1; (try k_lt l1)))) | (k_here; ks_any; k_dflt (refine wpAny_call ?_; (refine' ks_code_super ?k1 ?k2 ?k3 ?k4 ?k5 ?kA ?kF ?kK ?k6 ?k7 ?k8 ?k9 ?kB ?_ ?c1 ?c2 ?c3 ?c4; (case kA => exact rfl); (case kF => exact rfl); (case kK => first | assumption | exact rfl); (case k1 => k_asm); (case k2 => k_asm); (case k3 => k_asm); (case k4 => k_asm); (case k5 => k_asm); (case k6 => k_is); (case k7 => k_is); (case k8 => k_room); (case k9 => first | exact BindsTo.of_eq rfl | exact binds_K (by k_in) rfl (by k_is) rfl rfl rfl); (case kB => exact locs rfl); (case c1 => decide); (case c2 => exact rfl); (case c3 => exact rfl); (case c4 => exact rfl); intro g' L' h' FG' F' N' B' X' T' l1; (try k_lt l1); (try dsimp only); (try k_lift B')))) | (k_here; k_dflt (first | (refine' Mine.am_fnK ?k1 ?k2 ?k3 ?k4 ?k5 ?k6 ?k7 ?k8 ?_; (case k1 => k_asm); (case k2 => k_asm); (case k3 => k_inst); (case k4 => k_is); (case k5 => k_is); (case k6 => k_is); (case k7 => k_is); (case k8 => k_get); k_whole) | (refine' Mine.am_biK ?k1 ?k2 ?k3 ?k4 ?k5 ?k6 ?k7 ?k8 ?_; (case k1 => k_asm); (case k2 => k_asm); (case k3 => k_inst); (case k4 => k_is); (case k5 => k_is); (case k6 => k_is); (case k7 => first | exact PySem.F.type_list_append | exact PySem.F.type_list_pop); (case k8 => k_get); k_whole)))) | (have ns9 : Mine.NoStop := trivial; walk1; (all_goals (try clear ns9))))) | (k_unfold; (try dsimp only)) | (k_end; wrow_close) | walk1 | (dsimp only; walk1) | (leave1; walk_say "STEP leave1"; try dsimp only) | fail "no step"))
  rw [List.size_toArray]
  exact hret _ _ _ (by assumption) (by (refine Mine.news_sub (by assumption) ?_; repeat (first | exact Mine.subs_refl | exact Mine.subs_nil | (refine Mine.subs_cons ?_ ?_; (focus k_mem)) | refine Mine.subs_skip ?_)))
local macro_rules | `(tactic| walk_at "call ref") => `(tactic| (k_here; (with_reducible show wpAny _ _ (call (Value.ref 209) _) _ _ _); k_dflt (refine' Mine.count_spec ?B ?F ?X ?T ?hk ?hdp ?hu ?N ?hx ?hd ?_; (case B => k_asm); (case F => k_asm); (case X => k_asm); (case T => k_asm); (case hk => first | assumption | exact rfl); (case hdp => ((try simp only [depth_under_make, depth_under_kw, depth_in1, depth_deeper, depth_caller, units_in1, units_deeper, Around.mark_units, units_caller]); (try dsimp only [ktrTop]); omega)); (case hu => ((try simp only [depth_under_make, depth_under_kw, depth_in1, depth_deeper, depth_caller, units_in1, units_deeper, Around.mark_units, units_caller]); (try dsimp only [ktrTop]); omega)); (case N => k_asm); (case hx => k_mem); (case hd => k_mem); intro h' t' tk' F' N')))
theorem pop_spec {w : World} {dp un : Nat} {gd : Option (List Code)} {cn : Str} {cs : Scope} {a : Addr} {ccd : Value} {cl : List (Str × Addr)} {outer : List Env} {A₀ : Around} {base h₀ : Heap} {L : Addr} {m : Str → Option Value} {s : Shared} {Q : Value → Shared → Prop} {E : Value → Shared → Prop}
   {mean : ExcName → Option Value} {mg mb : Str → Option Value} {news : List (Addr × Obj)} {pg : Program} {loose : List Str}
   (B : Below A₀ base outer h₀) (F : Fr h₀ L s.heap m) (X : (KN w.params).In h₀) (T : Top pg loose mean mg mb h₀) (hk : cs.kind = .function) (hdp : dp + 14 < 1000) (hu : un + 140 < 9900) {x d : Nat} {vs : List Value} {v : Value} {n : Nat} {u1 u2 : Tok}
   (N : News h₀ L s.heap ((x, accO d (vs ++ [v]) n) :: (d, accD w 0 u1 u2) :: news)) (hz : vs.length ≤ 900) (hxd : d < x) (o1 : ∀ p ∈ news, p.1 ≠ x) (o2 : ∀ p ∈ news, p.1 ≠ d)
   (hret : ∀ h' tk' n', Fr h₀ L h' m → News h₀ L h' ((x, accO d vs n') :: (d, accD w 0 u1 u2) :: news) → Q v { s with heap := h', toks := tk' }) :
   wpAny (model PySem.Challenge.rw_tc0050_01.row.prog w) (ktrTop dp un gd cn cs L a ccd cl outer) (call (.ref 172) [.ref x]) Q E s := by
  w_strict (repeat' (first | ((with_reducible refine Mine.Stop.un ?_); (first | with_reducible (first | (k_here; k_dflt (refine' Mine.supPop ?k1 ?k2 ?k3 ?k4 ?k5 ?k6 ?k7 ?k8 ?k9 ?kz ?ku ?_; (case k1 => k_asm); (case k2 => k_asm); (case k3 => k_asm); (case k4 => k_mem); (case k5 => k_inst); (case k6 => exact rfl); (case k7 => exact rfl); (case k8 => k_is); (case k9 => kernel_rfl); (case kz => first | assumption | omega); (case ku => k_upd); k_whole); intro h' F' N') | (k_here; k_dflt (refine' Mine.supLen ?k1 ?k2 ?k3 ?k4 ?_; (case k1 => k_asm); (case k2 => k_mem); (case k3 => exact (InstAt.at_ (by k_inst))); (case k4 => exact rfl); k_whole)) | (k_here; k_dflt (refine' Mine.callWith_B0 ?k0 ?k1 ?k2 ?_; (case k1 => k_asm); (case k2 => k_mem); (case k0 => rfl); k_whole; try dsimp only [List.nil_append, List.cons_append])) | (k_here; k_dflt (first | (refine' Mine.sb_len ?k1 ?k2 ?k3 ?k4 ?k5 ?k6 ?k7 ?k8 ?k9 ?_; (case k1 => k_asm); (case k2 => k_asm); (case k3 => k_asm); (case k4 => k_mem); (case k5 => k_inst); (case k6 => k_is); (case k7 => ks_is); (case k8 => kernel_rfl); (case k9 => decide); intro q' h' F' N' l1; (try k_lt l1)) | (refine' Mine.sb_init ?k1 ?k2 ?k3 ?k4 ?k5 ?k6 ?k7 ?k8 ?k9 ?_; (case k1 => k_asm); (case k2 => k_asm); (case k3 => k_asm); (case k4 => k_mem); (case k5 => k_inst); (case k6 => k_is); (case k7 => ks_is); (case k8 => kernel_rfl); (case k9 => decide); intro q' h' F' N' l1; (try k_lt l1)) | (refine' Mine.sb_pop ?k1 ?k2 ?k3 ?k4 ?k5 ?k6 ?k7 ?k8 ?k9 ?_; (case k1 => k_asm); (case k2 => k_asm); (case k3 => k_asm); (case k4 => k_mem); (case k5 => k_inst); (case k6 => k_is); (case k7 => ks_is); (case k8 => kernel_rfl); (case k9 => decide); intro q' h' F' N' l1; (try k_lt l1)))) | (k_here; ks_any; k_dflt (refine wpAny_call ?_; (refine' ks_code_super ?k1 ?k2 ?k3 ?k4 ?k5 ?kA ?kF ?kK ?k6 ?k7 ?k8 ?k9 ?kB ?_ ?c1 ?c2 ?c3 ?c4; (case kA => exact rfl); (case kF => exact rfl); (case kK => first | assumption | exact rfl); (case k1 => k_asm); (case k2 => k_asm); (case k3 => k_asm); (case k4 => k_asm); (case k5 => k_asm); (case k6 => k_is); (case k7 => k_is); (case k8 => k_room); (case k9 => first | exact BindsTo.of_eq rfl | exact binds_K (by k_in) rfl (by k_is) rfl rfl rfl); (case kB => exact locs rfl); (case c1 => decide); (case c2 => exact rfl); (case c3 => exact rfl); (case c4 => exact rfl); intro g' L' h' FG' F' N' B' X' T' l1; (try k_lt l1); (try dsimp only); (try k_lift B')))) | (k_here; k_dflt (first | (refine' Mine.am_fnK ?k1 ?k2 ?k3 ?k4 ?k5 ?k6 ?k7 ?k8 ?_; (case k1 => k_asm); (case k2 => k_asm); (case k3 => k_inst); (case k4 => k_is); (case k5 => k_is); (case k6 => k_is); (case k7 => k_is); (case k8 => k_get); k_whole) | (refine' Mine.am_biK ?k1 ?k2 ?k3 ?k4 ?k5 ?k6 ?k7 ?k8 ?_; (case k1 => k_asm); (case k2 => k_asm); (case k3 => k_inst); (case k4 => k_is); (case k5 => k_is); (case k6 => k_is); (case k7 => first | exact PySem.F.type_list_append | exact PySem.F.type_list_pop); (case k8 => k_get); k_whole)))) | (have ns9 : Mine.NoStop := trivial; walk1; (all_goals (try clear ns9))))) | (k_unfold; (try dsimp only)) | (k_end; wrow_close) | walk1 | (dsimp only; walk1) | (leave1; walk_say "STEP leave1"; try dsimp only) | fail "no step"))
  · exfalso
    rename ((_ : Int) = 0) => e
    simp only [List.length_append, List.length_cons, List.length_nil] at e
    omega
  · exact hret _ _ _ (by assumption) (by (refine Mine.news_sub (by assumption) ?_; repeat (first | exact Mine.subs_refl | exact Mine.subs_nil | (refine Mine.subs_cons ?_ ?_; (focus k_mem)) | refine Mine.subs_skip ?_)))
theorem pop_nil_spec {w : World} {dp un : Nat} {gd : Option (List Code)} {cn : Str} {cs : Scope} {a : Addr} {ccd : Value} {cl : List (Str × Addr)} {outer : List Env} {A₀ : Around} {base h₀ : Heap} {L : Addr} {m : Str → Option Value} {s : Shared} {Q : Value → Shared → Prop} {E : Value → Shared → Prop}
   {mean : ExcName → Option Value} {mg mb : Str → Option Value} {news : List (Addr × Obj)} {pg : Program} {loose : List Str}
   (B : Below A₀ base outer h₀) (F : Fr h₀ L s.heap m) (X : (KN w.params).In h₀) (T : Top pg loose mean mg mb h₀) (hk : cs.kind = .function) (hdp : dp + 14 < 1000) (hu : un + 140 < 9900) {x d : Nat} {n : Nat} {u1 u2 : Tok}
   (N : News h₀ L s.heap ((x, accO d [] n) :: (d, accD w 0 u1 u2) :: news)) (hxd : d < x) (o1 : ∀ p ∈ news, p.1 ≠ x) (o2 : ∀ p ∈ news, p.1 ≠ d)
   (hret : ∀ (T : Nat) t1 t2 h' tk', Fr h₀ L h' m → News h₀ L h' ((T, tupO [.str "" t1, .str "" t2]) :: (x, accO d [] n) :: (d, accD w 0 u1 u2) :: news) → x < T → d < T → AllLt T news → Q (.ref T) { s with heap := h', toks := tk' }) :
   wpAny (model PySem.Challenge.rw_tc0050_01.row.prog w) (ktrTop dp un gd cn cs L a ccd cl outer) (call (.ref 172) [.ref x]) Q E s := by
  w_strict (repeat' (first | ((with_reducible refine Mine.Stop.un ?_); (first | with_reducible (first | (k_here; k_dflt (refine' Mine.supPop ?k1 ?k2 ?k3 ?k4 ?k5 ?k6 ?k7 ?k8 ?k9 ?kz ?ku ?_; (case k1 => k_asm); (case k2 => k_asm); (case k3 => k_asm); (case k4 => k_mem); (case k5 => k_inst); (case k6 => exact rfl); (case k7 => exact rfl); (case k8 => k_is); (case k9 => kernel_rfl); (case kz => first | assumption | omega); (case ku => k_upd); k_whole); intro h' F' N') | (k_here; k_dflt (refine' Mine.supLen ?k1 ?k2 ?k3 ?k4 ?_; (case k1 => k_asm); (case k2 => k_mem); (case k3 => exact (InstAt.at_ (by k_inst))); (case k4 => exact rfl); k_whole)) | (k_here; k_dflt (refine' Mine.callWith_B0 ?k0 ?k1 ?k2 ?_; (case k1 => k_asm); (case k2 => k_mem); (case k0 => rfl); k_whole; try dsimp only [List.nil_append, List.cons_append])) | (k_here; k_dflt (first | (refine' Mine.sb_len ?k1 ?k2 ?k3 ?k4 ?k5 ?k6 ?k7 ?k8 ?k9 ?_; (case k1 => k_asm); (case k2 => k_asm); (case k3 => k_asm); (case k4 => k_mem); (case k5 => k_inst); (case k6 => k_is); (case k7 => ks_is); (case k8 => kernel_rfl); (case k9 => decide); intro q' h' F' N' l1; (try k_lt l1)) | (refine' Mine.sb_init ?k1 ?k2 ?k3 ?k4 ?k5 ?k6 ?k7 ?k8 ?k9 ?_; (case k1 => k_asm); (case k2 => k_asm); (case k3 => k_asm); (case k4 => k_mem); (case k5 => k_inst); (case k6 => k_is); (case k7 => ks_is); (case k8 => kernel_rfl); (case k9 => decide); intro q' h' F' N' l1; (try k_lt l1)) | (refine' Mine.sb_pop ?k1 ?k2 ?k3 ?k4 ?k5 ?k6 ?k7 ?k8 ?k9 ?_; (case k1 => k_asm); (case k2 => k_asm); (case k3 => k_asm); (case k4 => k_mem); (case k5 => k_inst); (case k6 => k_is); (case k7 => ks_is); (case k8 => kernel_rfl); (case k9 => decide); intro q' h' F' N' l1; (try k_lt l1)))) | (k_here; ks_any; k_dflt (refine wpAny_call ?_; (refine' ks_code_super ?k1 ?k2 ?k3 ?k4 ?k5 ?kA ?kF ?kK ?k6 ?k7 ?k8 ?k9 ?kB ?_ ?c1 ?c2 ?c3 ?c4; (case kA => exact rfl); (case kF => exact rfl); (case kK => first | assumption | exact rfl); (case k1 => k_asm); (case k2 => k_asm); (case k3 => k_asm); (case k4 => k_asm); (case k5 => k_asm); (case k6 => k_is); (case k7 => k_is); (case k8 => k_room); (case k9 => first | exact BindsTo.of_eq rfl | exact binds_K (by k_in) rfl (by k_is) rfl rfl rfl); (case kB => exact locs rfl); (case c1 => decide); (case c2 => exact rfl); (case c3 => exact rfl); (case c4 => exact rfl); intro g' L' h' FG' F' N' B' X' T' l1; (try k_lt l1); (try dsimp only); (try k_lift B')))) | (k_here; k_dflt (first | (refine' Mine.am_fnK ?k1 ?k2 ?k3 ?k4 ?k5 ?k6 ?k7 ?k8 ?_; (case k1 => k_asm); (case k2 => k_asm); (case k3 => k_inst); (case k4 => k_is); (case k5 => k_is); (case k6 => k_is); (case k7 => k_is); (case k8 => k_get); k_whole) | (refine' Mine.am_biK ?k1 ?k2 ?k3 ?k4 ?k5 ?k6 ?k7 ?k8 ?_; (case k1 => k_asm); (case k2 => k_asm); (case k3 => k_inst); (case k4 => k_is); (case k5 => k_is); (case k6 => k_is); (case k7 => first | exact PySem.F.type_list_append | exact PySem.F.type_list_pop); (case k8 => k_get); k_whole)))) | (have ns9 : Mine.NoStop := trivial; walk1; (all_goals (try clear ns9))))) | (k_unfold; (try dsimp only)) | (k_end; wrow_close) | walk1 | (dsimp only; walk1) | (leave1; walk_say "STEP leave1"; try dsimp only) | fail "no step"))
  exact hret _ _ _ _ _ (by assumption) (by (refine Mine.news_sub (by assumption) ?_; repeat (first | exact Mine.subs_refl | exact Mine.subs_nil | (refine Mine.subs_cons ?_ ?_; (focus k_mem)) | refine Mine.subs_skip ?_))) (by omega) (by omega) (by (rename _ ∧ _ ∧ AllLt _ _ => hh; exact hh.2.2))
end
theorem only_spec {w : World} {dp un : Nat} {gd : Option (List Code)} {cn : Str} {cs : Scope} {a : Addr} {ccd : Value} {cl : List (Str × Addr)} {outer : List Env} {A₀ : Around} {base h₀ : Heap} {L : Addr} {m : Str → Option Value} {s : Shared} {Q : Value → Shared → Prop} {E : Value → Shared → Prop}
   {mean : ExcName → Option Value} {mg mb : Str → Option Value} {news : List (Addr × Obj)} {pg : Program} {loose : List Str}
   (B : Below A₀ base outer h₀) (F : Fr h₀ L s.heap m) (X : (KN w.params).In h₀) (T : Top pg loose mean mg mb h₀) (hk : cs.kind = .function) (hdp : dp + 20 < 1000) (hu : un + 200 < 9900) {x d : Nat} {qs : List Part} {n : Nat} {u1 u2 : Tok} {ps1 ps2 : Array Value} (G : AllBare s.gens)
   (N : News h₀ L s.heap ((x, accO d (partsV qs) n) :: (d, accD w 0 u1 u2) :: (174, tabObj ps1) :: (181, tabObj ps2) :: news)) (hqs : ∀ q ∈ qs, (q.at_, q.obj) ∈ news) (p1 : TabTwo posLen ps1) (p2 : TabTwo posStr ps2)
   (hn : qs.length ≤ 1000) (hlen : ∀ q ∈ qs, q.fws.length ≤ 1000 ∧ q.str.length ≤ 1000) (hx : x > 181) (hd : d > 181) (o1 : ∀ p ∈ news, p.1 ≠ 174) (o2 : ∀ p ∈ news, p.1 ≠ 181)
   (hok : JoinOk "" (qs.map fun q => Str.join "" [q.fws, q.str]) = true) (hpos : 0 < total qs) (hnsp : Txt.isspace (textOf qs) = false)
   (hret : ∀ s' ps1' ps2', Fr h₀ L s'.heap m → News h₀ L s'.heap ((x, accO d (partsV qs) n) :: (d, accD w 0 u1 u2) :: (174, tabObj ps1') :: (181, tabObj ps2') :: news) → TabTwo posLen ps1' → TabTwo posStr ps2' → AllBare s'.gens → s'.os = s.os → Q (.bool false) s') :
   wpAny (model PySem.Challenge.rw_tc0050_01.row.prog w) (ktrTop dp un gd cn cs L a ccd cl outer) (call (.ref 201) [.ref x]) Q E s := by
  w_strict (repeat' (first | ((with_reducible refine Mine.Stop.un ?_); (first | with_reducible (first | (k_here; (with_reducible show wpAny _ _ (call (Value.type "str") [Value.ref _]) _ _ _); k_dflt (refine' kso_call ?k1 ?k2 ?k3 ?k4 ?k5 ?_; (case k1 => (show _ < 9900; ((try simp only [depth_under_make, depth_under_kw, depth_in1, depth_deeper, depth_caller, units_in1, units_deeper, Around.mark_units, units_caller]); (try dsimp only [ktrTop]); omega))); (case k2 => k_in); (case k3 => k_inst); (case k4 => k_is); (case k5 => k_is); k_whole)) | (k_here; (with_reducible show wpAny _ _ (call (Value.ref 186) _) _ _ _); k_dflt (refine' Mine.str_spec ?B ?F ?X ?T ?hk ?hdp ?hu ?G ?N ?hx ?hd ?U ?hq ?hxg ?hdg ?hps ?hn ?hlen ?hok ?_; (case B => k_asm); (case F => k_asm); (case X => k_asm); (case T => k_asm); (case hk => first | assumption | exact rfl); (case hdp => ((try simp only [depth_under_make, depth_under_kw, depth_in1, depth_deeper, depth_caller, units_in1, units_deeper, Around.mark_units, units_caller]); (try dsimp only [ktrTop]); omega)); (case hu => ((try simp only [depth_under_make, depth_under_kw, depth_in1, depth_deeper, depth_caller, units_in1, units_deeper, Around.mark_units, units_caller]); (try dsimp only [ktrTop]); omega)); (case G => assumption); (case N => k_asm); (case hx => k_mem); (case hd => k_mem); (case U => k_updF); (case hq => (intro q hq; (repeat (first | exact (by assumption : ∀ q ∈ _, _ ∈ _) q hq | refine List.Mem.tail _ ?_)))); (case hxg => (intro o; k_mem)); (case hdg => (intro o; k_mem)); (case hps => assumption); (case hn => assumption); (case hlen => assumption); (case hok => assumption); intro t' s' ps' F' N' hps' G' os')) | (k_here; (with_reducible show wpAny _ _ (call (Value.ref 179) _) _ _ _); k_dflt (refine' Mine.len_spec ?B ?F ?X ?T ?hk ?hdp ?hu ?G ?N ?hx ?hd ?U ?hq ?hxg ?hdg ?hps ?hn ?hlen ?_; (case B => k_asm); (case F => k_asm); (case X => k_asm); (case T => k_asm); (case hk => first | assumption | exact rfl); (case hdp => ((try simp only [depth_under_make, depth_under_kw, depth_in1, depth_deeper, depth_caller, units_in1, units_deeper, Around.mark_units, units_caller]); (try dsimp only [ktrTop]); omega)); (case hu => ((try simp only [depth_under_make, depth_under_kw, depth_in1, depth_deeper, depth_caller, units_in1, units_deeper, Around.mark_units, units_caller]); (try dsimp only [ktrTop]); omega)); (case G => assumption); (case N => k_asm); (case hx => k_mem); (case hd => k_mem); (case U => k_updF); (case hq => (intro q hq; (repeat (first | exact (by assumption : ∀ q ∈ _, _ ∈ _) q hq | refine List.Mem.tail _ ?_)))); (case hxg => (intro o; k_mem)); (case hdg => (intro o; k_mem)); (case hps => assumption); (case hn => assumption); (case hlen => assumption); intro t' s' ps' F' N' hps' G' os')) | (k_here; k_dflt (refine' Mine.truthy_L ?k1 ?k2 ?k3 ?k4 ?k5 ?k6 ?_; (case k1 => k_asm); (case k2 => k_asm); (case k3 => k_inst); (case k4 => k_is); (case k5 => k_is); (case k6 => k_is); k_whole)) | (k_here; k_dflt (refine wpAny_call ?_; (refine' code_def ?k1 ?k2 ?k3 ?k4 ?k5 ?kA ?kF ?kK ?k6 ?k7 ?k8 ?k9 ?kB ?_ ?c2 ?c3 ?c4 ?c5; (case kA => exact rfl); (case kF => exact rfl); (case kK => first | assumption | exact rfl); (case k1 => k_asm); (case k2 => k_asm); (case k3 => k_asm); (case k4 => k_asm); (case k5 => k_asm); (case k6 => k_is); (case k7 => k_is); (case k8 => k_room); (case k9 => first | exact BindsTo.of_eq rfl | exact binds_K (by k_in) rfl (by k_is) rfl rfl rfl); (case c5 => decide); (case kB => exact locs rfl); (case c2 => exact rfl); (case c3 => exact rfl); (case c4 => exact rfl); k_whole; intro g' L' h' FG' F' N' B' X' T'; (try dsimp only); (try k_lift B'); (try k_fold)))) | (k_here; k_dflt (refine' Mine.ag_own ?k1 ?k2 ?k3 ?k4 ?k5 ?k6 ?k7 ?k8 ?k9 ?k10 ?k11 ?_; (case k1 => k_asm); (case k2 => k_asm); (case k3 => k_inst); (case k4 => k_is); (case k5 => k_is); (case k6 => k_is); (case k7 => k_is); (case k8 => k_is); (case k9 => k_is); (case k10 => k_get); (case k11 => k_handed); k_whole))) | (have ns9 : Mine.NoStop := trivial; walk1; (all_goals (try clear ns9))))) | (k_unfold; (try dsimp only)) | (k_end; wrow_close) | walk1 | (dsimp only; walk1) | (leave1; walk_say "STEP leave1"; try dsimp only) | fail "no step"))
  · rw [hnsp]
    exact hret _ _ _ (by assumption) (by (refine Mine.news_sub (by assumption) ?_; repeat (first | exact Mine.subs_refl | exact Mine.subs_nil | (refine Mine.subs_cons ?_ ?_; (focus k_mem)) | refine Mine.subs_skip ?_))) (by assumption) (by assumption) (by assumption) (Eq.trans (by assumption) (by assumption))
  · exfalso
    have e0 : ((total qs : Int) != 0) = true := by simp; omega
    simp_all
noncomputable def Dots (qs : List Part) : Prop := ∀ q ∈ qs, q.fws = "" ∧ q.str = "."
noncomputable def dotsS (k : Nat) : Str := ⟨Array.replicate k 46⟩
theorem dot_cps : ("." : Str) = ⟨#[46]⟩ := by decide
theorem nil_cps : ("" : Str) = ⟨#[]⟩ := by decide
theorem dots_snoc {rs : List Part} {q : Part} (h : Dots rs) (e : q.fws = "" ∧ q.str = ".") : Dots (rs ++ [q]) := by
  intro p hp
  rcases List.mem_append.mp hp with h1 | h1
  · exact h p h1
  · rw [List.mem_singleton.mp h1]; exact e
theorem total_dots : ∀ {qs : List Part}, Dots qs → total qs = qs.length
  | [], _ => rfl
  | q :: r, h => by
    have e := total_dots (qs := r) fun x hx => h x (.tail _ hx)
    obtain ⟨e1, e2⟩ := h q (.head _)
    simp only [total, List.map_cons, List.sum_cons, List.length_cons] at e ⊢
    rw [e, e1, e2, show Str.length ("" : Str) = 0 by decide, show Str.length ("." : Str) = 1 by decide]
    omega
theorem one_dot {q : Part} (h : q.fws = "" ∧ q.str = ".") : Str.join "" [q.fws, q.str] = dotsS 1 := by
  rw [h.1, h.2]; decide
theorem join_dots : ∀ (k : Nat), Str.join "" (List.replicate k (dotsS 1)) = dotsS k
  | 0 => by decide
  | 1 => by decide
  | k + 2 => by
    have e := join_dots (k + 1)
    rw [List.replicate_succ, List.replicate_succ]
    rw [List.replicate_succ] at e
    show dotsS 1 ++ "" ++ Str.join "" (dotsS 1 :: List.replicate k (dotsS 1)) = _
    rw [e, nil_cps]
    show (⟨(dotsS 1).cps ++ #[] ++ (dotsS (k+1)).cps⟩ : Str) = ⟨_⟩
    congr 1
    simp only [dotsS, Array.append_empty]
    apply Array.ext'
    simp [List.replicate_succ]
theorem map_dots {qs : List Part} (h : Dots qs) : (qs.map fun q => Str.join "" [q.fws, q.str]) = List.replicate qs.length (dotsS 1) := by
  rw [List.eq_replicate_iff]
  refine ⟨by simp, ?_⟩
  intro b hb
  obtain ⟨q, hq, rfl⟩ := List.mem_map.mp hb
  exact one_dot (h q hq)
theorem text_dots {qs : List Part} (h : Dots qs) : textOf qs = dotsS qs.length := by
  rw [textOf, map_dots h, join_dots]
theorem len_dots {qs : List Part} (h : Dots qs) : ∀ q ∈ qs, q.fws.length ≤ 1000 ∧ q.str.length ≤ 1000 := by
  intro q hq
  obtain ⟨e1, e2⟩ := h q hq
  rw [e1, e2]
  decide
theorem ok_foldl (sep : Str) : ∀ (l : List Str) (a b : Nat), (∀ x ∈ l, x.length ≤ b) → l.foldl (fun (n : Nat) (x : Str) => n + x.length + sep.length) a ≤ a + l.length * (b + sep.length)
  | [], _, _, _ => by simp
  | x :: r, a, b, h => by
    have h1 := ok_foldl sep r (a + x.length + sep.length) b fun y hy => h y (.tail _ hy)
    have h2 := h x (.head _)
    simp only [List.foldl_cons, List.length_cons, Nat.add_mul, Nat.one_mul] at *
    omega
theorem joinOk_of {sep : Str} {l : List Str} {b : Nat} (h : ∀ x ∈ l, x.length ≤ b) (hl : l.length * (b + sep.length) ≤ 1000000) : JoinOk sep l = true := by
  have h1 := ok_foldl sep l 0 b h
  unfold JoinOk Builtin.Str.tooLong
  rw [List.foldl_toArray]
  simp only [Bool.not_eq_true', decide_eq_false_iff_not]
  have h2 : 1000000 < sizeLine + 1 := by rw [sizeLine_eq]; omega
  first | omega | (intro h3; omega)
theorem ok_dots {qs : List Part} (h : Dots qs) (hn : qs.length ≤ 1000) : JoinOk "" (qs.map fun q => Str.join "" [q.fws, q.str]) = true := by
  rw [map_dots h]
  refine joinOk_of (b := 1) (fun x hx => ?_) ?_
  · rw [(List.mem_replicate.mp hx).2]; decide
  · rw [List.length_replicate, show Str.length ("" : Str) = 0 by decide]; omega
theorem nsp_dots (k : Nat) : Txt.isspace (dotsS (k + 1)) = false := by
  unfold Txt.isspace dotsS
  simp only [Str.length, Array.all_replicate, Bool.and_eq_false_imp]
  intro _
  have : Unicode.isSpace 46 = false := by decide +kernel
  simp [this]
theorem dotsS_length (k : Nat) : (dotsS k).length = k := by simp [dotsS, Str.length]
theorem partsV_snoc (qs : List Part) (q : Part) : partsV qs ++ [.ref q.at_] = partsV (qs ++ [q]) := by simp [partsV]
theorem all_snoc {news : List (Addr × Obj)} {rs : List Part} {q : Part} (h : ∀ p ∈ rs, (p.at_, p.obj) ∈ news) (e : (q.at_, q.obj) ∈ news) : ∀ p ∈ rs ++ [q], (p.at_, p.obj) ∈ news := by
  intro p hp
  rcases List.mem_append.mp hp with h1 | h1
  · exact h p h1
  · rw [List.mem_singleton.mp h1]; exact e
theorem len_snoc {w : World} {dp un : Nat} {gd : Option (List Code)} {cn : Str} {cs : Scope} {a : Addr} {ccd : Value} {cl : List (Str × Addr)} {outer : List Env} {A₀ : Around} {base h₀ : Heap} {L : Addr} {m : Str → Option Value} {s : Shared} {Q : Value → Shared → Prop} {E : Value → Shared → Prop}
   {mean : ExcName → Option Value} {mg mb : Str → Option Value} {news : List (Addr × Obj)} {pg : Program} {loose : List Str}
   (B : Below A₀ base outer h₀) (F : Fr h₀ L s.heap m) (X : (KN w.params).In h₀) (T : Top pg loose mean mg mb h₀) (hk : cs.kind = .function) (hdp : dp + 10 < 1000) (hu : un + 100 < 9900) {g : Obj → List (Addr × Obj)} {x d T₁ : Nat} {rs : List Part} {n : Nat} {u1 u2 y1 y2 : Tok} {ps : Array Value} (G : AllBare s.gens)
   (N : News h₀ L s.heap news) (hx : (x, accO d (partsV rs ++ [.ref T₁]) n) ∈ news) (hd : (d, accD w 0 u1 u2) ∈ news) (U : UpdF 174 (tabObj ps) news g) (hq : ∀ q ∈ rs, (q.at_, q.obj) ∈ news) (hT : (T₁, tupO [.str "" y1, .str "." y2]) ∈ news) (hxg : ∀ o, (x, accO d (partsV rs ++ [.ref T₁]) n) ∈ g o) (hdg : ∀ o, (d, accD w 0 u1 u2) ∈ g o) (hps : TabTwo posLen ps)
   (hn : rs.length ≤ 900) (hdot : Dots rs)
   (hret : ∀ t' s' ps', Fr h₀ L s'.heap m → News h₀ L s'.heap (g (tabObj ps')) → TabTwo posLen ps' → AllBare s'.gens → s'.os = s.os → Q (.int (rs.length + 1 : Nat) t') s') :
   wpAny (model PySem.Challenge.rw_tc0050_01.row.prog w) (ktrTop dp un gd cn cs L a ccd cl outer) (call (.ref 179) [.ref x]) Q E s := by
  have hD := dots_snoc (q := ⟨T₁, "", y1, ".", y2⟩) hdot ⟨rfl, rfl⟩
  have e := partsV_snoc rs ⟨T₁, "", y1, ".", y2⟩
  dsimp only at e
  rw [e] at hx
  simp only [e] at hxg
  refine len_spec B F X T hk hdp hu G N hx hd U (all_snoc hq hT) hxg hdg hps (by simp; omega) (len_dots hD) ?_
  intro t' s' ps' a1 a2 a3 a4 a5
  rw [total_dots hD, List.length_append]
  exact hret t' s' ps' a1 a2 a3 a4 a5
theorem str_snoc {w : World} {dp un : Nat} {gd : Option (List Code)} {cn : Str} {cs : Scope} {a : Addr} {ccd : Value} {cl : List (Str × Addr)} {outer : List Env} {A₀ : Around} {base h₀ : Heap} {L : Addr} {m : Str → Option Value} {s : Shared} {Q : Value → Shared → Prop} {E : Value → Shared → Prop}
   {mean : ExcName → Option Value} {mg mb : Str → Option Value} {news : List (Addr × Obj)} {pg : Program} {loose : List Str}
   (B : Below A₀ base outer h₀) (F : Fr h₀ L s.heap m) (X : (KN w.params).In h₀) (T : Top pg loose mean mg mb h₀) (hk : cs.kind = .function) (hdp : dp + 10 < 1000) (hu : un + 100 < 9900) {g : Obj → List (Addr × Obj)} {x d T₁ : Nat} {rs : List Part} {n : Nat} {u1 u2 y1 y2 : Tok} {ps : Array Value} (G : AllBare s.gens)
   (N : News h₀ L s.heap news) (hx : (x, accO d (partsV rs ++ [.ref T₁]) n) ∈ news) (hd : (d, accD w 0 u1 u2) ∈ news) (U : UpdF 181 (tabObj ps) news g) (hq : ∀ q ∈ rs, (q.at_, q.obj) ∈ news) (hT : (T₁, tupO [.str "" y1, .str "." y2]) ∈ news) (hxg : ∀ o, (x, accO d (partsV rs ++ [.ref T₁]) n) ∈ g o) (hdg : ∀ o, (d, accD w 0 u1 u2) ∈ g o) (hps : TabTwo posStr ps)
   (hn : rs.length ≤ 900) (hdot : Dots rs)
   (hret : ∀ t' s' ps', Fr h₀ L s'.heap m → News h₀ L s'.heap (g (tabObj ps')) → TabTwo posStr ps' → AllBare s'.gens → s'.os = s.os → Q (.str (dotsS (rs.length + 1)) t') s') :
   wpAny (model PySem.Challenge.rw_tc0050_01.row.prog w) (ktrTop dp un gd cn cs L a ccd cl outer) (call (.ref 186) [.ref x]) Q E s := by
  have hD := dots_snoc (q := ⟨T₁, "", y1, ".", y2⟩) hdot ⟨rfl, rfl⟩
  have e := partsV_snoc rs ⟨T₁, "", y1, ".", y2⟩
  dsimp only at e
  rw [e] at hx
  simp only [e] at hxg
  refine str_spec B F X T hk hdp hu G N hx hd U (all_snoc hq hT) hxg hdg hps (by simp; omega) (len_dots hD) (ok_dots hD (by simp; omega)) ?_
  intro t' s' ps' a1 a2 a3 a4 a5
  rw [text_dots hD, List.length_append]
  exact hret t' s' ps' a1 a2 a3 a4 a5
theorem str_dots {w : World} {dp un : Nat} {gd : Option (List Code)} {cn : Str} {cs : Scope} {a : Addr} {ccd : Value} {cl : List (Str × Addr)} {outer : List Env} {A₀ : Around} {base h₀ : Heap} {L : Addr} {m : Str → Option Value} {s : Shared} {Q : Value → Shared → Prop} {E : Value → Shared → Prop}
   {mean : ExcName → Option Value} {mg mb : Str → Option Value} {news : List (Addr × Obj)} {pg : Program} {loose : List Str}
   (B : Below A₀ base outer h₀) (F : Fr h₀ L s.heap m) (X : (KN w.params).In h₀) (T : Top pg loose mean mg mb h₀) (hk : cs.kind = .function) (hdp : dp + 10 < 1000) (hu : un + 100 < 9900) {g : Obj → List (Addr × Obj)} {x d : Nat} {rs : List Part} {n : Nat} {u1 u2 : Tok} {ps : Array Value} (G : AllBare s.gens)
   (N : News h₀ L s.heap news) (hx : (x, accO d (partsV rs) n) ∈ news) (hd : (d, accD w 0 u1 u2) ∈ news) (U : UpdF 181 (tabObj ps) news g) (hq : ∀ q ∈ rs, (q.at_, q.obj) ∈ news) (hxg : ∀ o, (x, accO d (partsV rs) n) ∈ g o) (hdg : ∀ o, (d, accD w 0 u1 u2) ∈ g o) (hps : TabTwo posStr ps)
   (hn : rs.length ≤ 900) (hdot : Dots rs)
   (hret : ∀ t' s' ps', Fr h₀ L s'.heap m → News h₀ L s'.heap (g (tabObj ps')) → TabTwo posStr ps' → AllBare s'.gens → s'.os = s.os → Q (.str (dotsS rs.length) t') s') :
   wpAny (model PySem.Challenge.rw_tc0050_01.row.prog w) (ktrTop dp un gd cn cs L a ccd cl outer) (call (.ref 186) [.ref x]) Q E s := by
  refine str_spec B F X T hk hdp hu G N hx hd U hq hxg hdg hps (by omega) (len_dots hdot) (ok_dots hdot (by omega)) ?_
  intro t' s' ps' a1 a2 a3 a4 a5
  rw [text_dots hdot]
  exact hret t' s' ps' a1 a2 a3 a4 a5
theorem only_snoc {w : World} {dp un : Nat} {gd : Option (List Code)} {cn : Str} {cs : Scope} {a : Addr} {ccd : Value} {cl : List (Str × Addr)} {outer : List Env} {A₀ : Around} {base h₀ : Heap} {L : Addr} {m : Str → Option Value} {s : Shared} {Q : Value → Shared → Prop} {E : Value → Shared → Prop}
   {mean : ExcName → Option Value} {mg mb : Str → Option Value} {news : List (Addr × Obj)} {pg : Program} {loose : List Str}
   (B : Below A₀ base outer h₀) (F : Fr h₀ L s.heap m) (X : (KN w.params).In h₀) (T : Top pg loose mean mg mb h₀) (hk : cs.kind = .function) (hdp : dp + 20 < 1000) (hu : un + 200 < 9900) {x d T₁ : Nat} {rs : List Part} {n : Nat} {u1 u2 y1 y2 : Tok} {ps1 ps2 : Array Value} (G : AllBare s.gens)
   (N : News h₀ L s.heap ((x, accO d (partsV rs ++ [.ref T₁]) n) :: (d, accD w 0 u1 u2) :: (174, tabObj ps1) :: (181, tabObj ps2) :: news)) (hqs : ∀ q ∈ rs, (q.at_, q.obj) ∈ news) (hT : (T₁, tupO [.str "" y1, .str "." y2]) ∈ news) (p1 : TabTwo posLen ps1) (p2 : TabTwo posStr ps2)
   (hn : rs.length ≤ 900) (hdot : Dots rs) (hx : x > 181) (hd : d > 181) (o1 : ∀ p ∈ news, p.1 ≠ 174) (o2 : ∀ p ∈ news, p.1 ≠ 181)
   (hret : ∀ s' ps1' ps2', Fr h₀ L s'.heap m → News h₀ L s'.heap ((x, accO d (partsV rs ++ [.ref T₁]) n) :: (d, accD w 0 u1 u2) :: (174, tabObj ps1') :: (181, tabObj ps2') :: news) → TabTwo posLen ps1' → TabTwo posStr ps2' → AllBare s'.gens → s'.os = s.os → Q (.bool false) s') :
   wpAny (model PySem.Challenge.rw_tc0050_01.row.prog w) (ktrTop dp un gd cn cs L a ccd cl outer) (call (.ref 201) [.ref x]) Q E s := by
  have hD := dots_snoc (q := ⟨T₁, "", y1, ".", y2⟩) hdot ⟨rfl, rfl⟩
  have e := partsV_snoc rs ⟨T₁, "", y1, ".", y2⟩
  dsimp only at e
  rw [e] at N
  simp only [e] at hret
  refine only_spec B F X T hk hdp hu G N (all_snoc hqs hT) p1 p2 (by simp; omega) (len_dots hD) hx hd o1 o2 (ok_dots hD (by simp; omega)) (by rw [total_dots hD]; simp) (by rw [text_dots hD, List.length_append]; exact nsp_dots _) hret
theorem push_line (ls : List (Str × Tok)) (y : Str) (t : Tok) : (linesV ls).toArray.push (.str y t) = (linesV (ls ++ [(y, t)])).toArray := by simp [linesV]
theorem len_nil1 {w : World} {dp un : Nat} {gd : Option (List Code)} {cn : Str} {cs : Scope} {a : Addr} {ccd : Value} {cl : List (Str × Addr)} {outer : List Env} {A₀ : Around} {base h₀ : Heap} {L : Addr} {m : Str → Option Value} {s : Shared} {Q : Value → Shared → Prop} {E : Value → Shared → Prop}
   {mean : ExcName → Option Value} {mg mb : Str → Option Value} {news : List (Addr × Obj)} {pg : Program} {loose : List Str}
   (B : Below A₀ base outer h₀) (F : Fr h₀ L s.heap m) (X : (KN w.params).In h₀) (T : Top pg loose mean mg mb h₀) (hk : cs.kind = .function) (hdp : dp + 10 < 1000) (hu : un + 100 < 9900) {g : Obj → List (Addr × Obj)} {x d T₁ : Nat} {n : Nat} {u1 u2 y1 y2 : Tok} {ps : Array Value} (G : AllBare s.gens)
   (N : News h₀ L s.heap news) (hx : (x, accO d [.ref T₁] n) ∈ news) (hd : (d, accD w 0 u1 u2) ∈ news) (U : UpdF 174 (tabObj ps) news g) (hT : (T₁, tupO [.str "" y1, .str "" y2]) ∈ news) (hxg : ∀ o, (x, accO d [.ref T₁] n) ∈ g o) (hdg : ∀ o, (d, accD w 0 u1 u2) ∈ g o) (hps : TabTwo posLen ps)
   (hret : ∀ t' s' ps', Fr h₀ L s'.heap m → News h₀ L s'.heap (g (tabObj ps')) → TabTwo posLen ps' → AllBare s'.gens → s'.os = s.os → Q (.int (0 : Nat) t') s') :
   wpAny (model PySem.Challenge.rw_tc0050_01.row.prog w) (ktrTop dp un gd cn cs L a ccd cl outer) (call (.ref 179) [.ref x]) Q E s := by
  refine len_spec (qs := [⟨T₁, "", y1, "", y2⟩]) B F X T hk hdp hu G N hx hd U ?_ hxg hdg hps (by simp) ?_ ?_
  · intro q hq
    rw [List.mem_singleton.mp hq]; exact hT
  · intro q hq
    rw [List.mem_singleton.mp hq]; show Str.length "" ≤ 1000 ∧ Str.length "" ≤ 1000; decide
  · exact hret

theorem strsAre_lines : ∀ ls : List (Str × Tok), StrsAre (linesV ls) (ls.map (·.1))
  | [] => .nil
  | (y, t) :: r => .cons y t (strsAre_lines r)
theorem sum_lines : ∀ ls : List (Str × Tok), (∀ p ∈ ls, p.1.length ≤ 1000) → ((ls.map (·.1)).map (·.length)).sum ≤ 1000 * ls.length
  | [], _ => by simp
  | p :: r, h => by
    have e := sum_lines r fun q hq => h q (.tail _ hq)
    have e1 := h p (.head _)
    simp only [List.map_cons, List.sum_cons, List.length_cons] at e ⊢
    omega
theorem join_linesV {prog : Program} {w : World} {A : Around} {E : Value → Shared → Prop} {s : Shared} {h₀ : Heap} {L : Addr} {news : List (Addr × Obj)} {Q : Value → Shared → Prop} {x : Str} {t : Tok} {l k : Nat} {ls : List (Str × Tok)}
    (N : News h₀ L s.heap news) (hm : (l, listO (linesV ls) k) ∈ news) (hs : x.length ≤ 2) (hb : ∀ p ∈ ls, p.1.length ≤ 1000) (hl : ls.length ≤ 1000)
    (h : ∀ t' tk', Q (.str (Str.join x (ls.map (·.1))) t') { s with toks := tk' }) : wpAny (model prog w) A (call (.builtin "str.join") [.str x t, .ref l]) Q E s := by
  refine join_list (ys := ls.map (·.1)) (items := (linesV ls).toArray) ⟨_, (N _ hm).1, rfl, _, rfl⟩ (by simpa using strsAre_lines ls) ?_ ?_
  · have e := sum_lines ls hb
    have e2 : (ls.map (·.1)).length = ls.length := by simp
    have e3 : (ls.map (·.1)).length * x.length ≤ 1000 * 2 := Nat.mul_le_mul (by omega) hs
    omega
  · intro t' k
    rw [txt_join]
    exact h t' k
noncomputable def Halt (P : Prop) : Prop := P
theorem Halt.mk {P : Prop} (h : Halt P) : P := h
theorem Halt.un {P : Prop} (h : P) : Halt P := h
noncomputable def code1 : Array Nat := #[14, 4, 0, 1, 1, 6, 1, 16, 46, 1]
noncomputable def code2 : Array Nat := #[14, 9, 4, 1, 2, 16, 10, 16, 13, 0, 7, 7, 16, 13, 16, 10, 15, 18, 5, 16, 10, 15, 13, 11, 16, 13, 5, 5, 0, 16, 10, 1, 15, 2, 0, 1]
noncomputable abbrev patO (x : Str) (t : Tok) (f : Int) (u : Tok) (c : Nat) : Obj := { cls := .type "re.Pattern", data := .fields #[.str x t, .int f u, .int 0 0, .none, .none, .ref c, .int 0 0] }
theorem pat_at1 {P : Params} {h : Heap} (X : (KN P).In h) : h.get? 221 = some (patO "(?m)^\\." 715 40 728 220) := X 221 _ (by kernel_rfl)
theorem pat_at2 {P : Params} {h : Heap} (X : (KN P).In h) : h.get? 226 = some (patO "(?:\\r\\n|\\n|\\r(?!\\n))" 731 32 770 225) := X 226 _ (by kernel_rfl)
theorem pat_ok1 {P : Params} {h : Heap} (X : (KN P).In h) : PatOk h 221 code1 :=
  ⟨⟨_, _, 220, { cls := .type "tuple", data := .seq (code1.map fun n => .int (Int.ofNat n) 0) }, _, _, pat_at1 X, rfl, rfl, rfl, rfl, rfl, X 220 _ (by kernel_rfl), rfl, by decide +kernel⟩⟩
theorem pat_ok2 {P : Params} {h : Heap} (X : (KN P).In h) : PatOk h 226 code2 :=
  ⟨⟨_, _, 225, { cls := .type "tuple", data := .seq (code2.map fun n => .int (Int.ofNat n) 0) }, _, _, pat_at2 X, rfl, rfl, rfl, rfl, rfl, X 225 _ (by kernel_rfl), rfl, by decide +kernel⟩⟩
/-- quotedata of a text whose two substitutions are known -/
noncomputable def Quoted (x y : Str) : Prop := ∃ z ms1 ms2, x.cps.size ≤ 300 ∧ z.cps.size ≤ 300 ∧ subs code2 x.cps 60 0 false = some ms1 ∧ z = Str.join "" (pieces x.cps (Str.ofString "\r\n") ms1 0) ∧ subs code1 z.cps 60 0 false = some ms2 ∧ y = Str.join "" (pieces z.cps (Str.ofString "..") ms2 0)
theorem fmt_spec {w : World} {dp un : Nat} {gd : Option (List Code)} {cn : Str} {cs : Scope} {a : Addr} {ccd : Value} {cl : List (Str × Addr)} {outer : List Env} {A₀ : Around} {base h₀ : Heap} {L : Addr} {m : Str → Option Value} {s : Shared} {Q : Value → Shared → Prop} {E : Value → Shared → Prop}
   {mean : ExcName → Option Value} {mg mb : Str → Option Value} {news : List (Addr × Obj)} {pg : Program} {loose : List Str}
   (B : Below A₀ base outer h₀) (F : Fr h₀ L s.heap m) (X : (KN w.params).In h₀) (T : Top pg loose mean mg mb h₀) (hk : cs.kind = .function) (hdp : dp + 20 < 1000) (hu : un + 200 < 9900) {wd : Int} {t1 t2 t3 t4 : Tok} (N : News h₀ L s.heap news) 
   (hret : ∀ (f fd l x d : Nat) h' tk' z1 z2 u1 u2 u3 u4 u5 u6 v1 v2 v3 v4, Fr h₀ L h' m → News h₀ L h' ((x, accO d [] 0) :: (d, accD w 0 z1 z2) :: (l, listO [] 0) :: (f, instObj 128 fd) :: (fd, fmtD w wd l x u1 u2 u3 u4 u5 u6 v1 v2 v3 v4) :: news) → AllLt fd news → fd < f → f < l → l < d → d < x → Q (.ref f) { s with heap := h', toks := tk' }) :
   wpAny (model PySem.Challenge.rw_tc0050_01.row.prog w) (ktrTop dp un gd cn cs L a ccd cl outer) (call (.ref 128) [.int 0 t1, .int wd t2, .str " " t3, .str "." t4]) Q E s := by
  w_strict (repeat' (first | ((with_reducible refine Mine.Stop.un ?_); (first | with_reducible (first | (k_here; (with_reducible show wpAny _ _ (call (Value.ref 128) _) _ _ _); k_dflt (refine' call_cls ?k1 ?k2 ?k3 ?k4 ?k5 ?k6 ?_; (case k1 => k_asm); (case k2 => k_asm); (case k3 => k_asm); (case k4 => k_is); (case k5 => k_is); (case k6 => k_is); intro x' d' h' F' N' l1 l2; (first | k_lt l1 | replace l1 := allLt_of l1); (try k_lt2 l2); (refine' code_def ?k1 ?k2 ?k3 ?k4 ?k5 ?kA ?kF ?kK ?k6 ?k7 ?k8 ?k9 ?kB ?_ ?c2 ?c3 ?c4 ?c5; (case kA => exact rfl); (case kF => exact rfl); (case kK => first | assumption | exact rfl); (case k1 => k_asm); (case k2 => k_asm); (case k3 => k_asm); (case k4 => k_asm); (case k5 => k_asm); (case k6 => k_is); (case k7 => k_is); (case k8 => k_room); (case k9 => first | exact BindsTo.of_eq rfl | exact binds_K (by k_in) rfl (by k_is) rfl rfl rfl); (case c5 => decide); (case kB => exact locs rfl); (case c2 => exact rfl); (case c3 => exact rfl); (case c4 => exact rfl); k_whole; intro g' L' h' FG' F' N' B' X' T'; (try dsimp only); (try k_lift B'); (try k_fold)))) | (k_here; (with_reducible show wpAny _ _ (call (Value.ref 212) _) _ _ _); k_dflt (refine' Mine.callL_cls ?k1 ?k2 ?k3 ?k4 ?k5 ?k6 ?_; (case k1 => k_asm); (case k2 => k_asm); (case k3 => k_asm); (case k4 => kernel_rfl); (case k5 => k_is); (case k6 => k_is); intro x' d' h' F' N' l1 l2; (first | k_lt l1 | replace l1 := allLt_of l1); (try k_lt2 l2); (refine' ks_code_super ?k1 ?k2 ?k3 ?k4 ?k5 ?kA ?kF ?kK ?k6 ?k7 ?k8 ?k9 ?kB ?_ ?c1 ?c2 ?c3 ?c4; (case kA => exact rfl); (case kF => exact rfl); (case kK => first | assumption | exact rfl); (case k1 => k_asm); (case k2 => k_asm); (case k3 => k_asm); (case k4 => k_asm); (case k5 => k_asm); (case k6 => k_is); (case k7 => k_is); (case k8 => k_room); (case k9 => first | exact BindsTo.of_eq rfl | exact binds_K (by k_in) rfl (by k_is) rfl rfl rfl); (case kB => exact locs rfl); (case c1 => decide); (case c2 => exact rfl); (case c3 => exact rfl); (case c4 => exact rfl); intro g' L' h' FG' F' N' B' X' T' l1; (try k_lt l1); (try dsimp only); (try k_lift B')))) | (k_here; k_dflt (refine' Mine.supInit ?k1 ?k2 ?k3 ?k4 ?k5 ?_; (case k1 => k_asm); (case k2 => k_asm); (case k3 => k_mem); (case k4 => k_mem); (case k5 => k_upd); k_whole); intro h' F' N') | (k_here; k_dflt (refine' Mine.callWith_B0 ?k0 ?k1 ?k2 ?_; (case k1 => k_asm); (case k2 => k_mem); (case k0 => rfl); k_whole; try dsimp only [List.nil_append, List.cons_append])) | (k_here; k_dflt (first | (refine' Mine.sb_len ?k1 ?k2 ?k3 ?k4 ?k5 ?k6 ?k7 ?k8 ?k9 ?_; (case k1 => k_asm); (case k2 => k_asm); (case k3 => k_asm); (case k4 => k_mem); (case k5 => k_inst); (case k6 => k_is); (case k7 => ks_is); (case k8 => kernel_rfl); (case k9 => decide); intro q' h' F' N' l1; (try k_lt l1)) | (refine' Mine.sb_init ?k1 ?k2 ?k3 ?k4 ?k5 ?k6 ?k7 ?k8 ?k9 ?_; (case k1 => k_asm); (case k2 => k_asm); (case k3 => k_asm); (case k4 => k_mem); (case k5 => k_inst); (case k6 => k_is); (case k7 => ks_is); (case k8 => kernel_rfl); (case k9 => decide); intro q' h' F' N' l1; (try k_lt l1)) | (refine' Mine.sb_pop ?k1 ?k2 ?k3 ?k4 ?k5 ?k6 ?k7 ?k8 ?k9 ?_; (case k1 => k_asm); (case k2 => k_asm); (case k3 => k_asm); (case k4 => k_mem); (case k5 => k_inst); (case k6 => k_is); (case k7 => ks_is); (case k8 => kernel_rfl); (case k9 => decide); intro q' h' F' N' l1; (try k_lt l1)))) | (k_here; ks_any; k_dflt (refine wpAny_call ?_; (refine' ks_code_super ?k1 ?k2 ?k3 ?k4 ?k5 ?kA ?kF ?kK ?k6 ?k7 ?k8 ?k9 ?kB ?_ ?c1 ?c2 ?c3 ?c4; (case kA => exact rfl); (case kF => exact rfl); (case kK => first | assumption | exact rfl); (case k1 => k_asm); (case k2 => k_asm); (case k3 => k_asm); (case k4 => k_asm); (case k5 => k_asm); (case k6 => k_is); (case k7 => k_is); (case k8 => k_room); (case k9 => first | exact BindsTo.of_eq rfl | exact binds_K (by k_in) rfl (by k_is) rfl rfl rfl); (case kB => exact locs rfl); (case c1 => decide); (case c2 => exact rfl); (case c3 => exact rfl); (case c4 => exact rfl); intro g' L' h' FG' F' N' B' X' T' l1; (try k_lt l1); (try dsimp only); (try k_lift B')))) | (k_here; k_dflt (refine wpAny_call ?_; (refine' code_def ?k1 ?k2 ?k3 ?k4 ?k5 ?kA ?kF ?kK ?k6 ?k7 ?k8 ?k9 ?kB ?_ ?c2 ?c3 ?c4 ?c5; (case kA => exact rfl); (case kF => exact rfl); (case kK => first | assumption | exact rfl); (case k1 => k_asm); (case k2 => k_asm); (case k3 => k_asm); (case k4 => k_asm); (case k5 => k_asm); (case k6 => k_is); (case k7 => k_is); (case k8 => k_room); (case k9 => first | exact BindsTo.of_eq rfl | exact binds_K (by k_in) rfl (by k_is) rfl rfl rfl); (case c5 => decide); (case kB => exact locs rfl); (case c2 => exact rfl); (case c3 => exact rfl); (case c4 => exact rfl); k_whole; intro g' L' h' FG' F' N' B' X' T'; (try dsimp only); (try k_lift B'); (try k_fold)))) | (k_here; k_dflt (refine' Mine.as_set ?k1 ?k2 ?k3 ?k4 ?k5 ?k6 ?k7 ?k8 ?k9 ?k10 ?k11 ?k12 ?k13 ?_; (case k1 => k_asm); (case k2 => k_asm); (case k3 => k_asm); (case k4 => k_inst); (case k5 => exact rfl); (case k6 => k_is); (case k7 => exact Mine.over212 _); (case k8 => k_is); (case k9 => k_is); (case k10 => k_get); (case k11 => k_put); (case k12 => k_upd); (case k13 => exact Nat.le_of_ble_eq_true rfl); k_whole; intro h' F' N'; (try k_sweep)))) | (have ns9 : Mine.NoStop := trivial; walk1; (all_goals (try clear ns9))))) | (k_unfold; (try dsimp only)) | (k_end; wrow_close) | walk1 | (dsimp only; walk1) | (leave1; walk_say "STEP leave1"; try dsimp only) | fail "no step"))
  all_goals trace_state
  exact hret _ _ _ _ _ _ _ _ _ _ _ _ _ _ _ _ _ _ _ (by assumption) (by (refine Mine.news_sub (by assumption) ?_; repeat (first | exact Mine.subs_refl | exact Mine.subs_nil | (refine Mine.subs_cons ?_ ?_; (focus k_mem)) | refine Mine.subs_skip ?_))) (by (rename AllLt _ _ => hh; exact hh)) (by omega) (by omega) (by omega) (by omega)
theorem newline_spec {w : World} {dp un : Nat} {gd : Option (List Code)} {cn : Str} {cs : Scope} {a : Addr} {ccd : Value} {cl : List (Str × Addr)} {outer : List Env} {A₀ : Around} {base h₀ : Heap} {L : Addr} {m : Str → Option Value} {s : Shared} {Q : Value → Shared → Prop} {E : Value → Shared → Prop}
   {mean : ExcName → Option Value} {mg mb : Str → Option Value} {news : List (Addr × Obj)} {pg : Program} {loose : List Str}
   (B : Below A₀ base outer h₀) (F : Fr h₀ L s.heap m) (X : (KN w.params).In h₀) (T : Top pg loose mean mg mb h₀) (hk : cs.kind = .function) (hdp : dp + 30 < 1000) (hu : un + 300 < 9900) {wd : Int} {f fd l x d n k T : Nat} {z1 z2 u1 u2 u3 u4 u5 u6 v1 v2 v3 v4 y1 y2 : Tok} {ls : List (Str × Tok)} {rs : List Part} {ps1 ps2 : Array Value} (G : AllBare s.gens)
   (N : News h₀ L s.heap ((x, accO d (partsV rs ++ [.ref T]) n) :: (d, accD w 0 z1 z2) :: (174, tabObj ps1) :: (181, tabObj ps2) :: (l, listO (linesV ls) k) :: (T, tupO [.str "" y1, .str "." y2]) :: (f, instObj 128 fd) :: (fd, fmtD w wd l x u1 u2 u3 u4 u5 u6 v1 v2 v3 v4) :: news))
   (p1 : TabTwo posLen ps1) (p2 : TabTwo posStr ps2) (hqs : ∀ q ∈ rs, (q.at_, q.obj) ∈ news)
   (ox : ∀ p ∈ news, p.1 ≠ x) (od : ∀ p ∈ news, p.1 ≠ d) (ol : ∀ p ∈ news, p.1 ≠ l) (o1 : ∀ p ∈ news, p.1 ≠ 174) (o2 : ∀ p ∈ news, p.1 ≠ 181)
   (a1 : 181 < fd) (a2 : fd < f) (a3 : f < l) (a4 : l < d) (a5 : d < x) (a6 : x < T) (hn : rs.length ≤ 100) (hls : ls.length ≤ 100) (hdot : Dots rs)
   (hret : ∀ s' ps1' ps2' n' k' t z3, Fr h₀ L s'.heap m → News h₀ L s'.heap ((x, accO d [] n') :: (d, accD w 0 z1 z3) :: (174, tabObj ps1') :: (181, tabObj ps2') :: (l, listO (linesV (ls ++ [(dotsS (rs.length+1), t)])) k') :: (f, instObj 128 fd) :: (fd, fmtD w wd l x u1 u2 u3 u4 u5 u6 v1 v2 v3 v4) :: news) → TabTwo posLen ps1' → TabTwo posStr ps2' → AllBare s'.gens → s'.os = s.os → Q .none s') :
   wpAny (model PySem.Challenge.rw_tc0050_01.row.prog w) (ktrTop dp un gd cn cs L a ccd cl outer) (call (.ref 90) [.ref f]) Q E s := by
  w_strict (repeat' (first | ((with_reducible refine Mine.Stop.un ?_); (first | with_reducible (first | (k_here; k_dflt (refine' call_meth ?k1 ?k2 ?_; (case k1 => k_asm); (case k2 => k_mem); (with_reducible show codeAny _ _ (Code.call (Value.ref 156) _) _ _); (refine' Mine.push_code ?B ?F ?X ?T ?hk ?hdp ?hu ?N ?hz ?hxd ?o1 ?o2 ?_; (case B => k_asm); (case F => k_asm); (case X => k_asm); (case T => k_asm); (case hk => first | assumption | exact rfl); (case hdp => ((try simp only [depth_under_make, depth_under_kw, depth_in1, depth_deeper, depth_caller, units_in1, units_deeper, Around.mark_units, units_caller]); (try dsimp only [ktrTop]); omega)); (case hu => ((try simp only [depth_under_make, depth_under_kw, depth_in1, depth_deeper, depth_caller, units_in1, units_deeper, Around.mark_units, units_caller]); (try dsimp only [ktrTop]); omega)); (case N => first | assumption | exact Mine.news_tail (by assumption) | exact Mine.news_tail (Mine.news_tail (by assumption))); (case hz => first | assumption | omega | (simp only [List.length_append, List.length_map, List.length_cons, List.length_nil]; omega)); (case hxd => omega); (case o1 => ((repeat refine Mine.sep_cons (by omega) ?_); first | assumption | exact Mine.sep_nil | (rename AllLt _ _ => hA9; exact Mine.ne_of_allLt hA9 (by omega)))); (case o2 => ((repeat refine Mine.sep_cons (by omega) ?_); first | assumption | exact Mine.sep_nil | (rename AllLt _ _ => hA9; exact Mine.ne_of_allLt hA9 (by omega)))); intro T' h' tk' F' N' a1 a2 a3; clear a3; replace N' := Mine.rot5 N'))) | (k_here; (with_reducible show wpAny _ _ (call (Value.ref 201) _) _ _ _); k_dflt (refine' Mine.only_snoc ?B ?F ?X ?T ?hk ?hdp ?hu ?G ?N ?hqs ?hT ?p1 ?p2 ?hn ?hdot ?hx ?hd ?o1 ?o2 ?_; (case B => k_asm); (case F => k_asm); (case X => k_asm); (case T => k_asm); (case hk => first | assumption | exact rfl); (case hdp => ((try simp only [depth_under_make, depth_under_kw, depth_in1, depth_deeper, depth_caller, units_in1, units_deeper, Around.mark_units, units_caller]); (try dsimp only [ktrTop]); omega)); (case hu => ((try simp only [depth_under_make, depth_under_kw, depth_in1, depth_deeper, depth_caller, units_in1, units_deeper, Around.mark_units, units_caller]); (try dsimp only [ktrTop]); omega)); (case G => assumption); (case N => assumption); (case hqs => (intro q hq; (repeat (first | exact (by assumption : ∀ q ∈ _, _ ∈ _) q hq | refine List.Mem.tail _ ?_)))); (case hT => k_mem); (case p1 => assumption); (case p2 => assumption); (case hn => first | assumption | omega | (simp only [List.length_append, List.length_map, List.length_cons, List.length_nil]; omega)); (case hdot => assumption); (case hx => omega); (case hd => omega); (case o1 => ((repeat refine Mine.sep_cons (by omega) ?_); first | assumption | exact Mine.sep_nil | (rename AllLt _ _ => hA9; exact Mine.ne_of_allLt hA9 (by omega)))); (case o2 => ((repeat refine Mine.sep_cons (by omega) ?_); first | assumption | exact Mine.sep_nil | (rename AllLt _ _ => hA9; exact Mine.ne_of_allLt hA9 (by omega)))); intro s' ps1' ps2' F' N' hps1' hps2' G' os')) | (k_here; (with_reducible show wpAny _ _ (call (Value.ref 186) _) _ _ _); k_dflt (refine' Mine.str_snoc ?B ?F ?X ?T ?hk ?hdp ?hu ?G ?N ?hx ?hd ?U ?hq ?hT ?hxg ?hdg ?hps ?hn ?hdot ?_; (case B => k_asm); (case F => k_asm); (case X => k_asm); (case T => k_asm); (case hk => first | assumption | exact rfl); (case hdp => ((try simp only [depth_under_make, depth_under_kw, depth_in1, depth_deeper, depth_caller, units_in1, units_deeper, Around.mark_units, units_caller]); (try dsimp only [ktrTop]); omega)); (case hu => ((try simp only [depth_under_make, depth_under_kw, depth_in1, depth_deeper, depth_caller, units_in1, units_deeper, Around.mark_units, units_caller]); (try dsimp only [ktrTop]); omega)); (case G => assumption); (case N => k_asm); (case hx => k_mem); (case hd => k_mem); (case U => k_updF); (case hq => (intro q hq; (repeat (first | exact (by assumption : ∀ q ∈ _, _ ∈ _) q hq | refine List.Mem.tail _ ?_)))); (case hT => k_mem); (case hxg => (intro o; k_mem)); (case hdg => (intro o; k_mem)); (case hps => assumption); (case hn => first | assumption | omega | (simp only [List.length_append, List.length_map, List.length_cons, List.length_nil]; omega)); (case hdot => assumption); intro t' s' ps' F' N' hps' G' os')) | (k_here; (with_reducible show wpAny _ _ (call (Value.ref 179) _) _ _ _); k_dflt (refine' Mine.len_snoc ?B ?F ?X ?T ?hk ?hdp ?hu ?G ?N ?hx ?hd ?U ?hq ?hT ?hxg ?hdg ?hps ?hn ?hdot ?_; (case B => k_asm); (case F => k_asm); (case X => k_asm); (case T => k_asm); (case hk => first | assumption | exact rfl); (case hdp => ((try simp only [depth_under_make, depth_under_kw, depth_in1, depth_deeper, depth_caller, units_in1, units_deeper, Around.mark_units, units_caller]); (try dsimp only [ktrTop]); omega)); (case hu => ((try simp only [depth_under_make, depth_under_kw, depth_in1, depth_deeper, depth_caller, units_in1, units_deeper, Around.mark_units, units_caller]); (try dsimp only [ktrTop]); omega)); (case G => assumption); (case N => k_asm); (case hx => k_mem); (case hd => k_mem); (case U => k_updF); (case hq => (intro q hq; (repeat (first | exact (by assumption : ∀ q ∈ _, _ ∈ _) q hq | refine List.Mem.tail _ ?_)))); (case hT => k_mem); (case hxg => (intro o; k_mem)); (case hdg => (intro o; k_mem)); (case hps => assumption); (case hn => first | assumption | omega | (simp only [List.length_append, List.length_map, List.length_cons, List.length_nil]; omega)); (case hdot => assumption); intro t' s' ps' F' N' hps' G' os')) | (k_here; k_dflt (refine' call_meth ?k1 ?k2 ?_; (case k1 => k_asm); (case k2 => k_mem); (refine' code_def ?k1 ?k2 ?k3 ?k4 ?k5 ?kA ?kF ?kK ?k6 ?k7 ?k8 ?k9 ?kB ?_ ?c2 ?c3 ?c4 ?c5; (case kA => exact rfl); (case kF => exact rfl); (case kK => first | assumption | exact rfl); (case k1 => k_asm); (case k2 => k_asm); (case k3 => k_asm); (case k4 => k_asm); (case k5 => k_asm); (case k6 => k_is); (case k7 => k_is); (case k8 => k_room); (case k9 => first | exact BindsTo.of_eq rfl | exact binds_K (by k_in) rfl (by k_is) rfl rfl rfl); (case c5 => decide); (case kB => exact locs rfl); (case c2 => exact rfl); (case c3 => exact rfl); (case c4 => exact rfl); k_whole; intro g' L' h' FG' F' N' B' X' T'; (try dsimp only); (try k_lift B'); (try k_fold)))) | (k_here; k_dflt (refine' Mine.ag_boundK ?k1 ?k2 ?k3 ?k4 ?k5 ?k6 ?k7 ?k8 ?k9 ?k10 ?k11 ?k12 ?k13 ?k14 ?_; (case k1 => k_asm); (case k2 => k_asm); (case k3 => k_asm); (case k4 => k_inst); (case k5 => exact Mine.over212 _); (case k6 => k_is); (case k7 => k_is); (case k8 => k_is); (case k9 => k_is); (case k10 => k_is); (case k11 => k_is); (case k12 => k_is); (case k13 => decide +kernel); (case k14 => k_get); intro q' h' F' N' l1; (first | k_lt l1 | replace l1 := allLt_of l1))) | (k_here; (with_reducible show wpAny _ _ (callWith _ (Value.ref _) _ (backTo _ (starEach [Expr.Starred _ _] _)) []) _ _ _); k_dflt (refine' Mine.callWith_MS ?k0 ?k1 ?k2 ?k3 ?_; (case k0 => k_asm); (case k1 => k_asm); (case k2 => k_mem); (case k3 => k_is); k_whole)) | (k_here; (with_reducible show wpAny _ _ (call (Value.ref 172) _) _ _ _); k_dflt (refine' Mine.pop_spec ?B ?F ?X ?T ?hk ?hdp ?hu ?N ?hz ?hxd ?o1 ?o2 ?_; (case B => k_asm); (case F => k_asm); (case X => k_asm); (case T => k_asm); (case hk => first | assumption | exact rfl); (case hdp => ((try simp only [depth_under_make, depth_under_kw, depth_in1, depth_deeper, depth_caller, units_in1, units_deeper, Around.mark_units, units_caller]); (try dsimp only [ktrTop]); omega)); (case hu => ((try simp only [depth_under_make, depth_under_kw, depth_in1, depth_deeper, depth_caller, units_in1, units_deeper, Around.mark_units, units_caller]); (try dsimp only [ktrTop]); omega)); (case N => assumption); (case hz => first | assumption | omega | (simp only [List.length_append, List.length_map, List.length_cons, List.length_nil]; omega)); (case hxd => omega); (case o1 => ((repeat refine Mine.sep_cons (by omega) ?_); first | assumption | exact Mine.sep_nil | (rename AllLt _ _ => hA9; exact Mine.ne_of_allLt hA9 (by omega)))); (case o2 => ((repeat refine Mine.sep_cons (by omega) ?_); first | assumption | exact Mine.sep_nil | (rename AllLt _ _ => hA9; exact Mine.ne_of_allLt hA9 (by omega)))); intro h' tk' n' F' N')) | (k_here; (with_reducible show wpAny _ _ (call (Value.type "str") [Value.ref _]) _ _ _); k_dflt (refine' kso_call ?k1 ?k2 ?k3 ?k4 ?k5 ?_; (case k1 => (show _ < 9900; ((try simp only [depth_under_make, depth_under_kw, depth_in1, depth_deeper, depth_caller, units_in1, units_deeper, Around.mark_units, units_caller]); (try dsimp only [ktrTop]); omega))); (case k2 => k_in); (case k3 => k_inst); (case k4 => k_is); (case k5 => k_is); k_whole)) | (k_here; (with_reducible show wpAny _ _ (setItem (Value.ref _) (Value.ref _) (Value.ref _)) _ _ _); (try dsimp only); k_dflt (refine' Mine.k_setSlice ?k1 ?k2 ?k3 ?k4 ?k5 ?k6 ?k7 ?pl ?pu ?hz ?hzn ?hl ?hr ?hn ?U ?_; (case k1 => k_asm); (case k2 => k_asm); (case k3 => k_asm); (case k4 => k_inst); (case k5 => kernel_rfl); (case k6 => kernel_rfl); (case k7 => k_is); (case pl => first | exact IsPart.none | exact IsPart.int _ _); (case pu => first | exact IsPart.none | exact IsPart.int _ _); (case hl => k_mem); (case hr => first | exact Mine.set_all _ _ | exact Mine.set_from _ _); (case hz => first | assumption | omega | (simp only [List.length_append, List.length_map, List.length_cons, List.length_nil]; omega)); (case hzn => first | assumption | omega | exact Nat.le_of_ble_eq_true rfl | (simp only [List.length_append, List.length_map, List.length_cons, List.length_nil]; omega)); (case hn => exact rfl); (case U => k_upd); k_whole); intro h' F' N') | (k_here; k_dflt (refine wpAny_call ?_; (refine' code_def ?k1 ?k2 ?k3 ?k4 ?k5 ?kA ?kF ?kK ?k6 ?k7 ?k8 ?k9 ?kB ?_ ?c2 ?c3 ?c4 ?c5; (case kA => exact rfl); (case kF => exact rfl); (case kK => first | assumption | exact rfl); (case k1 => k_asm); (case k2 => k_asm); (case k3 => k_asm); (case k4 => k_asm); (case k5 => k_asm); (case k6 => k_is); (case k7 => k_is); (case k8 => k_room); (case k9 => first | exact BindsTo.of_eq rfl | exact binds_K (by k_in) rfl (by k_is) rfl rfl rfl); (case c5 => decide); (case kB => exact locs rfl); (case c2 => exact rfl); (case c3 => exact rfl); (case c4 => exact rfl); k_whole; intro g' L' h' FG' F' N' B' X' T'; (try dsimp only); (try k_lift B'); (try k_fold)))) | (k_here; k_dflt (refine' Mine.as_set ?k1 ?k2 ?k3 ?k4 ?k5 ?k6 ?k7 ?k8 ?k9 ?k10 ?k11 ?k12 ?k13 ?_; (case k1 => k_asm); (case k2 => k_asm); (case k3 => k_asm); (case k4 => k_inst); (case k5 => exact rfl); (case k6 => k_is); (case k7 => exact Mine.over212 _); (case k8 => k_is); (case k9 => k_is); (case k10 => k_get); (case k11 => k_put); (case k12 => k_upd); (case k13 => exact Nat.le_of_ble_eq_true rfl); k_whole; intro h' F' N'; (try k_sweep))) | (k_here; k_dflt (first | (refine' Mine.am_fnK ?k1 ?k2 ?k3 ?k4 ?k5 ?k6 ?k7 ?k8 ?_; (case k1 => k_asm); (case k2 => k_asm); (case k3 => k_inst); (case k4 => k_is); (case k5 => k_is); (case k6 => k_is); (case k7 => k_is); (case k8 => k_get); k_whole) | (refine' Mine.am_biK ?k1 ?k2 ?k3 ?k4 ?k5 ?k6 ?k7 ?k8 ?_; (case k1 => k_asm); (case k2 => k_asm); (case k3 => k_inst); (case k4 => k_is); (case k5 => k_is); (case k6 => k_is); (case k7 => first | exact PySem.F.type_list_append | exact PySem.F.type_list_pop); (case k8 => k_get); k_whole)))) | (k_here; (with_reducible show wpAny _ _ (eval (Expr.Call (Expr.Attribute _ _ _) [Expr.Starred _ _] [] _) _) _ _ _); refine Mine.MethodCall_S ?_) | (have ns9 : Mine.NoStop := trivial; walk1; (all_goals (try clear ns9))))) | (k_unfold; (try dsimp only)) | (k_end; wrow_close) | walk1 | (dsimp only; walk1) | (leave1; walk_say "STEP leave1"; try dsimp only) | fail "no step"))
  all_goals trace_state
  all_goals first
    | (exfalso; (have hh := nsp_dots rs.length); (rename Txt.isspace _ = true => hj); rw [hh] at hj; cases hj)
    | ((rename News h₀ L _ _ => kN9); simp only [push_line] at kN9; exact hret _ _ _ _ _ _ _ (by assumption) (by (refine Mine.news_sub (by assumption) ?_; repeat (first | exact Mine.subs_refl | exact Mine.subs_nil | (refine Mine.subs_cons ?_ ?_; (focus k_mem)) | refine Mine.subs_skip ?_))) (by assumption) (by assumption) (by assumption) (by first | rfl | assumption | exact Eq.trans (by assumption) (by assumption) | exact Eq.trans (by assumption) (Eq.trans (by assumption) (by assumption))))
theorem newline_nil {w : World} {dp un : Nat} {gd : Option (List Code)} {cn : Str} {cs : Scope} {a : Addr} {ccd : Value} {cl : List (Str × Addr)} {outer : List Env} {A₀ : Around} {base h₀ : Heap} {L : Addr} {m : Str → Option Value} {s : Shared} {Q : Value → Shared → Prop} {E : Value → Shared → Prop}
   {mean : ExcName → Option Value} {mg mb : Str → Option Value} {news : List (Addr × Obj)} {pg : Program} {loose : List Str}
   (B : Below A₀ base outer h₀) (F : Fr h₀ L s.heap m) (X : (KN w.params).In h₀) (T : Top pg loose mean mg mb h₀) (hk : cs.kind = .function) (hdp : dp + 30 < 1000) (hu : un + 300 < 9900) {wd : Int} {f fd l x d n k : Nat} {z1 z2 u1 u2 u3 u4 u5 u6 v1 v2 v3 v4 : Tok} {ls : List (Str × Tok)} {ps1 ps2 : Array Value} (G : AllBare s.gens)
   (N : News h₀ L s.heap ((x, accO d ([]) n) :: (d, accD w 0 z1 z2) :: (174, tabObj ps1) :: (181, tabObj ps2) :: (l, listO (linesV ls) k) :: (f, instObj 128 fd) :: (fd, fmtD w wd l x u1 u2 u3 u4 u5 u6 v1 v2 v3 v4) :: news))
   (p1 : TabTwo posLen ps1) (p2 : TabTwo posStr ps2) 
   (ox : ∀ p ∈ news, p.1 ≠ x) (od : ∀ p ∈ news, p.1 ≠ d) (ol : ∀ p ∈ news, p.1 ≠ l) (o1 : ∀ p ∈ news, p.1 ≠ 174) (o2 : ∀ p ∈ news, p.1 ≠ 181)
   (a1 : 181 < fd) (a2 : fd < f) (a3 : f < l) (a4 : l < d) (a5 : d < x) 
   (hret : ∀ s' ps1' ps2' n' z3, Fr h₀ L s'.heap m → News h₀ L s'.heap ((x, accO d [] n') :: (d, accD w 0 z1 z3) :: (174, tabObj ps1') :: (181, tabObj ps2') :: (l, listO (linesV ls) k) :: (f, instObj 128 fd) :: (fd, fmtD w wd l x u1 u2 u3 u4 u5 u6 v1 v2 v3 v4) :: news) → TabTwo posLen ps1' → TabTwo posStr ps2' → AllBare s'.gens → s'.os = s.os → Q .none s') :
   wpAny (model PySem.Challenge.rw_tc0050_01.row.prog w) (ktrTop dp un gd cn cs L a ccd cl outer) (call (.ref 90) [.ref f]) Q E s := by
  w_strict (repeat' (first | ((with_reducible refine Mine.Stop.un ?_); (first | with_reducible (first | (k_here; k_dflt (refine' call_meth ?k1 ?k2 ?_; (case k1 => k_asm); (case k2 => k_mem); (with_reducible show codeAny _ _ (Code.call (Value.ref 156) _) _ _); (refine' Mine.push_code ?B ?F ?X ?T ?hk ?hdp ?hu ?N ?hz ?hxd ?o1 ?o2 ?_; (case B => k_asm); (case F => k_asm); (case X => k_asm); (case T => k_asm); (case hk => first | assumption | exact rfl); (case hdp => ((try simp only [depth_under_make, depth_under_kw, depth_in1, depth_deeper, depth_caller, units_in1, units_deeper, Around.mark_units, units_caller]); (try dsimp only [ktrTop]); omega)); (case hu => ((try simp only [depth_under_make, depth_under_kw, depth_in1, depth_deeper, depth_caller, units_in1, units_deeper, Around.mark_units, units_caller]); (try dsimp only [ktrTop]); omega)); (case N => first | assumption | exact Mine.news_tail (by assumption) | exact Mine.news_tail (Mine.news_tail (by assumption))); (case hz => first | assumption | omega | (simp only [List.length_append, List.length_map, List.length_cons, List.length_nil]; omega)); (case hxd => omega); (case o1 => ((repeat refine Mine.sep_cons (by omega) ?_); first | assumption | exact Mine.sep_nil | (rename AllLt _ _ => hA9; exact Mine.ne_of_allLt hA9 (by omega)))); (case o2 => ((repeat refine Mine.sep_cons (by omega) ?_); first | assumption | exact Mine.sep_nil | (rename AllLt _ _ => hA9; exact Mine.ne_of_allLt hA9 (by omega)))); intro T' h' tk' F' N' a1 a2 a3; clear a3; replace N' := Mine.rot5 N'))) | (k_here; (with_reducible show wpAny _ _ (call (Value.ref 179) _) _ _ _); k_dflt (refine' Mine.len_nil1 ?B ?F ?X ?T ?hk ?hdp ?hu ?G ?N ?hx ?hd ?U ?hT ?hxg ?hdg ?hps ?_; (case B => k_asm); (case F => k_asm); (case X => k_asm); (case T => k_asm); (case hk => first | assumption | exact rfl); (case hdp => ((try simp only [depth_under_make, depth_under_kw, depth_in1, depth_deeper, depth_caller, units_in1, units_deeper, Around.mark_units, units_caller]); (try dsimp only [ktrTop]); omega)); (case hu => ((try simp only [depth_under_make, depth_under_kw, depth_in1, depth_deeper, depth_caller, units_in1, units_deeper, Around.mark_units, units_caller]); (try dsimp only [ktrTop]); omega)); (case G => assumption); (case N => k_asm); (case hx => k_mem); (case hd => k_mem); (case U => k_updF); (case hT => k_mem); (case hxg => (intro o; k_mem)); (case hdg => (intro o; k_mem)); (case hps => assumption); intro t' s' ps' F' N' hps' G' os')) | (k_here; k_dflt (refine' call_meth ?k1 ?k2 ?_; (case k1 => k_asm); (case k2 => k_mem); (refine' code_def ?k1 ?k2 ?k3 ?k4 ?k5 ?kA ?kF ?kK ?k6 ?k7 ?k8 ?k9 ?kB ?_ ?c2 ?c3 ?c4 ?c5; (case kA => exact rfl); (case kF => exact rfl); (case kK => first | assumption | exact rfl); (case k1 => k_asm); (case k2 => k_asm); (case k3 => k_asm); (case k4 => k_asm); (case k5 => k_asm); (case k6 => k_is); (case k7 => k_is); (case k8 => k_room); (case k9 => first | exact BindsTo.of_eq rfl | exact binds_K (by k_in) rfl (by k_is) rfl rfl rfl); (case c5 => decide); (case kB => exact locs rfl); (case c2 => exact rfl); (case c3 => exact rfl); (case c4 => exact rfl); k_whole; intro g' L' h' FG' F' N' B' X' T'; (try dsimp only); (try k_lift B'); (try k_fold)))) | (k_here; k_dflt (refine' Mine.ag_boundK ?k1 ?k2 ?k3 ?k4 ?k5 ?k6 ?k7 ?k8 ?k9 ?k10 ?k11 ?k12 ?k13 ?k14 ?_; (case k1 => k_asm); (case k2 => k_asm); (case k3 => k_asm); (case k4 => k_inst); (case k5 => exact Mine.over212 _); (case k6 => k_is); (case k7 => k_is); (case k8 => k_is); (case k9 => k_is); (case k10 => k_is); (case k11 => k_is); (case k12 => k_is); (case k13 => decide +kernel); (case k14 => k_get); intro q' h' F' N' l1; (first | k_lt l1 | replace l1 := allLt_of l1))) | (k_here; (with_reducible show wpAny _ _ (callWith _ (Value.ref _) _ (backTo _ (starEach [Expr.Starred _ _] _)) []) _ _ _); k_dflt (refine' Mine.callWith_MS ?k0 ?k1 ?k2 ?k3 ?_; (case k0 => k_asm); (case k1 => k_asm); (case k2 => k_mem); (case k3 => k_is); k_whole)) | (k_here; (with_reducible show wpAny _ _ (call (Value.ref 172) _) _ _ _); k_dflt (refine' Mine.pop_nil_spec ?B ?F ?X ?T ?hk ?hdp ?hu ?N ?hxd ?o1 ?o2 ?_; (case B => k_asm); (case F => k_asm); (case X => k_asm); (case T => k_asm); (case hk => first | assumption | exact rfl); (case hdp => ((try simp only [depth_under_make, depth_under_kw, depth_in1, depth_deeper, depth_caller, units_in1, units_deeper, Around.mark_units, units_caller]); (try dsimp only [ktrTop]); omega)); (case hu => ((try simp only [depth_under_make, depth_under_kw, depth_in1, depth_deeper, depth_caller, units_in1, units_deeper, Around.mark_units, units_caller]); (try dsimp only [ktrTop]); omega)); (case N => assumption); (case hxd => omega); (case o1 => ((repeat refine Mine.sep_cons (by omega) ?_); first | assumption | exact Mine.sep_nil | (rename AllLt _ _ => hA9; exact Mine.ne_of_allLt hA9 (by omega)))); (case o2 => ((repeat refine Mine.sep_cons (by omega) ?_); first | assumption | exact Mine.sep_nil | (rename AllLt _ _ => hA9; exact Mine.ne_of_allLt hA9 (by omega)))); intro T' t1' t2' h' tk' F' N' a1 a2 a3; clear a3; replace N' := Mine.rot5 N')) | (k_here; (with_reducible show wpAny _ _ (setItem (Value.ref _) (Value.ref _) (Value.ref _)) _ _ _); (try dsimp only); k_dflt (refine' Mine.k_setSlice ?k1 ?k2 ?k3 ?k4 ?k5 ?k6 ?k7 ?pl ?pu ?hz ?hzn ?hl ?hr ?hn ?U ?_; (case k1 => k_asm); (case k2 => k_asm); (case k3 => k_asm); (case k4 => k_inst); (case k5 => kernel_rfl); (case k6 => kernel_rfl); (case k7 => k_is); (case pl => first | exact IsPart.none | exact IsPart.int _ _); (case pu => first | exact IsPart.none | exact IsPart.int _ _); (case hl => k_mem); (case hr => first | exact Mine.set_all _ _ | exact Mine.set_from _ _); (case hz => first | assumption | omega | (simp only [List.length_append, List.length_map, List.length_cons, List.length_nil]; omega)); (case hzn => first | assumption | omega | exact Nat.le_of_ble_eq_true rfl | (simp only [List.length_append, List.length_map, List.length_cons, List.length_nil]; omega)); (case hn => exact rfl); (case U => k_upd); k_whole); intro h' F' N') | (k_here; k_dflt (refine wpAny_call ?_; (refine' code_def ?k1 ?k2 ?k3 ?k4 ?k5 ?kA ?kF ?kK ?k6 ?k7 ?k8 ?k9 ?kB ?_ ?c2 ?c3 ?c4 ?c5; (case kA => exact rfl); (case kF => exact rfl); (case kK => first | assumption | exact rfl); (case k1 => k_asm); (case k2 => k_asm); (case k3 => k_asm); (case k4 => k_asm); (case k5 => k_asm); (case k6 => k_is); (case k7 => k_is); (case k8 => k_room); (case k9 => first | exact BindsTo.of_eq rfl | exact binds_K (by k_in) rfl (by k_is) rfl rfl rfl); (case c5 => decide); (case kB => exact locs rfl); (case c2 => exact rfl); (case c3 => exact rfl); (case c4 => exact rfl); k_whole; intro g' L' h' FG' F' N' B' X' T'; (try dsimp only); (try k_lift B'); (try k_fold)))) | (k_here; k_dflt (refine' Mine.as_set ?k1 ?k2 ?k3 ?k4 ?k5 ?k6 ?k7 ?k8 ?k9 ?k10 ?k11 ?k12 ?k13 ?_; (case k1 => k_asm); (case k2 => k_asm); (case k3 => k_asm); (case k4 => k_inst); (case k5 => exact rfl); (case k6 => k_is); (case k7 => exact Mine.over212 _); (case k8 => k_is); (case k9 => k_is); (case k10 => k_get); (case k11 => k_put); (case k12 => k_upd); (case k13 => exact Nat.le_of_ble_eq_true rfl); k_whole; intro h' F' N'; (try k_sweep))) | (k_here; k_dflt (first | (refine' Mine.am_fnK ?k1 ?k2 ?k3 ?k4 ?k5 ?k6 ?k7 ?k8 ?_; (case k1 => k_asm); (case k2 => k_asm); (case k3 => k_inst); (case k4 => k_is); (case k5 => k_is); (case k6 => k_is); (case k7 => k_is); (case k8 => k_get); k_whole) | (refine' Mine.am_biK ?k1 ?k2 ?k3 ?k4 ?k5 ?k6 ?k7 ?k8 ?_; (case k1 => k_asm); (case k2 => k_asm); (case k3 => k_inst); (case k4 => k_is); (case k5 => k_is); (case k6 => k_is); (case k7 => first | exact PySem.F.type_list_append | exact PySem.F.type_list_pop); (case k8 => k_get); k_whole)))) | (k_here; (with_reducible show wpAny _ _ (eval (Expr.Call (Expr.Attribute _ _ _) [Expr.Starred _ _] [] _) _) _ _ _); refine Mine.MethodCall_S ?_) | (have ns9 : Mine.NoStop := trivial; walk1; (all_goals (try clear ns9))))) | (k_unfold; (try dsimp only)) | (k_end; wrow_close) | walk1 | (dsimp only; walk1) | (leave1; walk_say "STEP leave1"; try dsimp only) | fail "no step"))
  all_goals trace_state
  all_goals exact hret _ _ _ _ _ (by assumption) (by (refine Mine.news_sub (by assumption) ?_; repeat (first | exact Mine.subs_refl | exact Mine.subs_nil | (refine Mine.subs_cons ?_ ?_; (focus k_mem)) | refine Mine.subs_skip ?_))) (by assumption) (by assumption) (by assumption) (by simp_all)
inductive SentI (w : World) (wd : Nat) (m0 : Str → Option Value) (nw : List (Addr × Obj)) (os0 : OsState) (i : Nat) (m' : Str → Option Value) (news' : List (Addr × Obj)) (gs : Array GenState) (o : OsState) : Prop
  | mk (u : Option Value) (f fd l x d n k : Nat) (z1 z2 u1 u2 u3 u4 u5 u6 v1 v2 v3 v4 : Tok) (ls : List (Str × Tok)) (qs : List Part) (ps1 ps2 : Array Value) (tail : List (Addr × Obj)) (q : Nat)
    (em : m' = (fun y => if y = Str.ofString "turn" then u else m0 y)) (hm : m0 (Str.ofString "formatter") = some (.ref f))
    (en : news' = ((x, accO d (partsV qs) n) :: (d, accD w 0 z1 z2) :: (174, tabObj ps1) :: (181, tabObj ps2) :: (l, listO (linesV ls) k) :: (f, instObj 128 fd) :: (fd, fmtD w wd l x u1 u2 u3 u4 u5 u6 v1 v2 v3 v4) :: tail))
    (p1 : TabTwo posLen ps1) (p2 : TabTwo posStr ps2) (hq : ∀ q ∈ qs, (q.at_, q.obj) ∈ tail) (ox : ∀ p ∈ tail, p.1 ≠ x) (od : ∀ p ∈ tail, p.1 ≠ d) (ol : ∀ p ∈ tail, p.1 ≠ l) (o1 : ∀ p ∈ tail, p.1 ≠ 174) (o2 : ∀ p ∈ tail, p.1 ≠ 181) (sub : ∀ p ∈ nw, p ∈ tail)
    (a1 : 181 < fd) (a2 : fd < f) (a3 : f < l) (a4 : l < d) (a5 : d < x) (dot : Dots qs) (gt : ∀ q ∈ qs, x < q.at_) (hls : ls.map (·.1) = List.replicate q (dotsS wd)) (hi : i = q * wd + qs.length) (hle : qs.length ≤ wd) (hpos : 0 < i → 0 < qs.length) (g : AllBare gs) (eo : o = os0) : SentI w wd m0 nw os0 i m' news' gs o
noncomputable def SentInv (w : World) (wd : Nat) (m0 : Str → Option Value) (nw : List (Addr × Obj)) (os0 : OsState) : Inv := fun i m' news' s' => SentI w wd m0 nw os0 i m' news' s'.gens s'.os
theorem SentInv.start {w : World} {wd : Nat} {m0 : Str → Option Value} {nw : List (Addr × Obj)} {os0 : OsState} {s' : Shared} {f fd l x d : Nat} {z1 z2 u1 u2 u3 u4 u5 u6 v1 v2 v3 v4 : Tok} {ps1 ps2 : Array Value}
    (hm : m0 (Str.ofString "formatter") = some (.ref f)) (hA : AllLt fd nw) (h1 : 181 < fd) (h2 : fd < f) (h3 : f < l) (h4 : l < d) (h5 : d < x) (p1 : TabTwo posLen ps1) (p2 : TabTwo posStr ps2) (o1 : ∀ p ∈ nw, p.1 ≠ 174) (o2 : ∀ p ∈ nw, p.1 ≠ 181) (G : AllBare s'.gens) (hos : s'.os = os0) :
    SentInv w wd m0 nw os0 0 m0 ((x, accO d [] 0) :: (d, accD w 0 z1 z2) :: (174, tabObj ps1) :: (181, tabObj ps2) :: (l, listO [] 0) :: (f, instObj 128 fd) :: (fd, fmtD w wd l x u1 u2 u3 u4 u5 u6 v1 v2 v3 v4) :: nw) s' := by
  have lt := allLt_mem hA
  refine ⟨m0 (Str.ofString "turn"), f, fd, l, x, d, 0, 0, z1, z2, u1, u2, u3, u4, u5, u6, v1, v2, v3, v4, [], [], ps1, ps2, nw, 0, ?_, hm, rfl, p1, p2, (fun _ h => nomatch h), ?_, ?_, ?_, o1, o2, (fun _ h => h), h1, h2, h3, h4, h5, (fun _ h => nomatch h), (fun _ h => nomatch h), rfl, by simp, by simp, by simp, G, hos⟩
  · funext y
    by_cases e : y = Str.ofString "turn"
    · rw [if_pos e, e]
    · rw [if_neg e]
  all_goals
    intro p hp e
    have := lt p hp
    rw [e] at this
    omega
theorem sent_fit {w : World} {wd i : Nat} {m0 m' : Str → Option Value} {nw tail : List (Addr × Obj)} {os0 : OsState} {s' : Shared} {h₀ : Heap} {L I : Addr} {io : Obj} {u : Option Value} {f fd l x d n k T q : Nat} {z1 z2 u1 u2 u3 u4 u5 u6 v1 v2 v3 v4 ta tb : Tok} {ls : List (Str × Tok)} {qs : List Part} {ps1 ps2 : Array Value}
    (F : Fr h₀ L s'.heap m') (N : News h₀ L s'.heap ((x, accO d (partsV (qs ++ [⟨T, "", ta, ".", tb⟩])) n) :: (d, accD w 0 z1 z2) :: (174, tabObj ps1) :: (181, tabObj ps2) :: (l, listO (linesV ls) k) :: (f, instObj 128 fd) :: (fd, fmtD w wd l x u1 u2 u3 u4 u5 u6 v1 v2 v3 v4) :: (T, tupO [.str "" ta, .str "." tb]) :: (I, io) :: tail))
    (hm' : m' = (fun y => if y = Str.ofString "turn" then u else m0 y)) (hmf : m0 (Str.ofString "formatter") = some (.ref f)) (lT : x < T) (lA : AllLt T ((I, io) :: tail)) (p1 : TabTwo posLen ps1) (p2 : TabTwo posStr ps2) (G : AllBare s'.gens) (hos : s'.os = os0)
    (hq : ∀ q ∈ qs, (q.at_, q.obj) ∈ tail) (ox : ∀ p ∈ tail, p.1 ≠ x) (od : ∀ p ∈ tail, p.1 ≠ d) (ol : ∀ p ∈ tail, p.1 ≠ l) (o1 : ∀ p ∈ tail, p.1 ≠ 174) (o2 : ∀ p ∈ tail, p.1 ≠ 181) (sub : ∀ p ∈ nw, p ∈ tail)
    (a1 : 181 < fd) (a2 : fd < f) (a3 : f < l) (a4 : l < d) (a5 : d < x) (dot : Dots qs) (hgt : ∀ q ∈ qs, x < q.at_) (hls : ls.map (·.1) = List.replicate q (dotsS wd)) (hi : i = q * wd + qs.length) (hle : qs.length + 1 ≤ wd)
    (oI : ∀ p ∈ tail, p.1 ≠ I) (ix : x ≠ I) (id : d ≠ I) (i1 : 174 ≠ I) (i2 : 181 ≠ I) (il : l ≠ I) (jf : f ≠ I) (jfd : fd ≠ I) :
    TurnL h₀ L I io nw (SentInv w wd m0 nw os0 (i + 1)) s' := by
  have lt := allLt_mem lA
  have hTI : T ≠ I := fun e => by have := lt (I, io) (.head _); omega
  refine ⟨m', (x, accO d (partsV (qs ++ [⟨T, "", ta, ".", tb⟩])) n) :: (d, accD w 0 z1 z2) :: (174, tabObj ps1) :: (181, tabObj ps2) :: (l, listO (linesV ls) k) :: (f, instObj 128 fd) :: (fd, fmtD w wd l x u1 u2 u3 u4 u5 u6 v1 v2 v3 v4) :: (T, tupO [.str "" ta, .str "." tb]) :: tail, F, ?_, ?_, ?_, ?_⟩
  · refine news_sub N ?_
    intro p hp
    simp only [List.mem_cons] at hp ⊢
    rcases hp with h | h | h | h | h | h | h | h | h | h <;> simp [h]
  · exact sep_cons ix (sep_cons id (sep_cons i1 (sep_cons i2 (sep_cons il (sep_cons jf (sep_cons jfd (sep_cons hTI oI)))))))
  · intro p hp
    iterate 8 refine List.Mem.tail _ ?_
    exact sub p hp
  · refine ⟨u, f, fd, l, x, d, n, k, z1, z2, u1, u2, u3, u4, u5, u6, v1, v2, v3, v4, ls, qs ++ [⟨T, "", ta, ".", tb⟩], ps1, ps2, (T, tupO [.str "" ta, .str "." tb]) :: tail, q, hm', hmf, rfl, p1, p2, ?_, ?_, ?_, ?_, ?_, ?_, ?_, a1, a2, a3, a4, a5, dots_snoc dot ⟨rfl, rfl⟩, ?_, hls, ?_, ?_, ?_, G, hos⟩
    · exact all_snoc (fun q h => .tail _ (hq q h)) (.head _)
    · exact sep_cons (by omega) ox
    · exact sep_cons (by omega) od
    · exact sep_cons (by omega) ol
    · exact sep_cons (by omega) o1
    · exact sep_cons (by omega) o2
    · exact fun p h => .tail _ (sub p h)
    · intro q hq; rcases List.mem_append.mp hq with h | h
      · exact hgt q h
      · rw [List.mem_singleton.mp h]; exact lT
    · rw [List.length_append]; simp only [List.length_cons, List.length_nil]; omega
    · rw [List.length_append]; simp only [List.length_cons, List.length_nil]; omega
    · intro _; rw [List.length_append]; simp
theorem sent_over {w : World} {wd i : Nat} {m0 m' : Str → Option Value} {nw tail : List (Addr × Obj)} {os0 : OsState} {s' : Shared} {h₀ : Heap} {L I : Addr} {io : Obj} {u : Option Value} {f fd l x d n k T q : Nat} {z1 z2 u1 u2 u3 u4 u5 u6 v1 v2 v3 v4 ta tb t : Tok} {ls : List (Str × Tok)} {qs : List Part} {ps1 ps2 : Array Value}
    (F : Fr h₀ L s'.heap m') (N : News h₀ L s'.heap ((x, accO d [.ref T] n) :: (d, accD w 0 z1 z2) :: (174, tabObj ps1) :: (181, tabObj ps2) :: (l, listO (linesV (ls ++ [(dotsS qs.length, t)])) k) :: (f, instObj 128 fd) :: (fd, fmtD w wd l x u1 u2 u3 u4 u5 u6 v1 v2 v3 v4) :: (T, tupO [.str "" ta, .str "." tb]) :: (I, io) :: tail))
    (hm' : m' = (fun y => if y = Str.ofString "turn" then u else m0 y)) (hmf : m0 (Str.ofString "formatter") = some (.ref f)) (lT : x < T) (lA : AllLt T ((I, io) :: tail)) (p1 : TabTwo posLen ps1) (p2 : TabTwo posStr ps2) (G : AllBare s'.gens) (hos : s'.os = os0)
    (ox : ∀ p ∈ tail, p.1 ≠ x) (od : ∀ p ∈ tail, p.1 ≠ d) (ol : ∀ p ∈ tail, p.1 ≠ l) (o1 : ∀ p ∈ tail, p.1 ≠ 174) (o2 : ∀ p ∈ tail, p.1 ≠ 181) (sub : ∀ p ∈ nw, p ∈ tail)
    (a1 : 181 < fd) (a2 : fd < f) (a3 : f < l) (a4 : l < d) (a5 : d < x) (hls : ls.map (·.1) = List.replicate q (dotsS wd)) (hi : i = q * wd + qs.length) (hle : qs.length = wd) (hw : 1 ≤ wd)
    (oI : ∀ p ∈ tail, p.1 ≠ I) (ix : x ≠ I) (id : d ≠ I) (i1 : 174 ≠ I) (i2 : 181 ≠ I) (il : l ≠ I) (jf : f ≠ I) (jfd : fd ≠ I) :
    TurnL h₀ L I io nw (SentInv w wd m0 nw os0 (i + 1)) s' := by
  have lt := allLt_mem lA
  have hTI : T ≠ I := fun e => by have := lt (I, io) (.head _); omega
  refine ⟨m', (x, accO d [.ref T] n) :: (d, accD w 0 z1 z2) :: (174, tabObj ps1) :: (181, tabObj ps2) :: (l, listO (linesV (ls ++ [(dotsS qs.length, t)])) k) :: (f, instObj 128 fd) :: (fd, fmtD w wd l x u1 u2 u3 u4 u5 u6 v1 v2 v3 v4) :: (T, tupO [.str "" ta, .str "." tb]) :: tail, F, ?_, ?_, ?_, ?_⟩
  · refine news_sub N ?_
    intro p hp
    simp only [List.mem_cons] at hp ⊢
    rcases hp with h | h | h | h | h | h | h | h | h | h <;> simp [h]
  · exact sep_cons ix (sep_cons id (sep_cons i1 (sep_cons i2 (sep_cons il (sep_cons jf (sep_cons jfd (sep_cons hTI oI)))))))
  · intro p hp
    iterate 8 refine List.Mem.tail _ ?_
    exact sub p hp
  · refine ⟨u, f, fd, l, x, d, n, k, z1, z2, u1, u2, u3, u4, u5, u6, v1, v2, v3, v4, ls ++ [(dotsS qs.length, t)], [⟨T, "", ta, ".", tb⟩], ps1, ps2, (T, tupO [.str "" ta, .str "." tb]) :: tail, q + 1, hm', hmf, rfl, p1, p2, ?_, ?_, ?_, ?_, ?_, ?_, ?_, a1, a2, a3, a4, a5, ?_, ?_, ?_, ?_, ?_, ?_, G, hos⟩
    · intro q hq; rw [List.mem_singleton.mp hq]; exact .head _
    · exact sep_cons (by omega) ox
    · exact sep_cons (by omega) od
    · exact sep_cons (by omega) ol
    · exact sep_cons (by omega) o1
    · exact sep_cons (by omega) o2
    · exact fun p h => .tail _ (sub p h)
    · intro q hq; rw [List.mem_singleton.mp hq]; exact ⟨rfl, rfl⟩
    · intro q hq; rw [List.mem_singleton.mp hq]; exact lT
    · rw [List.map_append, hls, hle]; simp [List.replicate_succ']
    · rw [hi, hle, Nat.succ_mul]; rfl
    · exact hw
    · intro _; simp
theorem open_snoc {h₀ h : Heap} {L A0 x d n : Nat} {rs : List Part} {y1 y2 : Tok} {dd a b ll ff ffd : Addr × Obj} {tail : List (Addr × Obj)} (N : News h₀ L h ((x, accO d (partsV (rs ++ [⟨A0, "", y1, ".", y2⟩])) n) :: dd :: a :: b :: ll :: ff :: ffd :: tail)) (hA : (A0, tupO [.str "" y1, .str "." y2]) ∈ tail) :
    News h₀ L h ((x, accO d (partsV rs ++ [.ref A0]) n) :: dd :: a :: b :: ll :: (A0, tupO [.str "" y1, .str "." y2]) :: ff :: ffd :: tail) := by
  have e9 := partsV_snoc rs ⟨A0, "", y1, ".", y2⟩
  dsimp only at e9
  rw [e9]
  intro p hp
  simp only [List.mem_cons] at hp
  rcases hp with h | h | h | h | h | h | h | h | h
  · exact N p (by simp [h])
  · exact N p (by simp [h])
  · exact N p (by simp [h])
  · exact N p (by simp [h])
  · exact N p (by simp [h])
  · rw [h]; exact N _ (by (iterate 7 refine List.Mem.tail _ ?_); exact hA)
  · exact N p (by simp [h])
  · exact N p (by simp [h])
  · exact N p (by simp [h])
theorem open_nil {h₀ h : Heap} {L x d n : Nat} {r : List (Addr × Obj)} (N : News h₀ L h ((x, accO d (partsV []) n) :: r)) : News h₀ L h ((x, accO d [] n) :: r) := N
theorem close_tabs {h₀ h : Heap} {L : Addr} {a b : Addr × Obj} {nw tail : List (Addr × Obj)} (N : News h₀ L h (a :: b :: tail)) (sub : ∀ p ∈ nw, p ∈ tail) : News h₀ L h (a :: b :: nw) := by
  intro p hp
  simp only [List.mem_cons] at hp
  rcases hp with h | h | h
  · exact N p (by simp [h])
  · exact N p (by simp [h])
  · exact N p (.tail _ (.tail _ (sub p h)))
noncomputable def sentText (wd size : Nat) (ends : Str) : Str := if size = 0 then "" else Str.join ends (List.replicate ((size - 1) / wd) (dotsS wd) ++ [dotsS ((size - 1) % wd + 1)])
theorem sent_text {wd size q r : Nat} {ends : Str} (h : size = q * wd + (r + 1)) (hr : r < wd) : sentText wd size ends = Str.join ends (List.replicate q (dotsS wd) ++ [dotsS (r + 1)]) := by
  unfold sentText
  rw [if_neg (by omega)]
  have e : size - 1 = r + q * wd := by omega
  rw [e, Nat.add_mul_div_right _ _ (by omega), Nat.div_eq_of_lt hr, Nat.add_mul_mod_self_right, Nat.mod_eq_of_lt hr, Nat.zero_add]
theorem append_fit {w : World} {dp un : Nat} {gd : Option (List Code)} {cn : Str} {cs : Scope} {a : Addr} {ccd : Value} {cl : List (Str × Addr)} {outer : List Env} {A₀ : Around} {base h₀ : Heap} {L : Addr} {m : Str → Option Value} {s : Shared} {Q : Value → Shared → Prop} {E : Value → Shared → Prop}
   {mean : ExcName → Option Value} {mg mb : Str → Option Value} {news : List (Addr × Obj)} {pg : Program} {loose : List Str}
   (B : Below A₀ base outer h₀) (F : Fr h₀ L s.heap m) (X : (KN w.params).In h₀) (T : Top pg loose mean mg mb h₀) (hk : cs.kind = .function) (hdp : dp + 40 < 1000) (hu : un + 400 < 9900) {wd : Int} {f fd l x d n k : Nat} {z1 z2 u1 u2 u3 u4 u5 u6 v1 v2 v3 v4 t1 t2 : Tok} {ls : List (Str × Tok)} {qs : List Part} {ps1 ps2 : Array Value} (G : AllBare s.gens)
   (N : News h₀ L s.heap ((x, accO d (partsV qs) n) :: (d, accD w 0 z1 z2) :: (174, tabObj ps1) :: (181, tabObj ps2) :: (l, listO (linesV ls) k) :: (f, instObj 128 fd) :: (fd, fmtD w wd l x u1 u2 u3 u4 u5 u6 v1 v2 v3 v4) :: news))
   (p1 : TabTwo posLen ps1) (p2 : TabTwo posStr ps2) (hqs : ∀ q ∈ qs, (q.at_, q.obj) ∈ news)
   (ox : ∀ p ∈ news, p.1 ≠ x) (od : ∀ p ∈ news, p.1 ≠ d) (ol : ∀ p ∈ news, p.1 ≠ l) (o1 : ∀ p ∈ news, p.1 ≠ 174) (o2 : ∀ p ∈ news, p.1 ≠ 181)
   (a1 : 181 < fd) (a2 : fd < f) (a3 : f < l) (a4 : l < d) (a5 : d < x) (hn : qs.length ≤ 100) (hls : ls.length ≤ 100) (hdot : Dots qs)
   (hfit : (qs.length : Int) + 1 ≤ wd)
   (hret : ∀ s' ps1' n' T, Fr h₀ L s'.heap m → News h₀ L s'.heap ((x, accO d (partsV (qs ++ [⟨T, "", t1, ".", t2⟩])) n') :: (d, accD w 0 z1 z2) :: (174, tabObj ps1') :: (181, tabObj ps2) :: (l, listO (linesV ls) k) :: (f, instObj 128 fd) :: (fd, fmtD w wd l x u1 u2 u3 u4 u5 u6 v1 v2 v3 v4) :: (T, tupO [.str "" t1, .str "." t2]) :: news) → x < T → AllLt T news → TabTwo posLen ps1' → AllBare s'.gens → s'.os = s.os → Q .none s') :
   wpAny (model PySem.Challenge.rw_tc0050_01.row.prog w) (ktrTop dp un gd cn cs L a ccd cl outer) (call (.ref 125) [.ref f, .str "" t1, .str "." t2]) Q E s := by
  w_strict (repeat' (first | ((with_reducible refine Mine.Stop.un ?_); (first | with_reducible (first | (k_here; (with_reducible show wpAny _ _ (call (Value.ref 179) _) _ _ _); k_dflt (refine' Mine.len_snoc ?B ?F ?X ?T ?hk ?hdp ?hu ?G ?N ?hx ?hd ?U ?hq ?hT ?hxg ?hdg ?hps ?hn ?hdot ?_; (case B => k_asm); (case F => k_asm); (case X => k_asm); (case T => k_asm); (case hk => first | assumption | exact rfl); (case hdp => ((try simp only [depth_under_make, depth_under_kw, depth_in1, depth_deeper, depth_caller, units_in1, units_deeper, Around.mark_units, units_caller]); (try dsimp only [ktrTop]); omega)); (case hu => ((try simp only [depth_under_make, depth_under_kw, depth_in1, depth_deeper, depth_caller, units_in1, units_deeper, Around.mark_units, units_caller]); (try dsimp only [ktrTop]); omega)); (case G => assumption); (case N => k_asm); (case hx => k_mem); (case hd => k_mem); (case U => k_updF); (case hq => (intro q hq; (repeat (first | exact (by assumption : ∀ q ∈ _, _ ∈ _) q hq | refine List.Mem.tail _ ?_)))); (case hT => k_mem); (case hxg => (intro o; k_mem)); (case hdg => (intro o; k_mem)); (case hps => assumption); (case hn => first | assumption | omega | (simp only [List.length_append, List.length_map, List.length_cons, List.length_nil]; omega)); (case hdot => assumption); intro t' s' ps' F' N' hps' G' os')) | (k_here; (with_reducible show wpAny _ _ (call (Value.ref 156) _) _ _ _); k_dflt (refine' Mine.push_spec ?B ?F ?X ?T ?hk ?hdp ?hu ?N ?hz ?hxd ?o1 ?o2 ?_; (case B => k_asm); (case F => k_asm); (case X => k_asm); (case T => k_asm); (case hk => first | assumption | exact rfl); (case hdp => ((try simp only [depth_under_make, depth_under_kw, depth_in1, depth_deeper, depth_caller, units_in1, units_deeper, Around.mark_units, units_caller]); (try dsimp only [ktrTop]); omega)); (case hu => ((try simp only [depth_under_make, depth_under_kw, depth_in1, depth_deeper, depth_caller, units_in1, units_deeper, Around.mark_units, units_caller]); (try dsimp only [ktrTop]); omega)); (case N => assumption); (case hz => first | assumption | omega | (simp only [List.length_append, List.length_map, List.length_cons, List.length_nil]; omega)); (case hxd => omega); (case o1 => ((repeat refine Mine.sep_cons (by omega) ?_); first | assumption | exact Mine.sep_nil | (rename AllLt _ _ => hA9; exact Mine.ne_of_allLt hA9 (by omega)))); (case o2 => ((repeat refine Mine.sep_cons (by omega) ?_); first | assumption | exact Mine.sep_nil | (rename AllLt _ _ => hA9; exact Mine.ne_of_allLt hA9 (by omega)))); intro T' h' tk' F' N' a1 a2 a3; (try k_lt a3); replace N' := Mine.rot5 N')) | (k_here; k_dflt (refine wpAny_call ?_; (refine' code_def ?k1 ?k2 ?k3 ?k4 ?k5 ?kA ?kF ?kK ?k6 ?k7 ?k8 ?k9 ?kB ?_ ?c2 ?c3 ?c4 ?c5; (case kA => exact rfl); (case kF => exact rfl); (case kK => first | assumption | exact rfl); (case k1 => k_asm); (case k2 => k_asm); (case k3 => k_asm); (case k4 => k_asm); (case k5 => k_asm); (case k6 => k_is); (case k7 => k_is); (case k8 => k_room); (case k9 => first | exact BindsTo.of_eq rfl | exact binds_K (by k_in) rfl (by k_is) rfl rfl rfl); (case c5 => decide); (case kB => exact locs rfl); (case c2 => exact rfl); (case c3 => exact rfl); (case c4 => exact rfl); k_whole; intro g' L' h' FG' F' N' B' X' T'; (try dsimp only); (try k_lift B'); (try k_fold)))) | (k_here; k_dflt (first | (refine' Mine.am_fnK ?k1 ?k2 ?k3 ?k4 ?k5 ?k6 ?k7 ?k8 ?_; (case k1 => k_asm); (case k2 => k_asm); (case k3 => k_inst); (case k4 => k_is); (case k5 => k_is); (case k6 => k_is); (case k7 => k_is); (case k8 => k_get); k_whole) | (refine' Mine.am_biK ?k1 ?k2 ?k3 ?k4 ?k5 ?k6 ?k7 ?k8 ?_; (case k1 => k_asm); (case k2 => k_asm); (case k3 => k_inst); (case k4 => k_is); (case k5 => k_is); (case k6 => k_is); (case k7 => first | exact PySem.F.type_list_append | exact PySem.F.type_list_pop); (case k8 => k_get); k_whole)))) | (have ns9 : Mine.NoStop := trivial; walk1; (all_goals (try clear ns9))))) | (k_unfold; (try dsimp only)) | (k_end; wrow_close) | walk1 | (dsimp only; walk1) | (leave1; walk_say "STEP leave1"; try dsimp only) | fail "no step"))
  · rename News h₀ L _ _ => kN9
    have e9 := fun n => partsV_snoc qs ⟨n, "", t1, ".", t2⟩
    dsimp only at e9
    simp only [e9] at kN9
    exact hret _ _ _ _ (by assumption) (by (refine Mine.news_sub (by assumption) ?_; repeat (first | exact Mine.subs_refl | exact Mine.subs_nil | (refine Mine.subs_cons ?_ ?_; (focus k_mem)) | refine Mine.subs_skip ?_))) (by omega) (by first | exact (by assumption : _ ∧ _ ∧ _ ∧ _ ∧ _ ∧ AllLt _ news).2.2.2.2.2) (by assumption) (by assumption) (by first | rfl | assumption | exact Eq.trans (by assumption) (by assumption))
theorem append_over {w : World} {dp un : Nat} {gd : Option (List Code)} {cn : Str} {cs : Scope} {a : Addr} {ccd : Value} {cl : List (Str × Addr)} {outer : List Env} {A₀ : Around} {base h₀ : Heap} {L : Addr} {m : Str → Option Value} {s : Shared} {Q : Value → Shared → Prop} {E : Value → Shared → Prop}
   {mean : ExcName → Option Value} {mg mb : Str → Option Value} {news : List (Addr × Obj)} {pg : Program} {loose : List Str}
   (B : Below A₀ base outer h₀) (F : Fr h₀ L s.heap m) (X : (KN w.params).In h₀) (T : Top pg loose mean mg mb h₀) (hk : cs.kind = .function) (hdp : dp + 40 < 1000) (hu : un + 400 < 9900) {wd : Int} {f fd l x d n k : Nat} {z1 z2 u1 u2 u3 u4 u5 u6 v1 v2 v3 v4 t1 t2 : Tok} {ls : List (Str × Tok)} {qs : List Part} {ps1 ps2 : Array Value} (G : AllBare s.gens)
   (N : News h₀ L s.heap ((x, accO d (partsV qs) n) :: (d, accD w 0 z1 z2) :: (174, tabObj ps1) :: (181, tabObj ps2) :: (l, listO (linesV ls) k) :: (f, instObj 128 fd) :: (fd, fmtD w wd l x u1 u2 u3 u4 u5 u6 v1 v2 v3 v4) :: news))
   (p1 : TabTwo posLen ps1) (p2 : TabTwo posStr ps2) (hqs : ∀ q ∈ qs, (q.at_, q.obj) ∈ news)
   (ox : ∀ p ∈ news, p.1 ≠ x) (od : ∀ p ∈ news, p.1 ≠ d) (ol : ∀ p ∈ news, p.1 ≠ l) (o1 : ∀ p ∈ news, p.1 ≠ 174) (o2 : ∀ p ∈ news, p.1 ≠ 181)
   (a1 : 181 < fd) (a2 : fd < f) (a3 : f < l) (a4 : l < d) (a5 : d < x) (hn : qs.length ≤ 100) (hls : ls.length ≤ 100) (hdot : Dots qs)
   (hover : wd ≤ (qs.length : Int)) (hne : 0 < qs.length)
   (hret : ∀ s' ps1' ps2' n' k' t z3 T, Fr h₀ L s'.heap m → News h₀ L s'.heap ((x, accO d [.ref T] n') :: (d, accD w 0 z1 z3) :: (174, tabObj ps1') :: (181, tabObj ps2') :: (l, listO (linesV (ls ++ [(dotsS qs.length, t)])) k') :: (f, instObj 128 fd) :: (fd, fmtD w wd l x u1 u2 u3 u4 u5 u6 v1 v2 v3 v4) :: (T, tupO [.str "" t1, .str "." t2]) :: news) → x < T → AllLt T news → TabTwo posLen ps1' → TabTwo posStr ps2' → AllBare s'.gens → s'.os = s.os → Q .none s') :
   wpAny (model PySem.Challenge.rw_tc0050_01.row.prog w) (ktrTop dp un gd cn cs L a ccd cl outer) (call (.ref 125) [.ref f, .str "" t1, .str "." t2]) Q E s := by
  obtain ⟨q0, hq0, hl0⟩ : ∃ q0 ∈ qs, qs[qs.length - 1]? = some q0 := by
    have h1 : qs.length - 1 < qs.length := by omega
    exact ⟨_, List.getElem_mem h1, List.getElem?_eq_getElem h1⟩
  obtain ⟨A0, f0, y1, s0, y2⟩ := q0
  obtain ⟨e1, e2⟩ := hdot _ hq0
  dsimp only at e1 e2
  subst e1 e2
  have hm0 : (A0, tupO [.str "" y1, .str "." y2]) ∈ news := hqs _ hq0
  have hlV : (partsV qs).length = qs.length := by simp
  have eL : ∀ T : Nat, (((partsV qs ++ [Value.ref T]).length : Int) - 1) = ((partsV qs).length : Int) := by intro T; simp
  have hidx : ∀ T : Nat, (partsV qs ++ [Value.ref T])[(((partsV qs).length : Int) - 1).toNat]? = some (.ref A0) := by
    intro T
    have h2 : (((partsV qs).length : Int) - 1).toNat = qs.length - 1 := by omega
    rw [h2, List.getElem?_append_left (by omega), List.getElem?_map, hl0]
    rfl
  w_strict (repeat' (first | ((with_reducible refine Mine.Stop.un ?_); (first | with_reducible (first | (k_here; (with_reducible show wpAny _ _ (call (Value.ref 194) [_, _]) _ _ _); k_dflt (refine' Mine.reset_list_spec ?B ?F ?X ?T ?hk ?hdp ?hu ?N ?hz ?hz2 ?hxd ?hl1 ?hl2 ?o1 ?o2 ?_; (case B => k_asm); (case F => k_asm); (case X => k_asm); (case T => k_asm); (case hk => first | assumption | exact rfl); (case hdp => ((try simp only [depth_under_make, depth_under_kw, depth_in1, depth_deeper, depth_caller, units_in1, units_deeper, Around.mark_units, units_caller]); (try dsimp only [ktrTop]); omega)); (case hu => ((try simp only [depth_under_make, depth_under_kw, depth_in1, depth_deeper, depth_caller, units_in1, units_deeper, Around.mark_units, units_caller]); (try dsimp only [ktrTop]); omega)); (case N => exact Mine.rot5' (by assumption)); (case hz => first | assumption | omega | (simp only [List.length_append, List.length_map, List.length_cons, List.length_nil]; omega)); (case hz2 => first | assumption | omega | (simp only [List.length_append, List.length_map, List.length_cons, List.length_nil]; omega)); (case hxd => omega); (case hl1 => omega); (case hl2 => omega); (case o1 => ((repeat refine Mine.sep_cons (by omega) ?_); first | assumption | exact Mine.sep_nil | (rename AllLt _ _ => hA9; exact Mine.ne_of_allLt hA9 (by omega)))); (case o2 => ((repeat refine Mine.sep_cons (by omega) ?_); first | assumption | exact Mine.sep_nil | (rename AllLt _ _ => hA9; exact Mine.ne_of_allLt hA9 (by omega)))); intro h' tk' n' u3' F' N')) | (k_here; (with_reducible show wpAny _ _ (call (Value.ref 164) _) _ _ _); k_dflt (refine' Mine.pop_from_spec ?B ?F ?X ?T ?hk ?hdp ?hu ?N ?hz ?hxd ?o1 ?o2 ?_; (case B => k_asm); (case F => k_asm); (case X => k_asm); (case T => k_asm); (case hk => first | assumption | exact rfl); (case hdp => ((try simp only [depth_under_make, depth_under_kw, depth_in1, depth_deeper, depth_caller, units_in1, units_deeper, Around.mark_units, units_caller]); (try dsimp only [ktrTop]); omega)); (case hu => ((try simp only [depth_under_make, depth_under_kw, depth_in1, depth_deeper, depth_caller, units_in1, units_deeper, Around.mark_units, units_caller]); (try dsimp only [ktrTop]); omega)); (case N => first | assumption | exact Mine.news_tail (by assumption) | exact Mine.news_tail (Mine.news_tail (by assumption))); (case hz => first | assumption | omega | (simp only [List.length_append, List.length_map, List.length_cons, List.length_nil]; omega)); (case hxd => omega); (case o1 => ((repeat refine Mine.sep_cons (by omega) ?_); first | assumption | exact Mine.sep_nil | (rename AllLt _ _ => hA9; exact Mine.ne_of_allLt hA9 (by omega)))); (case o2 => ((repeat refine Mine.sep_cons (by omega) ?_); first | assumption | exact Mine.sep_nil | (rename AllLt _ _ => hA9; exact Mine.ne_of_allLt hA9 (by omega)))); intro h' tk' l' n' F' N' a1 a2 a3; clear a3; replace N' := Mine.rot5 N')) | (k_here; (with_reducible show wpAny _ _ (subscriptTail _ _ (Value.ref _) (Value.int _ _)) _ _ _); (try dsimp only); k_dflt (refine' Mine.k_index ?k1 ?k2 ?k3 ?k4 ?k5 ?k6 ?h0 ?h1 ?hv ?_; (case k1 => k_asm); (case k2 => k_asm); (case k3 => k_inst); (case k4 => exact Mine.over212 _); (case k5 => kernel_rfl); (case k6 => k_is); (case h0 => omega); (case h1 => omega); (case hv => first | assumption | (rename ∀ _ : Nat, _ = some _ => hv9; exact hv9 _)); k_whole)) | (k_here; (with_reducible show wpAny _ _ (call (Value.ref 186) _) _ _ _); k_dflt (refine' Mine.str_dots ?B ?F ?X ?T ?hk ?hdp ?hu ?G ?N ?hx ?hd ?U ?hq ?hxg ?hdg ?hps ?hn ?hdot ?_; (case B => k_asm); (case F => k_asm); (case X => k_asm); (case T => k_asm); (case hk => first | assumption | exact rfl); (case hdp => ((try simp only [depth_under_make, depth_under_kw, depth_in1, depth_deeper, depth_caller, units_in1, units_deeper, Around.mark_units, units_caller]); (try dsimp only [ktrTop]); omega)); (case hu => ((try simp only [depth_under_make, depth_under_kw, depth_in1, depth_deeper, depth_caller, units_in1, units_deeper, Around.mark_units, units_caller]); (try dsimp only [ktrTop]); omega)); (case G => assumption); (case N => k_asm); (case hx => k_mem); (case hd => k_mem); (case U => k_updF); (case hq => (intro q hq; (repeat (first | exact (by assumption : ∀ q ∈ _, _ ∈ _) q hq | refine List.Mem.tail _ ?_)))); (case hxg => (intro o; k_mem)); (case hdg => (intro o; k_mem)); (case hps => assumption); (case hn => first | assumption | omega | (simp only [List.length_append, List.length_map, List.length_cons, List.length_nil]; omega)); (case hdot => assumption); intro t' s' ps' F' N' hps' G' os')) | (k_here; (with_reducible show wpAny _ _ (call (Value.ref 179) _) _ _ _); k_dflt (refine' Mine.len_snoc ?B ?F ?X ?T ?hk ?hdp ?hu ?G ?N ?hx ?hd ?U ?hq ?hT ?hxg ?hdg ?hps ?hn ?hdot ?_; (case B => k_asm); (case F => k_asm); (case X => k_asm); (case T => k_asm); (case hk => first | assumption | exact rfl); (case hdp => ((try simp only [depth_under_make, depth_under_kw, depth_in1, depth_deeper, depth_caller, units_in1, units_deeper, Around.mark_units, units_caller]); (try dsimp only [ktrTop]); omega)); (case hu => ((try simp only [depth_under_make, depth_under_kw, depth_in1, depth_deeper, depth_caller, units_in1, units_deeper, Around.mark_units, units_caller]); (try dsimp only [ktrTop]); omega)); (case G => assumption); (case N => k_asm); (case hx => k_mem); (case hd => k_mem); (case U => k_updF); (case hq => (intro q hq; (repeat (first | exact (by assumption : ∀ q ∈ _, _ ∈ _) q hq | refine List.Mem.tail _ ?_)))); (case hT => k_mem); (case hxg => (intro o; k_mem)); (case hdg => (intro o; k_mem)); (case hps => assumption); (case hn => first | assumption | omega | (simp only [List.length_append, List.length_map, List.length_cons, List.length_nil]; omega)); (case hdot => assumption); intro t' s' ps' F' N' hps' G' os')) | (k_here; (with_reducible show wpAny _ _ (call (Value.ref 156) _) _ _ _); k_dflt (refine' Mine.push_spec ?B ?F ?X ?T ?hk ?hdp ?hu ?N ?hz ?hxd ?o1 ?o2 ?_; (case B => k_asm); (case F => k_asm); (case X => k_asm); (case T => k_asm); (case hk => first | assumption | exact rfl); (case hdp => ((try simp only [depth_under_make, depth_under_kw, depth_in1, depth_deeper, depth_caller, units_in1, units_deeper, Around.mark_units, units_caller]); (try dsimp only [ktrTop]); omega)); (case hu => ((try simp only [depth_under_make, depth_under_kw, depth_in1, depth_deeper, depth_caller, units_in1, units_deeper, Around.mark_units, units_caller]); (try dsimp only [ktrTop]); omega)); (case N => assumption); (case hz => first | assumption | omega | (simp only [List.length_append, List.length_map, List.length_cons, List.length_nil]; omega)); (case hxd => omega); (case o1 => ((repeat refine Mine.sep_cons (by omega) ?_); first | assumption | exact Mine.sep_nil | (rename AllLt _ _ => hA9; exact Mine.ne_of_allLt hA9 (by omega)))); (case o2 => ((repeat refine Mine.sep_cons (by omega) ?_); first | assumption | exact Mine.sep_nil | (rename AllLt _ _ => hA9; exact Mine.ne_of_allLt hA9 (by omega)))); intro T' h' tk' F' N' a1 a2 a3; (try k_lt a3); replace N' := Mine.rot5 N')) | (k_here; (with_reducible show wpAny _ _ (call (Value.ref 209) _) _ _ _); k_dflt (refine' Mine.count_spec ?B ?F ?X ?T ?hk ?hdp ?hu ?N ?hx ?hd ?_; (case B => k_asm); (case F => k_asm); (case X => k_asm); (case T => k_asm); (case hk => first | assumption | exact rfl); (case hdp => ((try simp only [depth_under_make, depth_under_kw, depth_in1, depth_deeper, depth_caller, units_in1, units_deeper, Around.mark_units, units_caller]); (try dsimp only [ktrTop]); omega)); (case hu => ((try simp only [depth_under_make, depth_under_kw, depth_in1, depth_deeper, depth_caller, units_in1, units_deeper, Around.mark_units, units_caller]); (try dsimp only [ktrTop]); omega)); (case N => k_asm); (case hx => k_mem); (case hd => k_mem); intro h' t' tk' F' N')) | (k_here; (with_reducible show wpAny _ _ (call (Value.type "str") [Value.ref _]) _ _ _); k_dflt (refine' kso_call ?k1 ?k2 ?k3 ?k4 ?k5 ?_; (case k1 => (show _ < 9900; ((try simp only [depth_under_make, depth_under_kw, depth_in1, depth_deeper, depth_caller, units_in1, units_deeper, Around.mark_units, units_caller]); (try dsimp only [ktrTop]); omega))); (case k2 => k_in); (case k3 => k_inst); (case k4 => k_is); (case k5 => k_is); k_whole)) | (k_here; k_dflt (refine wpAny_call ?_; (refine' code_def ?k1 ?k2 ?k3 ?k4 ?k5 ?kA ?kF ?kK ?k6 ?k7 ?k8 ?k9 ?kB ?_ ?c2 ?c3 ?c4 ?c5; (case kA => exact rfl); (case kF => exact rfl); (case kK => first | assumption | exact rfl); (case k1 => k_asm); (case k2 => k_asm); (case k3 => k_asm); (case k4 => k_asm); (case k5 => k_asm); (case k6 => k_is); (case k7 => k_is); (case k8 => k_room); (case k9 => first | exact BindsTo.of_eq rfl | exact binds_K (by k_in) rfl (by k_is) rfl rfl rfl); (case c5 => decide); (case kB => exact locs rfl); (case c2 => exact rfl); (case c3 => exact rfl); (case c4 => exact rfl); k_whole; intro g' L' h' FG' F' N' B' X' T'; (try dsimp only); (try k_lift B'); (try k_fold)))) | (k_here; k_dflt (first | (refine' Mine.am_fnK ?k1 ?k2 ?k3 ?k4 ?k5 ?k6 ?k7 ?k8 ?_; (case k1 => k_asm); (case k2 => k_asm); (case k3 => k_inst); (case k4 => k_is); (case k5 => k_is); (case k6 => k_is); (case k7 => k_is); (case k8 => k_get); k_whole) | (refine' Mine.am_biK ?k1 ?k2 ?k3 ?k4 ?k5 ?k6 ?k7 ?k8 ?_; (case k1 => k_asm); (case k2 => k_asm); (case k3 => k_inst); (case k4 => k_is); (case k5 => k_is); (case k6 => k_is); (case k7 => first | exact PySem.F.type_list_append | exact PySem.F.type_list_pop); (case k8 => k_get); k_whole)))) | (have ns9 : Mine.NoStop := trivial; walk1; (all_goals (try clear ns9))))) | (k_unfold; (try dsimp only)) | (k_end; wrow_close) | walk1 | (dsimp only; walk1) | (leave1; walk_say "STEP leave1"; try dsimp only) | fail "no step"))
  refine For_led (by assumption) rfl rfl ?_
  w_strict (repeat' (first | ((with_reducible refine Mine.Stop.un ?_); (first | with_reducible (first | (k_here; (with_reducible show wpAny _ _ (call (Value.ref 194) [_, _]) _ _ _); k_dflt (refine' Mine.reset_list_spec ?B ?F ?X ?T ?hk ?hdp ?hu ?N ?hz ?hz2 ?hxd ?hl1 ?hl2 ?o1 ?o2 ?_; (case B => k_asm); (case F => k_asm); (case X => k_asm); (case T => k_asm); (case hk => first | assumption | exact rfl); (case hdp => ((try simp only [depth_under_make, depth_under_kw, depth_in1, depth_deeper, depth_caller, units_in1, units_deeper, Around.mark_units, units_caller]); (try dsimp only [ktrTop]); omega)); (case hu => ((try simp only [depth_under_make, depth_under_kw, depth_in1, depth_deeper, depth_caller, units_in1, units_deeper, Around.mark_units, units_caller]); (try dsimp only [ktrTop]); omega)); (case N => exact Mine.rot5' (by assumption)); (case hz => first | assumption | omega | (simp only [List.length_append, List.length_map, List.length_cons, List.length_nil]; omega)); (case hz2 => first | assumption | omega | (simp only [List.length_append, List.length_map, List.length_cons, List.length_nil]; omega)); (case hxd => omega); (case hl1 => omega); (case hl2 => omega); (case o1 => ((repeat refine Mine.sep_cons (by omega) ?_); first | assumption | exact Mine.sep_nil | (rename AllLt _ _ => hA9; exact Mine.ne_of_allLt hA9 (by omega)))); (case o2 => ((repeat refine Mine.sep_cons (by omega) ?_); first | assumption | exact Mine.sep_nil | (rename AllLt _ _ => hA9; exact Mine.ne_of_allLt hA9 (by omega)))); intro h' tk' n' u3' F' N')) | (k_here; (with_reducible show wpAny _ _ (call (Value.ref 164) _) _ _ _); k_dflt (refine' Mine.pop_from_spec ?B ?F ?X ?T ?hk ?hdp ?hu ?N ?hz ?hxd ?o1 ?o2 ?_; (case B => k_asm); (case F => k_asm); (case X => k_asm); (case T => k_asm); (case hk => first | assumption | exact rfl); (case hdp => ((try simp only [depth_under_make, depth_under_kw, depth_in1, depth_deeper, depth_caller, units_in1, units_deeper, Around.mark_units, units_caller]); (try dsimp only [ktrTop]); omega)); (case hu => ((try simp only [depth_under_make, depth_under_kw, depth_in1, depth_deeper, depth_caller, units_in1, units_deeper, Around.mark_units, units_caller]); (try dsimp only [ktrTop]); omega)); (case N => first | assumption | exact Mine.news_tail (by assumption) | exact Mine.news_tail (Mine.news_tail (by assumption))); (case hz => first | assumption | omega | (simp only [List.length_append, List.length_map, List.length_cons, List.length_nil]; omega)); (case hxd => omega); (case o1 => ((repeat refine Mine.sep_cons (by omega) ?_); first | assumption | exact Mine.sep_nil | (rename AllLt _ _ => hA9; exact Mine.ne_of_allLt hA9 (by omega)))); (case o2 => ((repeat refine Mine.sep_cons (by omega) ?_); first | assumption | exact Mine.sep_nil | (rename AllLt _ _ => hA9; exact Mine.ne_of_allLt hA9 (by omega)))); intro h' tk' l' n' F' N' a1 a2 a3; clear a3; replace N' := Mine.rot5 N')) | (k_here; (with_reducible show wpAny _ _ (subscriptTail _ _ (Value.ref _) (Value.int _ _)) _ _ _); (try dsimp only); k_dflt (refine' Mine.k_index ?k1 ?k2 ?k3 ?k4 ?k5 ?k6 ?h0 ?h1 ?hv ?_; (case k1 => k_asm); (case k2 => k_asm); (case k3 => k_inst); (case k4 => exact Mine.over212 _); (case k5 => kernel_rfl); (case k6 => k_is); (case h0 => omega); (case h1 => omega); (case hv => first | assumption | (rename ∀ _ : Nat, _ = some _ => hv9; exact hv9 _)); k_whole)) | (k_here; (with_reducible show wpAny _ _ (call (Value.ref 186) _) _ _ _); k_dflt (refine' Mine.str_dots ?B ?F ?X ?T ?hk ?hdp ?hu ?G ?N ?hx ?hd ?U ?hq ?hxg ?hdg ?hps ?hn ?hdot ?_; (case B => k_asm); (case F => k_asm); (case X => k_asm); (case T => k_asm); (case hk => first | assumption | exact rfl); (case hdp => ((try simp only [depth_under_make, depth_under_kw, depth_in1, depth_deeper, depth_caller, units_in1, units_deeper, Around.mark_units, units_caller]); (try dsimp only [ktrTop]); omega)); (case hu => ((try simp only [depth_under_make, depth_under_kw, depth_in1, depth_deeper, depth_caller, units_in1, units_deeper, Around.mark_units, units_caller]); (try dsimp only [ktrTop]); omega)); (case G => assumption); (case N => k_asm); (case hx => k_mem); (case hd => k_mem); (case U => k_updF); (case hq => (intro q hq; (repeat (first | exact (by assumption : ∀ q ∈ _, _ ∈ _) q hq | refine List.Mem.tail _ ?_)))); (case hxg => (intro o; k_mem)); (case hdg => (intro o; k_mem)); (case hps => assumption); (case hn => first | assumption | omega | (simp only [List.length_append, List.length_map, List.length_cons, List.length_nil]; omega)); (case hdot => assumption); intro t' s' ps' F' N' hps' G' os')) | (k_here; (with_reducible show wpAny _ _ (call (Value.ref 179) _) _ _ _); k_dflt (refine' Mine.len_snoc ?B ?F ?X ?T ?hk ?hdp ?hu ?G ?N ?hx ?hd ?U ?hq ?hT ?hxg ?hdg ?hps ?hn ?hdot ?_; (case B => k_asm); (case F => k_asm); (case X => k_asm); (case T => k_asm); (case hk => first | assumption | exact rfl); (case hdp => ((try simp only [depth_under_make, depth_under_kw, depth_in1, depth_deeper, depth_caller, units_in1, units_deeper, Around.mark_units, units_caller]); (try dsimp only [ktrTop]); omega)); (case hu => ((try simp only [depth_under_make, depth_under_kw, depth_in1, depth_deeper, depth_caller, units_in1, units_deeper, Around.mark_units, units_caller]); (try dsimp only [ktrTop]); omega)); (case G => assumption); (case N => k_asm); (case hx => k_mem); (case hd => k_mem); (case U => k_updF); (case hq => (intro q hq; (repeat (first | exact (by assumption : ∀ q ∈ _, _ ∈ _) q hq | refine List.Mem.tail _ ?_)))); (case hT => k_mem); (case hxg => (intro o; k_mem)); (case hdg => (intro o; k_mem)); (case hps => assumption); (case hn => first | assumption | omega | (simp only [List.length_append, List.length_map, List.length_cons, List.length_nil]; omega)); (case hdot => assumption); intro t' s' ps' F' N' hps' G' os')) | (k_here; (with_reducible show wpAny _ _ (call (Value.ref 156) _) _ _ _); k_dflt (refine' Mine.push_spec ?B ?F ?X ?T ?hk ?hdp ?hu ?N ?hz ?hxd ?o1 ?o2 ?_; (case B => k_asm); (case F => k_asm); (case X => k_asm); (case T => k_asm); (case hk => first | assumption | exact rfl); (case hdp => ((try simp only [depth_under_make, depth_under_kw, depth_in1, depth_deeper, depth_caller, units_in1, units_deeper, Around.mark_units, units_caller]); (try dsimp only [ktrTop]); omega)); (case hu => ((try simp only [depth_under_make, depth_under_kw, depth_in1, depth_deeper, depth_caller, units_in1, units_deeper, Around.mark_units, units_caller]); (try dsimp only [ktrTop]); omega)); (case N => assumption); (case hz => first | assumption | omega | (simp only [List.length_append, List.length_map, List.length_cons, List.length_nil]; omega)); (case hxd => omega); (case o1 => ((repeat refine Mine.sep_cons (by omega) ?_); first | assumption | exact Mine.sep_nil | (rename AllLt _ _ => hA9; exact Mine.ne_of_allLt hA9 (by omega)))); (case o2 => ((repeat refine Mine.sep_cons (by omega) ?_); first | assumption | exact Mine.sep_nil | (rename AllLt _ _ => hA9; exact Mine.ne_of_allLt hA9 (by omega)))); intro T' h' tk' F' N' a1 a2 a3; (try k_lt a3); replace N' := Mine.rot5 N')) | (k_here; (with_reducible show wpAny _ _ (call (Value.ref 209) _) _ _ _); k_dflt (refine' Mine.count_spec ?B ?F ?X ?T ?hk ?hdp ?hu ?N ?hx ?hd ?_; (case B => k_asm); (case F => k_asm); (case X => k_asm); (case T => k_asm); (case hk => first | assumption | exact rfl); (case hdp => ((try simp only [depth_under_make, depth_under_kw, depth_in1, depth_deeper, depth_caller, units_in1, units_deeper, Around.mark_units, units_caller]); (try dsimp only [ktrTop]); omega)); (case hu => ((try simp only [depth_under_make, depth_under_kw, depth_in1, depth_deeper, depth_caller, units_in1, units_deeper, Around.mark_units, units_caller]); (try dsimp only [ktrTop]); omega)); (case N => k_asm); (case hx => k_mem); (case hd => k_mem); intro h' t' tk' F' N')) | (k_here; (with_reducible show wpAny _ _ (call (Value.type "str") [Value.ref _]) _ _ _); k_dflt (refine' kso_call ?k1 ?k2 ?k3 ?k4 ?k5 ?_; (case k1 => (show _ < 9900; ((try simp only [depth_under_make, depth_under_kw, depth_in1, depth_deeper, depth_caller, units_in1, units_deeper, Around.mark_units, units_caller]); (try dsimp only [ktrTop]); omega))); (case k2 => k_in); (case k3 => k_inst); (case k4 => k_is); (case k5 => k_is); k_whole)) | (k_here; k_dflt (refine wpAny_call ?_; (refine' code_def ?k1 ?k2 ?k3 ?k4 ?k5 ?kA ?kF ?kK ?k6 ?k7 ?k8 ?k9 ?kB ?_ ?c2 ?c3 ?c4 ?c5; (case kA => exact rfl); (case kF => exact rfl); (case kK => first | assumption | exact rfl); (case k1 => k_asm); (case k2 => k_asm); (case k3 => k_asm); (case k4 => k_asm); (case k5 => k_asm); (case k6 => k_is); (case k7 => k_is); (case k8 => k_room); (case k9 => first | exact BindsTo.of_eq rfl | exact binds_K (by k_in) rfl (by k_is) rfl rfl rfl); (case c5 => decide); (case kB => exact locs rfl); (case c2 => exact rfl); (case c3 => exact rfl); (case c4 => exact rfl); k_whole; intro g' L' h' FG' F' N' B' X' T'; (try dsimp only); (try k_lift B'); (try k_fold)))) | (k_here; k_dflt (first | (refine' Mine.am_fnK ?k1 ?k2 ?k3 ?k4 ?k5 ?k6 ?k7 ?k8 ?_; (case k1 => k_asm); (case k2 => k_asm); (case k3 => k_inst); (case k4 => k_is); (case k5 => k_is); (case k6 => k_is); (case k7 => k_is); (case k8 => k_get); k_whole) | (refine' Mine.am_biK ?k1 ?k2 ?k3 ?k4 ?k5 ?k6 ?k7 ?k8 ?_; (case k1 => k_asm); (case k2 => k_asm); (case k3 => k_inst); (case k4 => k_is); (case k5 => k_is); (case k6 => k_is); (case k7 => first | exact PySem.F.type_list_append | exact PySem.F.type_list_pop); (case k8 => k_get); k_whole)))) | (have ns9 : Mine.NoStop := trivial; walk1; (all_goals (try clear ns9))))) | (k_unfold; (try dsimp only)) | (k_end; wrow_close) | walk1 | (dsimp only; walk1) | (leave1; walk_say "STEP leave1"; try dsimp only) | fail "no step"))
  refine first_str (c := 46) rfl (by decide +kernel) (by decide +kernel) (by assumption) (by assumption) ?_
  intro I1 u9 io1 h9 tk9 lt9 F9 N9
  replace N9 := rot5 N9
  k_lt lt9
  w_strict (repeat' (first | ((with_reducible refine Mine.Stop.un ?_); (first | with_reducible (first | (k_here; (with_reducible show wpAny _ _ (call (Value.ref 194) [_, _]) _ _ _); k_dflt (refine' Mine.reset_list_spec ?B ?F ?X ?T ?hk ?hdp ?hu ?N ?hz ?hz2 ?hxd ?hl1 ?hl2 ?o1 ?o2 ?_; (case B => k_asm); (case F => k_asm); (case X => k_asm); (case T => k_asm); (case hk => first | assumption | exact rfl); (case hdp => ((try simp only [depth_under_make, depth_under_kw, depth_in1, depth_deeper, depth_caller, units_in1, units_deeper, Around.mark_units, units_caller]); (try dsimp only [ktrTop]); omega)); (case hu => ((try simp only [depth_under_make, depth_under_kw, depth_in1, depth_deeper, depth_caller, units_in1, units_deeper, Around.mark_units, units_caller]); (try dsimp only [ktrTop]); omega)); (case N => exact Mine.rot5' (by assumption)); (case hz => first | assumption | omega | (simp only [List.length_append, List.length_map, List.length_cons, List.length_nil]; omega)); (case hz2 => first | assumption | omega | (simp only [List.length_append, List.length_map, List.length_cons, List.length_nil]; omega)); (case hxd => omega); (case hl1 => omega); (case hl2 => omega); (case o1 => ((repeat refine Mine.sep_cons (by omega) ?_); first | assumption | exact Mine.sep_nil | (rename AllLt _ _ => hA9; exact Mine.ne_of_allLt hA9 (by omega)))); (case o2 => ((repeat refine Mine.sep_cons (by omega) ?_); first | assumption | exact Mine.sep_nil | (rename AllLt _ _ => hA9; exact Mine.ne_of_allLt hA9 (by omega)))); intro h' tk' n' u3' F' N')) | (k_here; (with_reducible show wpAny _ _ (call (Value.ref 164) _) _ _ _); k_dflt (refine' Mine.pop_from_spec ?B ?F ?X ?T ?hk ?hdp ?hu ?N ?hz ?hxd ?o1 ?o2 ?_; (case B => k_asm); (case F => k_asm); (case X => k_asm); (case T => k_asm); (case hk => first | assumption | exact rfl); (case hdp => ((try simp only [depth_under_make, depth_under_kw, depth_in1, depth_deeper, depth_caller, units_in1, units_deeper, Around.mark_units, units_caller]); (try dsimp only [ktrTop]); omega)); (case hu => ((try simp only [depth_under_make, depth_under_kw, depth_in1, depth_deeper, depth_caller, units_in1, units_deeper, Around.mark_units, units_caller]); (try dsimp only [ktrTop]); omega)); (case N => first | assumption | exact Mine.news_tail (by assumption) | exact Mine.news_tail (Mine.news_tail (by assumption))); (case hz => first | assumption | omega | (simp only [List.length_append, List.length_map, List.length_cons, List.length_nil]; omega)); (case hxd => omega); (case o1 => ((repeat refine Mine.sep_cons (by omega) ?_); first | assumption | exact Mine.sep_nil | (rename AllLt _ _ => hA9; exact Mine.ne_of_allLt hA9 (by omega)))); (case o2 => ((repeat refine Mine.sep_cons (by omega) ?_); first | assumption | exact Mine.sep_nil | (rename AllLt _ _ => hA9; exact Mine.ne_of_allLt hA9 (by omega)))); intro h' tk' l' n' F' N' a1 a2 a3; clear a3; replace N' := Mine.rot5 N')) | (k_here; (with_reducible show wpAny _ _ (subscriptTail _ _ (Value.ref _) (Value.int _ _)) _ _ _); (try dsimp only); k_dflt (refine' Mine.k_index ?k1 ?k2 ?k3 ?k4 ?k5 ?k6 ?h0 ?h1 ?hv ?_; (case k1 => k_asm); (case k2 => k_asm); (case k3 => k_inst); (case k4 => exact Mine.over212 _); (case k5 => kernel_rfl); (case k6 => k_is); (case h0 => omega); (case h1 => omega); (case hv => first | assumption | (rename ∀ _ : Nat, _ = some _ => hv9; exact hv9 _)); k_whole)) | (k_here; (with_reducible show wpAny _ _ (call (Value.ref 186) _) _ _ _); k_dflt (refine' Mine.str_dots ?B ?F ?X ?T ?hk ?hdp ?hu ?G ?N ?hx ?hd ?U ?hq ?hxg ?hdg ?hps ?hn ?hdot ?_; (case B => k_asm); (case F => k_asm); (case X => k_asm); (case T => k_asm); (case hk => first | assumption | exact rfl); (case hdp => ((try simp only [depth_under_make, depth_under_kw, depth_in1, depth_deeper, depth_caller, units_in1, units_deeper, Around.mark_units, units_caller]); (try dsimp only [ktrTop]); omega)); (case hu => ((try simp only [depth_under_make, depth_under_kw, depth_in1, depth_deeper, depth_caller, units_in1, units_deeper, Around.mark_units, units_caller]); (try dsimp only [ktrTop]); omega)); (case G => assumption); (case N => k_asm); (case hx => k_mem); (case hd => k_mem); (case U => k_updF); (case hq => (intro q hq; (repeat (first | exact (by assumption : ∀ q ∈ _, _ ∈ _) q hq | refine List.Mem.tail _ ?_)))); (case hxg => (intro o; k_mem)); (case hdg => (intro o; k_mem)); (case hps => assumption); (case hn => first | assumption | omega | (simp only [List.length_append, List.length_map, List.length_cons, List.length_nil]; omega)); (case hdot => assumption); intro t' s' ps' F' N' hps' G' os')) | (k_here; (with_reducible show wpAny _ _ (call (Value.ref 179) _) _ _ _); k_dflt (refine' Mine.len_snoc ?B ?F ?X ?T ?hk ?hdp ?hu ?G ?N ?hx ?hd ?U ?hq ?hT ?hxg ?hdg ?hps ?hn ?hdot ?_; (case B => k_asm); (case F => k_asm); (case X => k_asm); (case T => k_asm); (case hk => first | assumption | exact rfl); (case hdp => ((try simp only [depth_under_make, depth_under_kw, depth_in1, depth_deeper, depth_caller, units_in1, units_deeper, Around.mark_units, units_caller]); (try dsimp only [ktrTop]); omega)); (case hu => ((try simp only [depth_under_make, depth_under_kw, depth_in1, depth_deeper, depth_caller, units_in1, units_deeper, Around.mark_units, units_caller]); (try dsimp only [ktrTop]); omega)); (case G => assumption); (case N => k_asm); (case hx => k_mem); (case hd => k_mem); (case U => k_updF); (case hq => (intro q hq; (repeat (first | exact (by assumption : ∀ q ∈ _, _ ∈ _) q hq | refine List.Mem.tail _ ?_)))); (case hT => k_mem); (case hxg => (intro o; k_mem)); (case hdg => (intro o; k_mem)); (case hps => assumption); (case hn => first | assumption | omega | (simp only [List.length_append, List.length_map, List.length_cons, List.length_nil]; omega)); (case hdot => assumption); intro t' s' ps' F' N' hps' G' os')) | (k_here; (with_reducible show wpAny _ _ (call (Value.ref 156) _) _ _ _); k_dflt (refine' Mine.push_spec ?B ?F ?X ?T ?hk ?hdp ?hu ?N ?hz ?hxd ?o1 ?o2 ?_; (case B => k_asm); (case F => k_asm); (case X => k_asm); (case T => k_asm); (case hk => first | assumption | exact rfl); (case hdp => ((try simp only [depth_under_make, depth_under_kw, depth_in1, depth_deeper, depth_caller, units_in1, units_deeper, Around.mark_units, units_caller]); (try dsimp only [ktrTop]); omega)); (case hu => ((try simp only [depth_under_make, depth_under_kw, depth_in1, depth_deeper, depth_caller, units_in1, units_deeper, Around.mark_units, units_caller]); (try dsimp only [ktrTop]); omega)); (case N => assumption); (case hz => first | assumption | omega | (simp only [List.length_append, List.length_map, List.length_cons, List.length_nil]; omega)); (case hxd => omega); (case o1 => ((repeat refine Mine.sep_cons (by omega) ?_); first | assumption | exact Mine.sep_nil | (rename AllLt _ _ => hA9; exact Mine.ne_of_allLt hA9 (by omega)))); (case o2 => ((repeat refine Mine.sep_cons (by omega) ?_); first | assumption | exact Mine.sep_nil | (rename AllLt _ _ => hA9; exact Mine.ne_of_allLt hA9 (by omega)))); intro T' h' tk' F' N' a1 a2 a3; (try k_lt a3); replace N' := Mine.rot5 N')) | (k_here; (with_reducible show wpAny _ _ (call (Value.ref 209) _) _ _ _); k_dflt (refine' Mine.count_spec ?B ?F ?X ?T ?hk ?hdp ?hu ?N ?hx ?hd ?_; (case B => k_asm); (case F => k_asm); (case X => k_asm); (case T => k_asm); (case hk => first | assumption | exact rfl); (case hdp => ((try simp only [depth_under_make, depth_under_kw, depth_in1, depth_deeper, depth_caller, units_in1, units_deeper, Around.mark_units, units_caller]); (try dsimp only [ktrTop]); omega)); (case hu => ((try simp only [depth_under_make, depth_under_kw, depth_in1, depth_deeper, depth_caller, units_in1, units_deeper, Around.mark_units, units_caller]); (try dsimp only [ktrTop]); omega)); (case N => k_asm); (case hx => k_mem); (case hd => k_mem); intro h' t' tk' F' N')) | (k_here; (with_reducible show wpAny _ _ (call (Value.type "str") [Value.ref _]) _ _ _); k_dflt (refine' kso_call ?k1 ?k2 ?k3 ?k4 ?k5 ?_; (case k1 => (show _ < 9900; ((try simp only [depth_under_make, depth_under_kw, depth_in1, depth_deeper, depth_caller, units_in1, units_deeper, Around.mark_units, units_caller]); (try dsimp only [ktrTop]); omega))); (case k2 => k_in); (case k3 => k_inst); (case k4 => k_is); (case k5 => k_is); k_whole)) | (k_here; k_dflt (refine wpAny_call ?_; (refine' code_def ?k1 ?k2 ?k3 ?k4 ?k5 ?kA ?kF ?kK ?k6 ?k7 ?k8 ?k9 ?kB ?_ ?c2 ?c3 ?c4 ?c5; (case kA => exact rfl); (case kF => exact rfl); (case kK => first | assumption | exact rfl); (case k1 => k_asm); (case k2 => k_asm); (case k3 => k_asm); (case k4 => k_asm); (case k5 => k_asm); (case k6 => k_is); (case k7 => k_is); (case k8 => k_room); (case k9 => first | exact BindsTo.of_eq rfl | exact binds_K (by k_in) rfl (by k_is) rfl rfl rfl); (case c5 => decide); (case kB => exact locs rfl); (case c2 => exact rfl); (case c3 => exact rfl); (case c4 => exact rfl); k_whole; intro g' L' h' FG' F' N' B' X' T'; (try dsimp only); (try k_lift B'); (try k_fold)))) | (k_here; k_dflt (first | (refine' Mine.am_fnK ?k1 ?k2 ?k3 ?k4 ?k5 ?k6 ?k7 ?k8 ?_; (case k1 => k_asm); (case k2 => k_asm); (case k3 => k_inst); (case k4 => k_is); (case k5 => k_is); (case k6 => k_is); (case k7 => k_is); (case k8 => k_get); k_whole) | (refine' Mine.am_biK ?k1 ?k2 ?k3 ?k4 ?k5 ?k6 ?k7 ?k8 ?_; (case k1 => k_asm); (case k2 => k_asm); (case k3 => k_inst); (case k4 => k_is); (case k5 => k_is); (case k6 => k_is); (case k7 => first | exact PySem.F.type_list_append | exact PySem.F.type_list_pop); (case k8 => k_get); k_whole)))) | (have ns9 : Mine.NoStop := trivial; walk1; (all_goals (try clear ns9))))) | (k_unfold; (try dsimp only)) | (k_end; wrow_close) | walk1 | (dsimp only; walk1) | (leave1; walk_say "STEP leave1"; try dsimp only) | fail "no step"))
  refine For_led (by assumption) rfl rfl ?_
  w_strict (repeat' (first | ((with_reducible refine Mine.Stop.un ?_); (first | with_reducible (first | (k_here; (with_reducible show wpAny _ _ (call (Value.ref 194) [_, _]) _ _ _); k_dflt (refine' Mine.reset_list_spec ?B ?F ?X ?T ?hk ?hdp ?hu ?N ?hz ?hz2 ?hxd ?hl1 ?hl2 ?o1 ?o2 ?_; (case B => k_asm); (case F => k_asm); (case X => k_asm); (case T => k_asm); (case hk => first | assumption | exact rfl); (case hdp => ((try simp only [depth_under_make, depth_under_kw, depth_in1, depth_deeper, depth_caller, units_in1, units_deeper, Around.mark_units, units_caller]); (try dsimp only [ktrTop]); omega)); (case hu => ((try simp only [depth_under_make, depth_under_kw, depth_in1, depth_deeper, depth_caller, units_in1, units_deeper, Around.mark_units, units_caller]); (try dsimp only [ktrTop]); omega)); (case N => exact Mine.rot5' (by assumption)); (case hz => first | assumption | omega | (simp only [List.length_append, List.length_map, List.length_cons, List.length_nil]; omega)); (case hz2 => first | assumption | omega | (simp only [List.length_append, List.length_map, List.length_cons, List.length_nil]; omega)); (case hxd => omega); (case hl1 => omega); (case hl2 => omega); (case o1 => ((repeat refine Mine.sep_cons (by omega) ?_); first | assumption | exact Mine.sep_nil | (rename AllLt _ _ => hA9; exact Mine.ne_of_allLt hA9 (by omega)))); (case o2 => ((repeat refine Mine.sep_cons (by omega) ?_); first | assumption | exact Mine.sep_nil | (rename AllLt _ _ => hA9; exact Mine.ne_of_allLt hA9 (by omega)))); intro h' tk' n' u3' F' N')) | (k_here; (with_reducible show wpAny _ _ (call (Value.ref 164) _) _ _ _); k_dflt (refine' Mine.pop_from_spec ?B ?F ?X ?T ?hk ?hdp ?hu ?N ?hz ?hxd ?o1 ?o2 ?_; (case B => k_asm); (case F => k_asm); (case X => k_asm); (case T => k_asm); (case hk => first | assumption | exact rfl); (case hdp => ((try simp only [depth_under_make, depth_under_kw, depth_in1, depth_deeper, depth_caller, units_in1, units_deeper, Around.mark_units, units_caller]); (try dsimp only [ktrTop]); omega)); (case hu => ((try simp only [depth_under_make, depth_under_kw, depth_in1, depth_deeper, depth_caller, units_in1, units_deeper, Around.mark_units, units_caller]); (try dsimp only [ktrTop]); omega)); (case N => first | assumption | exact Mine.news_tail (by assumption) | exact Mine.news_tail (Mine.news_tail (by assumption))); (case hz => first | assumption | omega | (simp only [List.length_append, List.length_map, List.length_cons, List.length_nil]; omega)); (case hxd => omega); (case o1 => ((repeat refine Mine.sep_cons (by omega) ?_); first | assumption | exact Mine.sep_nil | (rename AllLt _ _ => hA9; exact Mine.ne_of_allLt hA9 (by omega)))); (case o2 => ((repeat refine Mine.sep_cons (by omega) ?_); first | assumption | exact Mine.sep_nil | (rename AllLt _ _ => hA9; exact Mine.ne_of_allLt hA9 (by omega)))); intro h' tk' l' n' F' N' a1 a2 a3; clear a3; replace N' := Mine.rot5 N')) | (k_here; (with_reducible show wpAny _ _ (subscriptTail _ _ (Value.ref _) (Value.int _ _)) _ _ _); (try dsimp only); k_dflt (refine' Mine.k_index ?k1 ?k2 ?k3 ?k4 ?k5 ?k6 ?h0 ?h1 ?hv ?_; (case k1 => k_asm); (case k2 => k_asm); (case k3 => k_inst); (case k4 => exact Mine.over212 _); (case k5 => kernel_rfl); (case k6 => k_is); (case h0 => omega); (case h1 => omega); (case hv => first | assumption | (rename ∀ _ : Nat, _ = some _ => hv9; exact hv9 _)); k_whole)) | (k_here; (with_reducible show wpAny _ _ (call (Value.ref 186) _) _ _ _); k_dflt (refine' Mine.str_dots ?B ?F ?X ?T ?hk ?hdp ?hu ?G ?N ?hx ?hd ?U ?hq ?hxg ?hdg ?hps ?hn ?hdot ?_; (case B => k_asm); (case F => k_asm); (case X => k_asm); (case T => k_asm); (case hk => first | assumption | exact rfl); (case hdp => ((try simp only [depth_under_make, depth_under_kw, depth_in1, depth_deeper, depth_caller, units_in1, units_deeper, Around.mark_units, units_caller]); (try dsimp only [ktrTop]); omega)); (case hu => ((try simp only [depth_under_make, depth_under_kw, depth_in1, depth_deeper, depth_caller, units_in1, units_deeper, Around.mark_units, units_caller]); (try dsimp only [ktrTop]); omega)); (case G => assumption); (case N => k_asm); (case hx => k_mem); (case hd => k_mem); (case U => k_updF); (case hq => (intro q hq; (repeat (first | exact (by assumption : ∀ q ∈ _, _ ∈ _) q hq | refine List.Mem.tail _ ?_)))); (case hxg => (intro o; k_mem)); (case hdg => (intro o; k_mem)); (case hps => assumption); (case hn => first | assumption | omega | (simp only [List.length_append, List.length_map, List.length_cons, List.length_nil]; omega)); (case hdot => assumption); intro t' s' ps' F' N' hps' G' os')) | (k_here; (with_reducible show wpAny _ _ (call (Value.ref 179) _) _ _ _); k_dflt (refine' Mine.len_snoc ?B ?F ?X ?T ?hk ?hdp ?hu ?G ?N ?hx ?hd ?U ?hq ?hT ?hxg ?hdg ?hps ?hn ?hdot ?_; (case B => k_asm); (case F => k_asm); (case X => k_asm); (case T => k_asm); (case hk => first | assumption | exact rfl); (case hdp => ((try simp only [depth_under_make, depth_under_kw, depth_in1, depth_deeper, depth_caller, units_in1, units_deeper, Around.mark_units, units_caller]); (try dsimp only [ktrTop]); omega)); (case hu => ((try simp only [depth_under_make, depth_under_kw, depth_in1, depth_deeper, depth_caller, units_in1, units_deeper, Around.mark_units, units_caller]); (try dsimp only [ktrTop]); omega)); (case G => assumption); (case N => k_asm); (case hx => k_mem); (case hd => k_mem); (case U => k_updF); (case hq => (intro q hq; (repeat (first | exact (by assumption : ∀ q ∈ _, _ ∈ _) q hq | refine List.Mem.tail _ ?_)))); (case hT => k_mem); (case hxg => (intro o; k_mem)); (case hdg => (intro o; k_mem)); (case hps => assumption); (case hn => first | assumption | omega | (simp only [List.length_append, List.length_map, List.length_cons, List.length_nil]; omega)); (case hdot => assumption); intro t' s' ps' F' N' hps' G' os')) | (k_here; (with_reducible show wpAny _ _ (call (Value.ref 156) _) _ _ _); k_dflt (refine' Mine.push_spec ?B ?F ?X ?T ?hk ?hdp ?hu ?N ?hz ?hxd ?o1 ?o2 ?_; (case B => k_asm); (case F => k_asm); (case X => k_asm); (case T => k_asm); (case hk => first | assumption | exact rfl); (case hdp => ((try simp only [depth_under_make, depth_under_kw, depth_in1, depth_deeper, depth_caller, units_in1, units_deeper, Around.mark_units, units_caller]); (try dsimp only [ktrTop]); omega)); (case hu => ((try simp only [depth_under_make, depth_under_kw, depth_in1, depth_deeper, depth_caller, units_in1, units_deeper, Around.mark_units, units_caller]); (try dsimp only [ktrTop]); omega)); (case N => assumption); (case hz => first | assumption | omega | (simp only [List.length_append, List.length_map, List.length_cons, List.length_nil]; omega)); (case hxd => omega); (case o1 => ((repeat refine Mine.sep_cons (by omega) ?_); first | assumption | exact Mine.sep_nil | (rename AllLt _ _ => hA9; exact Mine.ne_of_allLt hA9 (by omega)))); (case o2 => ((repeat refine Mine.sep_cons (by omega) ?_); first | assumption | exact Mine.sep_nil | (rename AllLt _ _ => hA9; exact Mine.ne_of_allLt hA9 (by omega)))); intro T' h' tk' F' N' a1 a2 a3; (try k_lt a3); replace N' := Mine.rot5 N')) | (k_here; (with_reducible show wpAny _ _ (call (Value.ref 209) _) _ _ _); k_dflt (refine' Mine.count_spec ?B ?F ?X ?T ?hk ?hdp ?hu ?N ?hx ?hd ?_; (case B => k_asm); (case F => k_asm); (case X => k_asm); (case T => k_asm); (case hk => first | assumption | exact rfl); (case hdp => ((try simp only [depth_under_make, depth_under_kw, depth_in1, depth_deeper, depth_caller, units_in1, units_deeper, Around.mark_units, units_caller]); (try dsimp only [ktrTop]); omega)); (case hu => ((try simp only [depth_under_make, depth_under_kw, depth_in1, depth_deeper, depth_caller, units_in1, units_deeper, Around.mark_units, units_caller]); (try dsimp only [ktrTop]); omega)); (case N => k_asm); (case hx => k_mem); (case hd => k_mem); intro h' t' tk' F' N')) | (k_here; (with_reducible show wpAny _ _ (call (Value.type "str") [Value.ref _]) _ _ _); k_dflt (refine' kso_call ?k1 ?k2 ?k3 ?k4 ?k5 ?_; (case k1 => (show _ < 9900; ((try simp only [depth_under_make, depth_under_kw, depth_in1, depth_deeper, depth_caller, units_in1, units_deeper, Around.mark_units, units_caller]); (try dsimp only [ktrTop]); omega))); (case k2 => k_in); (case k3 => k_inst); (case k4 => k_is); (case k5 => k_is); k_whole)) | (k_here; k_dflt (refine wpAny_call ?_; (refine' code_def ?k1 ?k2 ?k3 ?k4 ?k5 ?kA ?kF ?kK ?k6 ?k7 ?k8 ?k9 ?kB ?_ ?c2 ?c3 ?c4 ?c5; (case kA => exact rfl); (case kF => exact rfl); (case kK => first | assumption | exact rfl); (case k1 => k_asm); (case k2 => k_asm); (case k3 => k_asm); (case k4 => k_asm); (case k5 => k_asm); (case k6 => k_is); (case k7 => k_is); (case k8 => k_room); (case k9 => first | exact BindsTo.of_eq rfl | exact binds_K (by k_in) rfl (by k_is) rfl rfl rfl); (case c5 => decide); (case kB => exact locs rfl); (case c2 => exact rfl); (case c3 => exact rfl); (case c4 => exact rfl); k_whole; intro g' L' h' FG' F' N' B' X' T'; (try dsimp only); (try k_lift B'); (try k_fold)))) | (k_here; k_dflt (first | (refine' Mine.am_fnK ?k1 ?k2 ?k3 ?k4 ?k5 ?k6 ?k7 ?k8 ?_; (case k1 => k_asm); (case k2 => k_asm); (case k3 => k_inst); (case k4 => k_is); (case k5 => k_is); (case k6 => k_is); (case k7 => k_is); (case k8 => k_get); k_whole) | (refine' Mine.am_biK ?k1 ?k2 ?k3 ?k4 ?k5 ?k6 ?k7 ?k8 ?_; (case k1 => k_asm); (case k2 => k_asm); (case k3 => k_inst); (case k4 => k_is); (case k5 => k_is); (case k6 => k_is); (case k7 => first | exact PySem.F.type_list_append | exact PySem.F.type_list_pop); (case k8 => k_get); k_whole)))) | (have ns9 : Mine.NoStop := trivial; walk1; (all_goals (try clear ns9))))) | (k_unfold; (try dsimp only)) | (k_end; wrow_close) | walk1 | (dsimp only; walk1) | (leave1; walk_say "STEP leave1"; try dsimp only) | fail "no step"))
  rename IsRange _ _ _ _ _ _ _ _ => hr9
  rw [eL] at hr9
  refine first_range (n := (partsV qs).length) rfl hr9 (down_small (by omega)) down_size (by omega) (by assumption) (by assumption) ?_
  clear hr9
  intro I2 u8 io2 h8 tk8 lt8 F8 N8
  replace N8 := rot5 N8
  k_lt lt8
  w_strict (repeat' (first | ((with_reducible refine Mine.Stop.un ?_); (first | with_reducible (first | (k_here; (with_reducible show wpAny _ _ (call (Value.ref 194) [_, _]) _ _ _); k_dflt (refine' Mine.reset_list_spec ?B ?F ?X ?T ?hk ?hdp ?hu ?N ?hz ?hz2 ?hxd ?hl1 ?hl2 ?o1 ?o2 ?_; (case B => k_asm); (case F => k_asm); (case X => k_asm); (case T => k_asm); (case hk => first | assumption | exact rfl); (case hdp => ((try simp only [depth_under_make, depth_under_kw, depth_in1, depth_deeper, depth_caller, units_in1, units_deeper, Around.mark_units, units_caller]); (try dsimp only [ktrTop]); omega)); (case hu => ((try simp only [depth_under_make, depth_under_kw, depth_in1, depth_deeper, depth_caller, units_in1, units_deeper, Around.mark_units, units_caller]); (try dsimp only [ktrTop]); omega)); (case N => exact Mine.rot5' (by assumption)); (case hz => first | assumption | omega | (simp only [List.length_append, List.length_map, List.length_cons, List.length_nil]; omega)); (case hz2 => first | assumption | omega | (simp only [List.length_append, List.length_map, List.length_cons, List.length_nil]; omega)); (case hxd => omega); (case hl1 => omega); (case hl2 => omega); (case o1 => ((repeat refine Mine.sep_cons (by omega) ?_); first | assumption | exact Mine.sep_nil | (rename AllLt _ _ => hA9; exact Mine.ne_of_allLt hA9 (by omega)))); (case o2 => ((repeat refine Mine.sep_cons (by omega) ?_); first | assumption | exact Mine.sep_nil | (rename AllLt _ _ => hA9; exact Mine.ne_of_allLt hA9 (by omega)))); intro h' tk' n' u3' F' N')) | (k_here; (with_reducible show wpAny _ _ (call (Value.ref 164) _) _ _ _); k_dflt (refine' Mine.pop_from_spec ?B ?F ?X ?T ?hk ?hdp ?hu ?N ?hz ?hxd ?o1 ?o2 ?_; (case B => k_asm); (case F => k_asm); (case X => k_asm); (case T => k_asm); (case hk => first | assumption | exact rfl); (case hdp => ((try simp only [depth_under_make, depth_under_kw, depth_in1, depth_deeper, depth_caller, units_in1, units_deeper, Around.mark_units, units_caller]); (try dsimp only [ktrTop]); omega)); (case hu => ((try simp only [depth_under_make, depth_under_kw, depth_in1, depth_deeper, depth_caller, units_in1, units_deeper, Around.mark_units, units_caller]); (try dsimp only [ktrTop]); omega)); (case N => first | assumption | exact Mine.news_tail (by assumption) | exact Mine.news_tail (Mine.news_tail (by assumption))); (case hz => first | assumption | omega | (simp only [List.length_append, List.length_map, List.length_cons, List.length_nil]; omega)); (case hxd => omega); (case o1 => ((repeat refine Mine.sep_cons (by omega) ?_); first | assumption | exact Mine.sep_nil | (rename AllLt _ _ => hA9; exact Mine.ne_of_allLt hA9 (by omega)))); (case o2 => ((repeat refine Mine.sep_cons (by omega) ?_); first | assumption | exact Mine.sep_nil | (rename AllLt _ _ => hA9; exact Mine.ne_of_allLt hA9 (by omega)))); intro h' tk' l' n' F' N' a1 a2 a3; clear a3; replace N' := Mine.rot5 N')) | (k_here; (with_reducible show wpAny _ _ (subscriptTail _ _ (Value.ref _) (Value.int _ _)) _ _ _); (try dsimp only); k_dflt (refine' Mine.k_index ?k1 ?k2 ?k3 ?k4 ?k5 ?k6 ?h0 ?h1 ?hv ?_; (case k1 => k_asm); (case k2 => k_asm); (case k3 => k_inst); (case k4 => exact Mine.over212 _); (case k5 => kernel_rfl); (case k6 => k_is); (case h0 => omega); (case h1 => omega); (case hv => first | assumption | (rename ∀ _ : Nat, _ = some _ => hv9; exact hv9 _)); k_whole)) | (k_here; (with_reducible show wpAny _ _ (call (Value.ref 186) _) _ _ _); k_dflt (refine' Mine.str_dots ?B ?F ?X ?T ?hk ?hdp ?hu ?G ?N ?hx ?hd ?U ?hq ?hxg ?hdg ?hps ?hn ?hdot ?_; (case B => k_asm); (case F => k_asm); (case X => k_asm); (case T => k_asm); (case hk => first | assumption | exact rfl); (case hdp => ((try simp only [depth_under_make, depth_under_kw, depth_in1, depth_deeper, depth_caller, units_in1, units_deeper, Around.mark_units, units_caller]); (try dsimp only [ktrTop]); omega)); (case hu => ((try simp only [depth_under_make, depth_under_kw, depth_in1, depth_deeper, depth_caller, units_in1, units_deeper, Around.mark_units, units_caller]); (try dsimp only [ktrTop]); omega)); (case G => assumption); (case N => k_asm); (case hx => k_mem); (case hd => k_mem); (case U => k_updF); (case hq => (intro q hq; (repeat (first | exact (by assumption : ∀ q ∈ _, _ ∈ _) q hq | refine List.Mem.tail _ ?_)))); (case hxg => (intro o; k_mem)); (case hdg => (intro o; k_mem)); (case hps => assumption); (case hn => first | assumption | omega | (simp only [List.length_append, List.length_map, List.length_cons, List.length_nil]; omega)); (case hdot => assumption); intro t' s' ps' F' N' hps' G' os')) | (k_here; (with_reducible show wpAny _ _ (call (Value.ref 179) _) _ _ _); k_dflt (refine' Mine.len_snoc ?B ?F ?X ?T ?hk ?hdp ?hu ?G ?N ?hx ?hd ?U ?hq ?hT ?hxg ?hdg ?hps ?hn ?hdot ?_; (case B => k_asm); (case F => k_asm); (case X => k_asm); (case T => k_asm); (case hk => first | assumption | exact rfl); (case hdp => ((try simp only [depth_under_make, depth_under_kw, depth_in1, depth_deeper, depth_caller, units_in1, units_deeper, Around.mark_units, units_caller]); (try dsimp only [ktrTop]); omega)); (case hu => ((try simp only [depth_under_make, depth_under_kw, depth_in1, depth_deeper, depth_caller, units_in1, units_deeper, Around.mark_units, units_caller]); (try dsimp only [ktrTop]); omega)); (case G => assumption); (case N => k_asm); (case hx => k_mem); (case hd => k_mem); (case U => k_updF); (case hq => (intro q hq; (repeat (first | exact (by assumption : ∀ q ∈ _, _ ∈ _) q hq | refine List.Mem.tail _ ?_)))); (case hT => k_mem); (case hxg => (intro o; k_mem)); (case hdg => (intro o; k_mem)); (case hps => assumption); (case hn => first | assumption | omega | (simp only [List.length_append, List.length_map, List.length_cons, List.length_nil]; omega)); (case hdot => assumption); intro t' s' ps' F' N' hps' G' os')) | (k_here; (with_reducible show wpAny _ _ (call (Value.ref 156) _) _ _ _); k_dflt (refine' Mine.push_spec ?B ?F ?X ?T ?hk ?hdp ?hu ?N ?hz ?hxd ?o1 ?o2 ?_; (case B => k_asm); (case F => k_asm); (case X => k_asm); (case T => k_asm); (case hk => first | assumption | exact rfl); (case hdp => ((try simp only [depth_under_make, depth_under_kw, depth_in1, depth_deeper, depth_caller, units_in1, units_deeper, Around.mark_units, units_caller]); (try dsimp only [ktrTop]); omega)); (case hu => ((try simp only [depth_under_make, depth_under_kw, depth_in1, depth_deeper, depth_caller, units_in1, units_deeper, Around.mark_units, units_caller]); (try dsimp only [ktrTop]); omega)); (case N => assumption); (case hz => first | assumption | omega | (simp only [List.length_append, List.length_map, List.length_cons, List.length_nil]; omega)); (case hxd => omega); (case o1 => ((repeat refine Mine.sep_cons (by omega) ?_); first | assumption | exact Mine.sep_nil | (rename AllLt _ _ => hA9; exact Mine.ne_of_allLt hA9 (by omega)))); (case o2 => ((repeat refine Mine.sep_cons (by omega) ?_); first | assumption | exact Mine.sep_nil | (rename AllLt _ _ => hA9; exact Mine.ne_of_allLt hA9 (by omega)))); intro T' h' tk' F' N' a1 a2 a3; (try k_lt a3); replace N' := Mine.rot5 N')) | (k_here; (with_reducible show wpAny _ _ (call (Value.ref 209) _) _ _ _); k_dflt (refine' Mine.count_spec ?B ?F ?X ?T ?hk ?hdp ?hu ?N ?hx ?hd ?_; (case B => k_asm); (case F => k_asm); (case X => k_asm); (case T => k_asm); (case hk => first | assumption | exact rfl); (case hdp => ((try simp only [depth_under_make, depth_under_kw, depth_in1, depth_deeper, depth_caller, units_in1, units_deeper, Around.mark_units, units_caller]); (try dsimp only [ktrTop]); omega)); (case hu => ((try simp only [depth_under_make, depth_under_kw, depth_in1, depth_deeper, depth_caller, units_in1, units_deeper, Around.mark_units, units_caller]); (try dsimp only [ktrTop]); omega)); (case N => k_asm); (case hx => k_mem); (case hd => k_mem); intro h' t' tk' F' N')) | (k_here; (with_reducible show wpAny _ _ (call (Value.type "str") [Value.ref _]) _ _ _); k_dflt (refine' kso_call ?k1 ?k2 ?k3 ?k4 ?k5 ?_; (case k1 => (show _ < 9900; ((try simp only [depth_under_make, depth_under_kw, depth_in1, depth_deeper, depth_caller, units_in1, units_deeper, Around.mark_units, units_caller]); (try dsimp only [ktrTop]); omega))); (case k2 => k_in); (case k3 => k_inst); (case k4 => k_is); (case k5 => k_is); k_whole)) | (k_here; k_dflt (refine wpAny_call ?_; (refine' code_def ?k1 ?k2 ?k3 ?k4 ?k5 ?kA ?kF ?kK ?k6 ?k7 ?k8 ?k9 ?kB ?_ ?c2 ?c3 ?c4 ?c5; (case kA => exact rfl); (case kF => exact rfl); (case kK => first | assumption | exact rfl); (case k1 => k_asm); (case k2 => k_asm); (case k3 => k_asm); (case k4 => k_asm); (case k5 => k_asm); (case k6 => k_is); (case k7 => k_is); (case k8 => k_room); (case k9 => first | exact BindsTo.of_eq rfl | exact binds_K (by k_in) rfl (by k_is) rfl rfl rfl); (case c5 => decide); (case kB => exact locs rfl); (case c2 => exact rfl); (case c3 => exact rfl); (case c4 => exact rfl); k_whole; intro g' L' h' FG' F' N' B' X' T'; (try dsimp only); (try k_lift B'); (try k_fold)))) | (k_here; k_dflt (first | (refine' Mine.am_fnK ?k1 ?k2 ?k3 ?k4 ?k5 ?k6 ?k7 ?k8 ?_; (case k1 => k_asm); (case k2 => k_asm); (case k3 => k_inst); (case k4 => k_is); (case k5 => k_is); (case k6 => k_is); (case k7 => k_is); (case k8 => k_get); k_whole) | (refine' Mine.am_biK ?k1 ?k2 ?k3 ?k4 ?k5 ?k6 ?k7 ?k8 ?_; (case k1 => k_asm); (case k2 => k_asm); (case k3 => k_inst); (case k4 => k_is); (case k5 => k_is); (case k6 => k_is); (case k7 => first | exact PySem.F.type_list_append | exact PySem.F.type_list_pop); (case k8 => k_get); k_whole)))) | (have ns9 : Mine.NoStop := trivial; walk1; (all_goals (try clear ns9))))) | (k_unfold; (try dsimp only)) | (k_end; wrow_close) | walk1 | (dsimp only; walk1) | (leave1; walk_say "STEP leave1"; try dsimp only) | fail "no step"))
  all_goals refine PostB.brk ?_
  all_goals dsimp only
  w_strict (repeat' (first | ((with_reducible refine Mine.Stop.un ?_); (first | with_reducible (first | (k_here; (with_reducible show wpAny _ _ (call (Value.ref 194) [_, _]) _ _ _); k_dflt (refine' Mine.reset_list_spec ?B ?F ?X ?T ?hk ?hdp ?hu ?N ?hz ?hz2 ?hxd ?hl1 ?hl2 ?o1 ?o2 ?_; (case B => k_asm); (case F => k_asm); (case X => k_asm); (case T => k_asm); (case hk => first | assumption | exact rfl); (case hdp => ((try simp only [depth_under_make, depth_under_kw, depth_in1, depth_deeper, depth_caller, units_in1, units_deeper, Around.mark_units, units_caller]); (try dsimp only [ktrTop]); omega)); (case hu => ((try simp only [depth_under_make, depth_under_kw, depth_in1, depth_deeper, depth_caller, units_in1, units_deeper, Around.mark_units, units_caller]); (try dsimp only [ktrTop]); omega)); (case N => exact Mine.rot5' (by assumption)); (case hz => first | assumption | omega | (simp only [List.length_append, List.length_map, List.length_cons, List.length_nil]; omega)); (case hz2 => first | assumption | omega | (simp only [List.length_append, List.length_map, List.length_cons, List.length_nil]; omega)); (case hxd => omega); (case hl1 => omega); (case hl2 => omega); (case o1 => ((repeat refine Mine.sep_cons (by omega) ?_); first | assumption | exact Mine.sep_nil | (rename AllLt _ _ => hA9; exact Mine.ne_of_allLt hA9 (by omega)))); (case o2 => ((repeat refine Mine.sep_cons (by omega) ?_); first | assumption | exact Mine.sep_nil | (rename AllLt _ _ => hA9; exact Mine.ne_of_allLt hA9 (by omega)))); intro h' tk' n' u3' F' N')) | (k_here; (with_reducible show wpAny _ _ (call (Value.ref 164) _) _ _ _); k_dflt (refine' Mine.pop_from_spec ?B ?F ?X ?T ?hk ?hdp ?hu ?N ?hz ?hxd ?o1 ?o2 ?_; (case B => k_asm); (case F => k_asm); (case X => k_asm); (case T => k_asm); (case hk => first | assumption | exact rfl); (case hdp => ((try simp only [depth_under_make, depth_under_kw, depth_in1, depth_deeper, depth_caller, units_in1, units_deeper, Around.mark_units, units_caller]); (try dsimp only [ktrTop]); omega)); (case hu => ((try simp only [depth_under_make, depth_under_kw, depth_in1, depth_deeper, depth_caller, units_in1, units_deeper, Around.mark_units, units_caller]); (try dsimp only [ktrTop]); omega)); (case N => first | assumption | exact Mine.news_tail (by assumption) | exact Mine.news_tail (Mine.news_tail (by assumption))); (case hz => first | assumption | omega | (simp only [List.length_append, List.length_map, List.length_cons, List.length_nil]; omega)); (case hxd => omega); (case o1 => ((repeat refine Mine.sep_cons (by omega) ?_); first | assumption | exact Mine.sep_nil | (rename AllLt _ _ => hA9; exact Mine.ne_of_allLt hA9 (by omega)))); (case o2 => ((repeat refine Mine.sep_cons (by omega) ?_); first | assumption | exact Mine.sep_nil | (rename AllLt _ _ => hA9; exact Mine.ne_of_allLt hA9 (by omega)))); intro h' tk' l' n' F' N' a1 a2 a3; clear a3; replace N' := Mine.rot5 N')) | (k_here; (with_reducible show wpAny _ _ (subscriptTail _ _ (Value.ref _) (Value.int _ _)) _ _ _); (try dsimp only); k_dflt (refine' Mine.k_index ?k1 ?k2 ?k3 ?k4 ?k5 ?k6 ?h0 ?h1 ?hv ?_; (case k1 => k_asm); (case k2 => k_asm); (case k3 => k_inst); (case k4 => exact Mine.over212 _); (case k5 => kernel_rfl); (case k6 => k_is); (case h0 => omega); (case h1 => omega); (case hv => first | assumption | (rename ∀ _ : Nat, _ = some _ => hv9; exact hv9 _)); k_whole)) | (k_here; (with_reducible show wpAny _ _ (call (Value.ref 186) _) _ _ _); k_dflt (refine' Mine.str_dots ?B ?F ?X ?T ?hk ?hdp ?hu ?G ?N ?hx ?hd ?U ?hq ?hxg ?hdg ?hps ?hn ?hdot ?_; (case B => k_asm); (case F => k_asm); (case X => k_asm); (case T => k_asm); (case hk => first | assumption | exact rfl); (case hdp => ((try simp only [depth_under_make, depth_under_kw, depth_in1, depth_deeper, depth_caller, units_in1, units_deeper, Around.mark_units, units_caller]); (try dsimp only [ktrTop]); omega)); (case hu => ((try simp only [depth_under_make, depth_under_kw, depth_in1, depth_deeper, depth_caller, units_in1, units_deeper, Around.mark_units, units_caller]); (try dsimp only [ktrTop]); omega)); (case G => assumption); (case N => k_asm); (case hx => k_mem); (case hd => k_mem); (case U => k_updF); (case hq => (intro q hq; (repeat (first | exact (by assumption : ∀ q ∈ _, _ ∈ _) q hq | refine List.Mem.tail _ ?_)))); (case hxg => (intro o; k_mem)); (case hdg => (intro o; k_mem)); (case hps => assumption); (case hn => first | assumption | omega | (simp only [List.length_append, List.length_map, List.length_cons, List.length_nil]; omega)); (case hdot => assumption); intro t' s' ps' F' N' hps' G' os')) | (k_here; (with_reducible show wpAny _ _ (call (Value.ref 179) _) _ _ _); k_dflt (refine' Mine.len_snoc ?B ?F ?X ?T ?hk ?hdp ?hu ?G ?N ?hx ?hd ?U ?hq ?hT ?hxg ?hdg ?hps ?hn ?hdot ?_; (case B => k_asm); (case F => k_asm); (case X => k_asm); (case T => k_asm); (case hk => first | assumption | exact rfl); (case hdp => ((try simp only [depth_under_make, depth_under_kw, depth_in1, depth_deeper, depth_caller, units_in1, units_deeper, Around.mark_units, units_caller]); (try dsimp only [ktrTop]); omega)); (case hu => ((try simp only [depth_under_make, depth_under_kw, depth_in1, depth_deeper, depth_caller, units_in1, units_deeper, Around.mark_units, units_caller]); (try dsimp only [ktrTop]); omega)); (case G => assumption); (case N => k_asm); (case hx => k_mem); (case hd => k_mem); (case U => k_updF); (case hq => (intro q hq; (repeat (first | exact (by assumption : ∀ q ∈ _, _ ∈ _) q hq | refine List.Mem.tail _ ?_)))); (case hT => k_mem); (case hxg => (intro o; k_mem)); (case hdg => (intro o; k_mem)); (case hps => assumption); (case hn => first | assumption | omega | (simp only [List.length_append, List.length_map, List.length_cons, List.length_nil]; omega)); (case hdot => assumption); intro t' s' ps' F' N' hps' G' os')) | (k_here; (with_reducible show wpAny _ _ (call (Value.ref 156) _) _ _ _); k_dflt (refine' Mine.push_spec ?B ?F ?X ?T ?hk ?hdp ?hu ?N ?hz ?hxd ?o1 ?o2 ?_; (case B => k_asm); (case F => k_asm); (case X => k_asm); (case T => k_asm); (case hk => first | assumption | exact rfl); (case hdp => ((try simp only [depth_under_make, depth_under_kw, depth_in1, depth_deeper, depth_caller, units_in1, units_deeper, Around.mark_units, units_caller]); (try dsimp only [ktrTop]); omega)); (case hu => ((try simp only [depth_under_make, depth_under_kw, depth_in1, depth_deeper, depth_caller, units_in1, units_deeper, Around.mark_units, units_caller]); (try dsimp only [ktrTop]); omega)); (case N => assumption); (case hz => first | assumption | omega | (simp only [List.length_append, List.length_map, List.length_cons, List.length_nil]; omega)); (case hxd => omega); (case o1 => ((repeat refine Mine.sep_cons (by omega) ?_); first | assumption | exact Mine.sep_nil | (rename AllLt _ _ => hA9; exact Mine.ne_of_allLt hA9 (by omega)))); (case o2 => ((repeat refine Mine.sep_cons (by omega) ?_); first | assumption | exact Mine.sep_nil | (rename AllLt _ _ => hA9; exact Mine.ne_of_allLt hA9 (by omega)))); intro T' h' tk' F' N' a1 a2 a3; (try k_lt a3); replace N' := Mine.rot5 N')) | (k_here; (with_reducible show wpAny _ _ (call (Value.ref 209) _) _ _ _); k_dflt (refine' Mine.count_spec ?B ?F ?X ?T ?hk ?hdp ?hu ?N ?hx ?hd ?_; (case B => k_asm); (case F => k_asm); (case X => k_asm); (case T => k_asm); (case hk => first | assumption | exact rfl); (case hdp => ((try simp only [depth_under_make, depth_under_kw, depth_in1, depth_deeper, depth_caller, units_in1, units_deeper, Around.mark_units, units_caller]); (try dsimp only [ktrTop]); omega)); (case hu => ((try simp only [depth_under_make, depth_under_kw, depth_in1, depth_deeper, depth_caller, units_in1, units_deeper, Around.mark_units, units_caller]); (try dsimp only [ktrTop]); omega)); (case N => k_asm); (case hx => k_mem); (case hd => k_mem); intro h' t' tk' F' N')) | (k_here; (with_reducible show wpAny _ _ (call (Value.type "str") [Value.ref _]) _ _ _); k_dflt (refine' kso_call ?k1 ?k2 ?k3 ?k4 ?k5 ?_; (case k1 => (show _ < 9900; ((try simp only [depth_under_make, depth_under_kw, depth_in1, depth_deeper, depth_caller, units_in1, units_deeper, Around.mark_units, units_caller]); (try dsimp only [ktrTop]); omega))); (case k2 => k_in); (case k3 => k_inst); (case k4 => k_is); (case k5 => k_is); k_whole)) | (k_here; k_dflt (refine wpAny_call ?_; (refine' code_def ?k1 ?k2 ?k3 ?k4 ?k5 ?kA ?kF ?kK ?k6 ?k7 ?k8 ?k9 ?kB ?_ ?c2 ?c3 ?c4 ?c5; (case kA => exact rfl); (case kF => exact rfl); (case kK => first | assumption | exact rfl); (case k1 => k_asm); (case k2 => k_asm); (case k3 => k_asm); (case k4 => k_asm); (case k5 => k_asm); (case k6 => k_is); (case k7 => k_is); (case k8 => k_room); (case k9 => first | exact BindsTo.of_eq rfl | exact binds_K (by k_in) rfl (by k_is) rfl rfl rfl); (case c5 => decide); (case kB => exact locs rfl); (case c2 => exact rfl); (case c3 => exact rfl); (case c4 => exact rfl); k_whole; intro g' L' h' FG' F' N' B' X' T'; (try dsimp only); (try k_lift B'); (try k_fold)))) | (k_here; k_dflt (first | (refine' Mine.am_fnK ?k1 ?k2 ?k3 ?k4 ?k5 ?k6 ?k7 ?k8 ?_; (case k1 => k_asm); (case k2 => k_asm); (case k3 => k_inst); (case k4 => k_is); (case k5 => k_is); (case k6 => k_is); (case k7 => k_is); (case k8 => k_get); k_whole) | (refine' Mine.am_biK ?k1 ?k2 ?k3 ?k4 ?k5 ?k6 ?k7 ?k8 ?_; (case k1 => k_asm); (case k2 => k_asm); (case k3 => k_inst); (case k4 => k_is); (case k5 => k_is); (case k6 => k_is); (case k7 => first | exact PySem.F.type_list_append | exact PySem.F.type_list_pop); (case k8 => k_get); k_whole)))) | (have ns9 : Mine.NoStop := trivial; walk1; (all_goals (try clear ns9))))) | (k_unfold; (try dsimp only)) | (k_end; wrow_close) | walk1 | (dsimp only; walk1) | (leave1; walk_say "STEP leave1"; try dsimp only) | fail "no step"))
  all_goals refine PostB.brk ?_
  all_goals dsimp only
  w_strict (repeat' (first | ((with_reducible refine Mine.Stop.un ?_); (first | with_reducible (first | (k_here; (with_reducible show wpAny _ _ (call (Value.ref 194) [_, _]) _ _ _); k_dflt (refine' Mine.reset_list_spec ?B ?F ?X ?T ?hk ?hdp ?hu ?N ?hz ?hz2 ?hxd ?hl1 ?hl2 ?o1 ?o2 ?_; (case B => k_asm); (case F => k_asm); (case X => k_asm); (case T => k_asm); (case hk => first | assumption | exact rfl); (case hdp => ((try simp only [depth_under_make, depth_under_kw, depth_in1, depth_deeper, depth_caller, units_in1, units_deeper, Around.mark_units, units_caller]); (try dsimp only [ktrTop]); omega)); (case hu => ((try simp only [depth_under_make, depth_under_kw, depth_in1, depth_deeper, depth_caller, units_in1, units_deeper, Around.mark_units, units_caller]); (try dsimp only [ktrTop]); omega)); (case N => exact Mine.rot5' (by assumption)); (case hz => first | assumption | omega | (simp only [List.length_append, List.length_map, List.length_cons, List.length_nil]; omega)); (case hz2 => first | assumption | omega | (simp only [List.length_append, List.length_map, List.length_cons, List.length_nil]; omega)); (case hxd => omega); (case hl1 => omega); (case hl2 => omega); (case o1 => ((repeat refine Mine.sep_cons (by omega) ?_); first | assumption | exact Mine.sep_nil | (rename AllLt _ _ => hA9; exact Mine.ne_of_allLt hA9 (by omega)))); (case o2 => ((repeat refine Mine.sep_cons (by omega) ?_); first | assumption | exact Mine.sep_nil | (rename AllLt _ _ => hA9; exact Mine.ne_of_allLt hA9 (by omega)))); intro h' tk' n' u3' F' N')) | (k_here; (with_reducible show wpAny _ _ (call (Value.ref 164) _) _ _ _); k_dflt (refine' Mine.pop_from_spec ?B ?F ?X ?T ?hk ?hdp ?hu ?N ?hz ?hxd ?o1 ?o2 ?_; (case B => k_asm); (case F => k_asm); (case X => k_asm); (case T => k_asm); (case hk => first | assumption | exact rfl); (case hdp => ((try simp only [depth_under_make, depth_under_kw, depth_in1, depth_deeper, depth_caller, units_in1, units_deeper, Around.mark_units, units_caller]); (try dsimp only [ktrTop]); omega)); (case hu => ((try simp only [depth_under_make, depth_under_kw, depth_in1, depth_deeper, depth_caller, units_in1, units_deeper, Around.mark_units, units_caller]); (try dsimp only [ktrTop]); omega)); (case N => first | assumption | exact Mine.news_tail (by assumption) | exact Mine.news_tail (Mine.news_tail (by assumption))); (case hz => first | assumption | omega | (simp only [List.length_append, List.length_map, List.length_cons, List.length_nil]; omega)); (case hxd => omega); (case o1 => ((repeat refine Mine.sep_cons (by omega) ?_); first | assumption | exact Mine.sep_nil | (rename AllLt _ _ => hA9; exact Mine.ne_of_allLt hA9 (by omega)))); (case o2 => ((repeat refine Mine.sep_cons (by omega) ?_); first | assumption | exact Mine.sep_nil | (rename AllLt _ _ => hA9; exact Mine.ne_of_allLt hA9 (by omega)))); intro h' tk' l' n' F' N' a1 a2 a3; clear a3; replace N' := Mine.rot5 N')) | (k_here; (with_reducible show wpAny _ _ (subscriptTail _ _ (Value.ref _) (Value.int _ _)) _ _ _); (try dsimp only); k_dflt (refine' Mine.k_index ?k1 ?k2 ?k3 ?k4 ?k5 ?k6 ?h0 ?h1 ?hv ?_; (case k1 => k_asm); (case k2 => k_asm); (case k3 => k_inst); (case k4 => exact Mine.over212 _); (case k5 => kernel_rfl); (case k6 => k_is); (case h0 => omega); (case h1 => omega); (case hv => first | assumption | (rename ∀ _ : Nat, _ = some _ => hv9; exact hv9 _)); k_whole)) | (k_here; (with_reducible show wpAny _ _ (call (Value.ref 186) _) _ _ _); k_dflt (refine' Mine.str_dots ?B ?F ?X ?T ?hk ?hdp ?hu ?G ?N ?hx ?hd ?U ?hq ?hxg ?hdg ?hps ?hn ?hdot ?_; (case B => k_asm); (case F => k_asm); (case X => k_asm); (case T => k_asm); (case hk => first | assumption | exact rfl); (case hdp => ((try simp only [depth_under_make, depth_under_kw, depth_in1, depth_deeper, depth_caller, units_in1, units_deeper, Around.mark_units, units_caller]); (try dsimp only [ktrTop]); omega)); (case hu => ((try simp only [depth_under_make, depth_under_kw, depth_in1, depth_deeper, depth_caller, units_in1, units_deeper, Around.mark_units, units_caller]); (try dsimp only [ktrTop]); omega)); (case G => assumption); (case N => k_asm); (case hx => k_mem); (case hd => k_mem); (case U => k_updF); (case hq => (intro q hq; (repeat (first | exact (by assumption : ∀ q ∈ _, _ ∈ _) q hq | refine List.Mem.tail _ ?_)))); (case hxg => (intro o; k_mem)); (case hdg => (intro o; k_mem)); (case hps => assumption); (case hn => first | assumption | omega | (simp only [List.length_append, List.length_map, List.length_cons, List.length_nil]; omega)); (case hdot => assumption); intro t' s' ps' F' N' hps' G' os')) | (k_here; (with_reducible show wpAny _ _ (call (Value.ref 179) _) _ _ _); k_dflt (refine' Mine.len_snoc ?B ?F ?X ?T ?hk ?hdp ?hu ?G ?N ?hx ?hd ?U ?hq ?hT ?hxg ?hdg ?hps ?hn ?hdot ?_; (case B => k_asm); (case F => k_asm); (case X => k_asm); (case T => k_asm); (case hk => first | assumption | exact rfl); (case hdp => ((try simp only [depth_under_make, depth_under_kw, depth_in1, depth_deeper, depth_caller, units_in1, units_deeper, Around.mark_units, units_caller]); (try dsimp only [ktrTop]); omega)); (case hu => ((try simp only [depth_under_make, depth_under_kw, depth_in1, depth_deeper, depth_caller, units_in1, units_deeper, Around.mark_units, units_caller]); (try dsimp only [ktrTop]); omega)); (case G => assumption); (case N => k_asm); (case hx => k_mem); (case hd => k_mem); (case U => k_updF); (case hq => (intro q hq; (repeat (first | exact (by assumption : ∀ q ∈ _, _ ∈ _) q hq | refine List.Mem.tail _ ?_)))); (case hT => k_mem); (case hxg => (intro o; k_mem)); (case hdg => (intro o; k_mem)); (case hps => assumption); (case hn => first | assumption | omega | (simp only [List.length_append, List.length_map, List.length_cons, List.length_nil]; omega)); (case hdot => assumption); intro t' s' ps' F' N' hps' G' os')) | (k_here; (with_reducible show wpAny _ _ (call (Value.ref 156) _) _ _ _); k_dflt (refine' Mine.push_spec ?B ?F ?X ?T ?hk ?hdp ?hu ?N ?hz ?hxd ?o1 ?o2 ?_; (case B => k_asm); (case F => k_asm); (case X => k_asm); (case T => k_asm); (case hk => first | assumption | exact rfl); (case hdp => ((try simp only [depth_under_make, depth_under_kw, depth_in1, depth_deeper, depth_caller, units_in1, units_deeper, Around.mark_units, units_caller]); (try dsimp only [ktrTop]); omega)); (case hu => ((try simp only [depth_under_make, depth_under_kw, depth_in1, depth_deeper, depth_caller, units_in1, units_deeper, Around.mark_units, units_caller]); (try dsimp only [ktrTop]); omega)); (case N => assumption); (case hz => first | assumption | omega | (simp only [List.length_append, List.length_map, List.length_cons, List.length_nil]; omega)); (case hxd => omega); (case o1 => ((repeat refine Mine.sep_cons (by omega) ?_); first | assumption | exact Mine.sep_nil | (rename AllLt _ _ => hA9; exact Mine.ne_of_allLt hA9 (by omega)))); (case o2 => ((repeat refine Mine.sep_cons (by omega) ?_); first | assumption | exact Mine.sep_nil | (rename AllLt _ _ => hA9; exact Mine.ne_of_allLt hA9 (by omega)))); intro T' h' tk' F' N' a1 a2 a3; (try k_lt a3); replace N' := Mine.rot5 N')) | (k_here; (with_reducible show wpAny _ _ (call (Value.ref 209) _) _ _ _); k_dflt (refine' Mine.count_spec ?B ?F ?X ?T ?hk ?hdp ?hu ?N ?hx ?hd ?_; (case B => k_asm); (case F => k_asm); (case X => k_asm); (case T => k_asm); (case hk => first | assumption | exact rfl); (case hdp => ((try simp only [depth_under_make, depth_under_kw, depth_in1, depth_deeper, depth_caller, units_in1, units_deeper, Around.mark_units, units_caller]); (try dsimp only [ktrTop]); omega)); (case hu => ((try simp only [depth_under_make, depth_under_kw, depth_in1, depth_deeper, depth_caller, units_in1, units_deeper, Around.mark_units, units_caller]); (try dsimp only [ktrTop]); omega)); (case N => k_asm); (case hx => k_mem); (case hd => k_mem); intro h' t' tk' F' N')) | (k_here; (with_reducible show wpAny _ _ (call (Value.type "str") [Value.ref _]) _ _ _); k_dflt (refine' kso_call ?k1 ?k2 ?k3 ?k4 ?k5 ?_; (case k1 => (show _ < 9900; ((try simp only [depth_under_make, depth_under_kw, depth_in1, depth_deeper, depth_caller, units_in1, units_deeper, Around.mark_units, units_caller]); (try dsimp only [ktrTop]); omega))); (case k2 => k_in); (case k3 => k_inst); (case k4 => k_is); (case k5 => k_is); k_whole)) | (k_here; k_dflt (refine wpAny_call ?_; (refine' code_def ?k1 ?k2 ?k3 ?k4 ?k5 ?kA ?kF ?kK ?k6 ?k7 ?k8 ?k9 ?kB ?_ ?c2 ?c3 ?c4 ?c5; (case kA => exact rfl); (case kF => exact rfl); (case kK => first | assumption | exact rfl); (case k1 => k_asm); (case k2 => k_asm); (case k3 => k_asm); (case k4 => k_asm); (case k5 => k_asm); (case k6 => k_is); (case k7 => k_is); (case k8 => k_room); (case k9 => first | exact BindsTo.of_eq rfl | exact binds_K (by k_in) rfl (by k_is) rfl rfl rfl); (case c5 => decide); (case kB => exact locs rfl); (case c2 => exact rfl); (case c3 => exact rfl); (case c4 => exact rfl); k_whole; intro g' L' h' FG' F' N' B' X' T'; (try dsimp only); (try k_lift B'); (try k_fold)))) | (k_here; k_dflt (first | (refine' Mine.am_fnK ?k1 ?k2 ?k3 ?k4 ?k5 ?k6 ?k7 ?k8 ?_; (case k1 => k_asm); (case k2 => k_asm); (case k3 => k_inst); (case k4 => k_is); (case k5 => k_is); (case k6 => k_is); (case k7 => k_is); (case k8 => k_get); k_whole) | (refine' Mine.am_biK ?k1 ?k2 ?k3 ?k4 ?k5 ?k6 ?k7 ?k8 ?_; (case k1 => k_asm); (case k2 => k_asm); (case k3 => k_inst); (case k4 => k_is); (case k5 => k_is); (case k6 => k_is); (case k7 => first | exact PySem.F.type_list_append | exact PySem.F.type_list_pop); (case k8 => k_get); k_whole)))) | (have ns9 : Mine.NoStop := trivial; walk1; (all_goals (try clear ns9))))) | (k_unfold; (try dsimp only)) | (k_end; wrow_close) | walk1 | (dsimp only; walk1) | (leave1; walk_say "STEP leave1"; try dsimp only) | fail "no step"))
  · rename News h₀ L _ _ => kN9
    simp only [push_line] at kN9
    exact hret _ _ _ _ _ _ _ _ (by assumption) (by (refine Mine.news_sub (by assumption) ?_; repeat (first | exact Mine.subs_refl | exact Mine.subs_nil | (refine Mine.subs_cons ?_ ?_; (focus k_mem)) | refine Mine.subs_skip ?_))) (by omega) (by first | exact (by assumption : _ ∧ _ ∧ _ ∧ _ ∧ _ ∧ AllLt _ news).2.2.2.2.2) (by assumption) (by assumption) (by assumption) (by first | rfl | assumption | exact Eq.trans (by assumption) (by assumption) | exact Eq.trans (by assumption) (Eq.trans (by assumption) (by assumption)))
theorem str76_snoc {w : World} {dp un : Nat} {gd : Option (List Code)} {cn : Str} {cs : Scope} {a : Addr} {ccd : Value} {cl : List (Str × Addr)} {outer : List Env} {A₀ : Around} {base h₀ : Heap} {L : Addr} {m : Str → Option Value} {s : Shared} {Q : Value → Shared → Prop} {E : Value → Shared → Prop}
   {mean : ExcName → Option Value} {mg mb : Str → Option Value} {news : List (Addr × Obj)} {pg : Program} {loose : List Str}
   (B : Below A₀ base outer h₀) (F : Fr h₀ L s.heap m) (X : (KN w.params).In h₀) (T : Top pg loose mean mg mb h₀) (hk : cs.kind = .function) (hdp : dp + 40 < 1000) (hu : un + 400 < 9900) {wd : Int} {f fd l x d n k T : Nat} {z1 z2 u1 u2 u3 u4 u5 u6 v1 v2 v3 v4 y1 y2 t1 : Tok} {ends : Str} {ls : List (Str × Tok)} {rs : List Part} {ps1 ps2 : Array Value} (G : AllBare s.gens)
   (N : News h₀ L s.heap ((x, accO d (partsV rs ++ [.ref T]) n) :: (d, accD w 0 z1 z2) :: (174, tabObj ps1) :: (181, tabObj ps2) :: (l, listO (linesV ls) k) :: (T, tupO [.str "" y1, .str "." y2]) :: (f, instObj 128 fd) :: (fd, fmtD w wd l x u1 u2 u3 u4 u5 u6 v1 v2 v3 v4) :: news))
   (p1 : TabTwo posLen ps1) (p2 : TabTwo posStr ps2) (hqs : ∀ q ∈ rs, (q.at_, q.obj) ∈ news)
   (ox : ∀ p ∈ news, p.1 ≠ x) (od : ∀ p ∈ news, p.1 ≠ d) (ol : ∀ p ∈ news, p.1 ≠ l) (o1 : ∀ p ∈ news, p.1 ≠ 174) (o2 : ∀ p ∈ news, p.1 ≠ 181)
   (a1 : 181 < fd) (a2 : fd < f) (a3 : f < l) (a4 : l < d) (a5 : d < x) (a6 : x < T) (hn : rs.length ≤ 100) (hls : ls.length ≤ 100) (hdot : Dots rs) (hends : ends.length ≤ 2) (hb : ∀ p ∈ ls, p.1.length ≤ 1000)
   (hret : ∀ s' ps1' ps2' t, Fr h₀ L s'.heap m → News h₀ L s'.heap ((174, tabObj ps1') :: (181, tabObj ps2') :: news) → TabTwo posLen ps1' → TabTwo posStr ps2' → AllBare s'.gens → s'.os = s.os → Q (.str (Str.join ends (ls.map (·.1) ++ [dotsS (rs.length + 1)])) t) s') :
   wpAny (model PySem.Challenge.rw_tc0050_01.row.prog w) (ktrTop dp un gd cn cs L a ccd cl outer) (call (.ref 76) [.ref f, .str ends t1]) Q E s := by
  have hb' : ∀ t : Tok, ∀ p ∈ ls ++ [(dotsS (rs.length + 1), t)], p.1.length ≤ 1000 := by
    intro t p hp
    rcases List.mem_append.mp hp with h | h
    · exact hb p h
    · rw [List.mem_singleton.mp h, dotsS_length]; omega
  w_strict (repeat' (first | ((with_reducible refine Mine.Stop.un ?_); (first | with_reducible (first | (k_here; (with_reducible show wpAny _ _ (call (Value.builtin "str.join") [Value.str _ _, Value.ref _]) _ _ _); k_dflt (refine' Mine.join_linesV ?N ?hm ?hs ?hb ?hl ?_; (case N => k_asm); (case hm => k_mem); (case hs => assumption); (case hb => first | assumption | (rename ∀ _ : Tok, ∀ _ ∈ _, _ => hB9; exact hB9 _)); (case hl => first | assumption | omega | (simp only [List.length_append, List.length_cons, List.length_nil]; omega)); intro t' tk')) | (k_here; (with_reducible show wpAny _ _ (call (Value.ref 90) _) _ _ _); k_dflt (refine' Mine.newline_spec ?B ?F ?X ?T ?hk ?hdp ?hu ?G ?N ?p1 ?p2 ?hqs ?ox ?od ?ol ?o1 ?o2 ?a1 ?a2 ?a3 ?a4 ?a5 ?a6 ?hn ?hls ?hdot ?_; (case B => k_asm); (case F => k_asm); (case X => k_asm); (case T => k_asm); (case hk => first | assumption | exact rfl); (case hdp => ((try simp only [depth_under_make, depth_under_kw, depth_in1, depth_deeper, depth_caller, units_in1, units_deeper, Around.mark_units, units_caller]); (try dsimp only [ktrTop]); omega)); (case hu => ((try simp only [depth_under_make, depth_under_kw, depth_in1, depth_deeper, depth_caller, units_in1, units_deeper, Around.mark_units, units_caller]); (try dsimp only [ktrTop]); omega)); (case G => assumption); (case N => assumption); (case p1 => assumption); (case p2 => assumption); (case hqs => assumption); (case ox => assumption); (case od => assumption); (case ol => assumption); (case o1 => assumption); (case o2 => assumption); (case a1 => omega); (case a2 => omega); (case a3 => omega); (case a4 => omega); (case a5 => omega); (case a6 => omega); (case hn => omega); (case hls => omega); (case hdot => assumption); intro s' ps1' ps2' n' k' t' z3 F' N' hps1' hps2' G' os')) | (k_here; (with_reducible show wpAny _ _ (call (Value.ref 90) _) _ _ _); k_dflt (refine' Mine.newline_nil ?B ?F ?X ?T ?hk ?hdp ?hu ?G ?N ?p1 ?p2 ?ox ?od ?ol ?o1 ?o2 ?a1 ?a2 ?a3 ?a4 ?a5 ?_; (case B => k_asm); (case F => k_asm); (case X => k_asm); (case T => k_asm); (case hk => first | assumption | exact rfl); (case hdp => ((try simp only [depth_under_make, depth_under_kw, depth_in1, depth_deeper, depth_caller, units_in1, units_deeper, Around.mark_units, units_caller]); (try dsimp only [ktrTop]); omega)); (case hu => ((try simp only [depth_under_make, depth_under_kw, depth_in1, depth_deeper, depth_caller, units_in1, units_deeper, Around.mark_units, units_caller]); (try dsimp only [ktrTop]); omega)); (case G => assumption); (case N => assumption); (case p1 => assumption); (case p2 => assumption); (case ox => assumption); (case od => assumption); (case ol => assumption); (case o1 => assumption); (case o2 => assumption); (case a1 => omega); (case a2 => omega); (case a3 => omega); (case a4 => omega); (case a5 => omega); intro s' ps1' ps2' n' z3 F' N' hps1' hps2' G' os')) | (k_here; k_dflt (refine wpAny_call ?_; (refine' code_def ?k1 ?k2 ?k3 ?k4 ?k5 ?kA ?kF ?kK ?k6 ?k7 ?k8 ?k9 ?kB ?_ ?c2 ?c3 ?c4 ?c5; (case kA => exact rfl); (case kF => exact rfl); (case kK => first | assumption | exact rfl); (case k1 => k_asm); (case k2 => k_asm); (case k3 => k_asm); (case k4 => k_asm); (case k5 => k_asm); (case k6 => k_is); (case k7 => k_is); (case k8 => k_room); (case k9 => first | exact BindsTo.of_eq rfl | exact binds_K (by k_in) rfl (by k_is) rfl rfl rfl); (case c5 => decide); (case kB => exact locs rfl); (case c2 => exact rfl); (case c3 => exact rfl); (case c4 => exact rfl); k_whole; intro g' L' h' FG' F' N' B' X' T'; (try dsimp only); (try k_lift B'); (try k_fold))))) | (have ns9 : Mine.NoStop := trivial; walk1; (all_goals (try clear ns9))))) | (k_unfold; (try dsimp only)) | (k_end; wrow_close) | walk1 | (dsimp only; walk1) | (leave1; walk_say "STEP leave1"; try dsimp only) | fail "no step"))
  · simp only [List.map_append, List.map_cons, List.map_nil]
    exact hret _ _ _ _ (by assumption) (by (refine Mine.news_sub (by assumption) ?_; repeat (first | exact Mine.subs_refl | exact Mine.subs_nil | (refine Mine.subs_cons ?_ ?_; (focus k_mem)) | refine Mine.subs_skip ?_))) (by assumption) (by assumption) (by assumption) (by first | rfl | assumption | exact Eq.trans (by assumption) (by assumption))
theorem str76_nil {w : World} {dp un : Nat} {gd : Option (List Code)} {cn : Str} {cs : Scope} {a : Addr} {ccd : Value} {cl : List (Str × Addr)} {outer : List Env} {A₀ : Around} {base h₀ : Heap} {L : Addr} {m : Str → Option Value} {s : Shared} {Q : Value → Shared → Prop} {E : Value → Shared → Prop}
   {mean : ExcName → Option Value} {mg mb : Str → Option Value} {news : List (Addr × Obj)} {pg : Program} {loose : List Str}
   (B : Below A₀ base outer h₀) (F : Fr h₀ L s.heap m) (X : (KN w.params).In h₀) (T : Top pg loose mean mg mb h₀) (hk : cs.kind = .function) (hdp : dp + 40 < 1000) (hu : un + 400 < 9900) {wd : Int} {f fd l x d n k : Nat} {z1 z2 u1 u2 u3 u4 u5 u6 v1 v2 v3 v4 t1 : Tok} {ends : Str} {ls : List (Str × Tok)} {ps1 ps2 : Array Value} (G : AllBare s.gens)
   (N : News h₀ L s.heap ((x, accO d ([]) n) :: (d, accD w 0 z1 z2) :: (174, tabObj ps1) :: (181, tabObj ps2) :: (l, listO (linesV ls) k) :: (f, instObj 128 fd) :: (fd, fmtD w wd l x u1 u2 u3 u4 u5 u6 v1 v2 v3 v4) :: news))
   (p1 : TabTwo posLen ps1) (p2 : TabTwo posStr ps2) 
   (ox : ∀ p ∈ news, p.1 ≠ x) (od : ∀ p ∈ news, p.1 ≠ d) (ol : ∀ p ∈ news, p.1 ≠ l) (o1 : ∀ p ∈ news, p.1 ≠ 174) (o2 : ∀ p ∈ news, p.1 ≠ 181)
   (a1 : 181 < fd) (a2 : fd < f) (a3 : f < l) (a4 : l < d) (a5 : d < x) (hends : ends.length ≤ 2) (hb : ∀ p ∈ ls, p.1.length ≤ 1000) (hls : ls.length ≤ 100)
   (hret : ∀ s' ps1' ps2' t, Fr h₀ L s'.heap m → News h₀ L s'.heap ((174, tabObj ps1') :: (181, tabObj ps2') :: news) → TabTwo posLen ps1' → TabTwo posStr ps2' → AllBare s'.gens → s'.os = s.os → Q (.str (Str.join ends (ls.map (·.1))) t) s') :
   wpAny (model PySem.Challenge.rw_tc0050_01.row.prog w) (ktrTop dp un gd cn cs L a ccd cl outer) (call (.ref 76) [.ref f, .str ends t1]) Q E s := by
  w_strict (repeat' (first | ((with_reducible refine Mine.Stop.un ?_); (first | with_reducible (first | (k_here; (with_reducible show wpAny _ _ (call (Value.builtin "str.join") [Value.str _ _, Value.ref _]) _ _ _); k_dflt (refine' Mine.join_linesV ?N ?hm ?hs ?hb ?hl ?_; (case N => k_asm); (case hm => k_mem); (case hs => assumption); (case hb => first | assumption | (rename ∀ _ : Tok, ∀ _ ∈ _, _ => hB9; exact hB9 _)); (case hl => first | assumption | omega | (simp only [List.length_append, List.length_cons, List.length_nil]; omega)); intro t' tk')) | (k_here; (with_reducible show wpAny _ _ (call (Value.ref 90) _) _ _ _); k_dflt (refine' Mine.newline_spec ?B ?F ?X ?T ?hk ?hdp ?hu ?G ?N ?p1 ?p2 ?hqs ?ox ?od ?ol ?o1 ?o2 ?a1 ?a2 ?a3 ?a4 ?a5 ?a6 ?hn ?hls ?hdot ?_; (case B => k_asm); (case F => k_asm); (case X => k_asm); (case T => k_asm); (case hk => first | assumption | exact rfl); (case hdp => ((try simp only [depth_under_make, depth_under_kw, depth_in1, depth_deeper, depth_caller, units_in1, units_deeper, Around.mark_units, units_caller]); (try dsimp only [ktrTop]); omega)); (case hu => ((try simp only [depth_under_make, depth_under_kw, depth_in1, depth_deeper, depth_caller, units_in1, units_deeper, Around.mark_units, units_caller]); (try dsimp only [ktrTop]); omega)); (case G => assumption); (case N => assumption); (case p1 => assumption); (case p2 => assumption); (case hqs => assumption); (case ox => assumption); (case od => assumption); (case ol => assumption); (case o1 => assumption); (case o2 => assumption); (case a1 => omega); (case a2 => omega); (case a3 => omega); (case a4 => omega); (case a5 => omega); (case a6 => omega); (case hn => omega); (case hls => omega); (case hdot => assumption); intro s' ps1' ps2' n' k' t' z3 F' N' hps1' hps2' G' os')) | (k_here; (with_reducible show wpAny _ _ (call (Value.ref 90) _) _ _ _); k_dflt (refine' Mine.newline_nil ?B ?F ?X ?T ?hk ?hdp ?hu ?G ?N ?p1 ?p2 ?ox ?od ?ol ?o1 ?o2 ?a1 ?a2 ?a3 ?a4 ?a5 ?_; (case B => k_asm); (case F => k_asm); (case X => k_asm); (case T => k_asm); (case hk => first | assumption | exact rfl); (case hdp => ((try simp only [depth_under_make, depth_under_kw, depth_in1, depth_deeper, depth_caller, units_in1, units_deeper, Around.mark_units, units_caller]); (try dsimp only [ktrTop]); omega)); (case hu => ((try simp only [depth_under_make, depth_under_kw, depth_in1, depth_deeper, depth_caller, units_in1, units_deeper, Around.mark_units, units_caller]); (try dsimp only [ktrTop]); omega)); (case G => assumption); (case N => assumption); (case p1 => assumption); (case p2 => assumption); (case ox => assumption); (case od => assumption); (case ol => assumption); (case o1 => assumption); (case o2 => assumption); (case a1 => omega); (case a2 => omega); (case a3 => omega); (case a4 => omega); (case a5 => omega); intro s' ps1' ps2' n' z3 F' N' hps1' hps2' G' os')) | (k_here; k_dflt (refine wpAny_call ?_; (refine' code_def ?k1 ?k2 ?k3 ?k4 ?k5 ?kA ?kF ?kK ?k6 ?k7 ?k8 ?k9 ?kB ?_ ?c2 ?c3 ?c4 ?c5; (case kA => exact rfl); (case kF => exact rfl); (case kK => first | assumption | exact rfl); (case k1 => k_asm); (case k2 => k_asm); (case k3 => k_asm); (case k4 => k_asm); (case k5 => k_asm); (case k6 => k_is); (case k7 => k_is); (case k8 => k_room); (case k9 => first | exact BindsTo.of_eq rfl | exact binds_K (by k_in) rfl (by k_is) rfl rfl rfl); (case c5 => decide); (case kB => exact locs rfl); (case c2 => exact rfl); (case c3 => exact rfl); (case c4 => exact rfl); k_whole; intro g' L' h' FG' F' N' B' X' T'; (try dsimp only); (try k_lift B'); (try k_fold))))) | (have ns9 : Mine.NoStop := trivial; walk1; (all_goals (try clear ns9))))) | (k_unfold; (try dsimp only)) | (k_end; wrow_close) | walk1 | (dsimp only; walk1) | (leave1; walk_say "STEP leave1"; try dsimp only) | fail "no step"))
  · exact hret _ _ _ _ (by assumption) (by (refine Mine.news_sub (by assumption) ?_; repeat (first | exact Mine.subs_refl | exact Mine.subs_nil | (refine Mine.subs_cons ?_ ?_; (focus k_mem)) | refine Mine.subs_skip ?_))) (by assumption) (by assumption) (by assumption) (by first | rfl | assumption | exact Eq.trans (by assumption) (by assumption))
theorem quote_spec {w : World} {dp un : Nat} {gd : Option (List Code)} {cn : Str} {cs : Scope} {a : Addr} {ccd : Value} {cl : List (Str × Addr)} {outer : List Env} {A₀ : Around} {base h₀ : Heap} {L : Addr} {m : Str → Option Value} {s : Shared} {Q : Value → Shared → Prop} {E : Value → Shared → Prop}
   {mean : ExcName → Option Value} {mg mb : Str → Option Value} {news : List (Addr × Obj)} {pg : Program} {loose : List Str}
   (B : Below A₀ base outer h₀) (F : Fr h₀ L s.heap m) (X : (KN w.params).In h₀) (T : Top pg loose mean mg mb h₀) (hk : cs.kind = .function) (hdp : dp + 20 < 1000) (hu : un + 200 < 9900) {x y : Str} {t1 : Tok} (N : News h₀ L s.heap news) (hy : Quoted x y)
   (hret : ∀ h' t tk', Fr h₀ L h' m → News h₀ L h' news → Q (.str y t) { s with heap := h', toks := tk' }) :
   wpAny (model PySem.Challenge.rw_tc0050_01.row.prog w) (ktrTop dp un gd cn cs L a ccd cl outer) (call (.ref 233) [.str x t1]) Q E s := by
  obtain ⟨z, ms1, ms2, hx, hz, e1, rfl, e2, rfl⟩ := hy
  w_strict (repeat' (first | ((with_reducible refine Mine.Stop.un ?_); (first | with_reducible (first | (k_here; (with_reducible show wpAny _ _ (getMethod (Value.ref 226) _ _) _ _ _); k_dflt (refine' Mine.pat_method (Mine.pat_at2 ?X) rfl rfl ?_; (case X => k_in); k_whole)) | (k_here; (with_reducible show wpAny _ _ (getMethod (Value.ref 221) _ _) _ _ _); k_dflt (refine' Mine.pat_method (Mine.pat_at1 ?X) rfl rfl ?_; (case X => k_in); k_whole)) | (k_here; k_dflt (refine wpAny_call ?_; (refine' code_def ?k1 ?k2 ?k3 ?k4 ?k5 ?kA ?kF ?kK ?k6 ?k7 ?k8 ?k9 ?kB ?_ ?c2 ?c3 ?c4 ?c5; (case kA => exact rfl); (case kF => exact rfl); (case kK => first | assumption | exact rfl); (case k1 => k_asm); (case k2 => k_asm); (case k3 => k_asm); (case k4 => k_asm); (case k5 => k_asm); (case k6 => k_is); (case k7 => k_is); (case k8 => k_room); (case k9 => first | exact BindsTo.of_eq rfl | exact binds_K (by k_in) rfl (by k_is) rfl rfl rfl); (case c5 => decide); (case kB => exact locs rfl); (case c2 => exact rfl); (case c3 => exact rfl); (case c4 => exact rfl); k_whole; intro g' L' h' FG' F' N' B' X' T'; (try dsimp only); (try k_lift B'); (try k_fold))))) | (have ns9 : Mine.NoStop := trivial; walk1; (all_goals (try clear ns9))))) | (k_unfold; (try dsimp only)) | (k_end; wrow_close) | walk1 | (dsimp only; walk1) | (leave1; walk_say "STEP leave1"; try dsimp only) | fail "no step"))
  refine re_subK (by assumption) (by assumption) (pat_ok2 (by k_in)) hx (by decide) (by decide +kernel) e1 ?_
  intro h1 tk1 t1 F1 N1
  w_strict (repeat' (first | ((with_reducible refine Mine.Stop.un ?_); (first | with_reducible (first | (k_here; (with_reducible show wpAny _ _ (getMethod (Value.ref 226) _ _) _ _ _); k_dflt (refine' Mine.pat_method (Mine.pat_at2 ?X) rfl rfl ?_; (case X => k_in); k_whole)) | (k_here; (with_reducible show wpAny _ _ (getMethod (Value.ref 221) _ _) _ _ _); k_dflt (refine' Mine.pat_method (Mine.pat_at1 ?X) rfl rfl ?_; (case X => k_in); k_whole)) | (k_here; k_dflt (refine wpAny_call ?_; (refine' code_def ?k1 ?k2 ?k3 ?k4 ?k5 ?kA ?kF ?kK ?k6 ?k7 ?k8 ?k9 ?kB ?_ ?c2 ?c3 ?c4 ?c5; (case kA => exact rfl); (case kF => exact rfl); (case kK => first | assumption | exact rfl); (case k1 => k_asm); (case k2 => k_asm); (case k3 => k_asm); (case k4 => k_asm); (case k5 => k_asm); (case k6 => k_is); (case k7 => k_is); (case k8 => k_room); (case k9 => first | exact BindsTo.of_eq rfl | exact binds_K (by k_in) rfl (by k_is) rfl rfl rfl); (case c5 => decide); (case kB => exact locs rfl); (case c2 => exact rfl); (case c3 => exact rfl); (case c4 => exact rfl); k_whole; intro g' L' h' FG' F' N' B' X' T'; (try dsimp only); (try k_lift B'); (try k_fold))))) | (have ns9 : Mine.NoStop := trivial; walk1; (all_goals (try clear ns9))))) | (k_unfold; (try dsimp only)) | (k_end; wrow_close) | walk1 | (dsimp only; walk1) | (leave1; walk_say "STEP leave1"; try dsimp only) | fail "no step"))
  refine re_subK (by assumption) (by assumption) (pat_ok1 (by k_in)) hz (by decide) (by decide +kernel) e2 ?_
  intro h2 tk2 t2 F2 N2
  w_strict (repeat' (first | ((with_reducible refine Mine.Stop.un ?_); (first | with_reducible (first | (k_here; (with_reducible show wpAny _ _ (getMethod (Value.ref 226) _ _) _ _ _); k_dflt (refine' Mine.pat_method (Mine.pat_at2 ?X) rfl rfl ?_; (case X => k_in); k_whole)) | (k_here; (with_reducible show wpAny _ _ (getMethod (Value.ref 221) _ _) _ _ _); k_dflt (refine' Mine.pat_method (Mine.pat_at1 ?X) rfl rfl ?_; (case X => k_in); k_whole)) | (k_here; k_dflt (refine wpAny_call ?_; (refine' code_def ?k1 ?k2 ?k3 ?k4 ?k5 ?kA ?kF ?kK ?k6 ?k7 ?k8 ?k9 ?kB ?_ ?c2 ?c3 ?c4 ?c5; (case kA => exact rfl); (case kF => exact rfl); (case kK => first | assumption | exact rfl); (case k1 => k_asm); (case k2 => k_asm); (case k3 => k_asm); (case k4 => k_asm); (case k5 => k_asm); (case k6 => k_is); (case k7 => k_is); (case k8 => k_room); (case k9 => first | exact BindsTo.of_eq rfl | exact binds_K (by k_in) rfl (by k_is) rfl rfl rfl); (case c5 => decide); (case kB => exact locs rfl); (case c2 => exact rfl); (case c3 => exact rfl); (case c4 => exact rfl); k_whole; intro g' L' h' FG' F' N' B' X' T'; (try dsimp only); (try k_lift B'); (try k_fold))))) | (have ns9 : Mine.NoStop := trivial; walk1; (all_goals (try clear ns9))))) | (k_unfold; (try dsimp only)) | (k_end; wrow_close) | walk1 | (dsimp only; walk1) | (leave1; walk_say "STEP leave1"; try dsimp only) | fail "no step"))
  exact hret _ _ _ (by assumption) (by assumption)
section
local macro_rules | `(tactic| walk_at "exec For Name Call cons nil") => `(tactic| (k_here; k_dflt (refine Mine.For_led (by assumption) rfl rfl ?_)))
theorem sent_spec {w : World} {dp un : Nat} {gd : Option (List Code)} {cn : Str} {cs : Scope} {a : Addr} {ccd : Value} {cl : List (Str × Addr)} {outer : List Env} {A₀ : Around} {base h₀ : Heap} {L : Addr} {m : Str → Option Value} {s : Shared} {Q : Value → Shared → Prop} {E : Value → Shared → Prop}
   {mean : ExcName → Option Value} {mg mb : Str → Option Value} {news : List (Addr × Obj)} {pg : Program} {loose : List Str}
   (B : Below A₀ base outer h₀) (F : Fr h₀ L s.heap m) (X : (KN w.params).In h₀) (T : Top pg loose mean mg mb h₀) (hk : cs.kind = .function) (hdp : dp + 60 < 1000) (hu : un + 600 < 9900) {size wd : Nat} {ends y : Str} {t1 t2 t3 : Tok} {ps1 ps2 : Array Value} (G : AllBare s.gens) (N : News h₀ L s.heap ((174, tabObj ps1) :: (181, tabObj ps2) :: news))
   (p1 : TabTwo posLen ps1) (p2 : TabTwo posStr ps2) (o1 : ∀ p ∈ news, p.1 ≠ 174) (o2 : ∀ p ∈ news, p.1 ≠ 181)
   (hs : size ≤ 10) (hw : 1 ≤ wd) (hw4 : wd ≤ 4) (hends : ends.length ≤ 2) (hy : Quoted (sentText wd size ends) y)
   (hret : ∀ s' ps1' ps2' t, Fr h₀ L s'.heap m → News h₀ L s'.heap ((174, tabObj ps1') :: (181, tabObj ps2') :: news) → TabTwo posLen ps1' → TabTwo posStr ps2' → AllBare s'.gens → s'.os = s.os → Q (.str y t) s') :
   wpAny (model PySem.Challenge.rw_tc0050_01.row.prog w) (ktrTop dp un gd cn cs L a ccd cl outer) (call (.ref 240) [.int size t1, .int wd t2, .str ends t3]) Q E s := by
  w_strict (repeat' (first | ((with_reducible refine Mine.Stop.un ?_); (first | with_reducible (first | (k_here; (with_reducible show wpAny _ _ (call (Value.ref 233) _) _ _ _); k_dflt (refine' Mine.quote_spec ?B ?F ?X ?T ?hk ?hdp ?hu ?N ?hy ?_; (case B => k_asm); (case F => k_asm); (case X => k_asm); (case T => k_asm); (case hk => first | assumption | exact rfl); (case hdp => ((try simp only [depth_under_make, depth_under_kw, depth_in1, depth_deeper, depth_caller, units_in1, units_deeper, Around.mark_units, units_caller]); (try dsimp only [ktrTop]); omega)); (case hu => ((try simp only [depth_under_make, depth_under_kw, depth_in1, depth_deeper, depth_caller, units_in1, units_deeper, Around.mark_units, units_caller]); (try dsimp only [ktrTop]); omega)); (case N => assumption); (case hy => assumption); intro h' t' tk' F' N')) | (k_here; (with_reducible show wpAny _ _ (call (Value.ref 76) _) _ _ _); k_dflt (refine' Mine.str76_nil ?B ?F ?X ?T ?hk ?hdp ?hu ?G ?N ?p1 ?p2 ?ox ?od ?ol ?o1 ?o2 ?a1 ?a2 ?a3 ?a4 ?a5 ?hends ?hb ?hls ?_; (case B => k_asm); (case F => k_asm); (case X => k_asm); (case T => k_asm); (case hk => first | assumption | exact rfl); (case hdp => ((try simp only [depth_under_make, depth_under_kw, depth_in1, depth_deeper, depth_caller, units_in1, units_deeper, Around.mark_units, units_caller]); (try dsimp only [ktrTop]); omega)); (case hu => ((try simp only [depth_under_make, depth_under_kw, depth_in1, depth_deeper, depth_caller, units_in1, units_deeper, Around.mark_units, units_caller]); (try dsimp only [ktrTop]); omega)); (case G => assumption); (case N => assumption); (case p1 => assumption); (case p2 => assumption); (case ox => assumption); (case od => assumption); (case ol => assumption); (case o1 => assumption); (case o2 => assumption); (case a1 => omega); (case a2 => omega); (case a3 => omega); (case a4 => omega); (case a5 => omega); (case hls => omega); (case hends => assumption); (case hb => assumption); intro s' ps1' ps2' t' F' N' hps1' hps2' G' os')) | (k_here; (with_reducible show wpAny _ _ (call (Value.ref 76) _) _ _ _); k_dflt (refine' Mine.str76_snoc ?B ?F ?X ?T ?hk ?hdp ?hu ?G ?N ?p1 ?p2 ?hqs ?ox ?od ?ol ?o1 ?o2 ?a1 ?a2 ?a3 ?a4 ?a5 ?a6 ?hn ?hls ?hdot ?hends ?hb ?_; (case B => k_asm); (case F => k_asm); (case X => k_asm); (case T => k_asm); (case hk => first | assumption | exact rfl); (case hdp => ((try simp only [depth_under_make, depth_under_kw, depth_in1, depth_deeper, depth_caller, units_in1, units_deeper, Around.mark_units, units_caller]); (try dsimp only [ktrTop]); omega)); (case hu => ((try simp only [depth_under_make, depth_under_kw, depth_in1, depth_deeper, depth_caller, units_in1, units_deeper, Around.mark_units, units_caller]); (try dsimp only [ktrTop]); omega)); (case G => assumption); (case N => assumption); (case p1 => assumption); (case p2 => assumption); (case hqs => assumption); (case ox => assumption); (case od => assumption); (case ol => assumption); (case o1 => assumption); (case o2 => assumption); (case a1 => omega); (case a2 => omega); (case a3 => omega); (case a4 => omega); (case a5 => omega); (case a6 => omega); (case hn => omega); (case hls => omega); (case hdot => assumption); (case hends => assumption); (case hb => assumption); intro s' ps1' ps2' t' F' N' hps1' hps2' G' os')) | (k_here; (with_reducible show wpAny _ _ (call (Value.ref 128) _) _ _ _); k_dflt (refine' Mine.fmt_spec ?B ?F ?X ?T ?hk ?hdp ?hu ?N ?_; (case B => k_asm); (case F => k_asm); (case X => k_asm); (case T => k_asm); (case hk => first | assumption | exact rfl); (case hdp => ((try simp only [depth_under_make, depth_under_kw, depth_in1, depth_deeper, depth_caller, units_in1, units_deeper, Around.mark_units, units_caller]); (try dsimp only [ktrTop]); omega)); (case hu => ((try simp only [depth_under_make, depth_under_kw, depth_in1, depth_deeper, depth_caller, units_in1, units_deeper, Around.mark_units, units_caller]); (try dsimp only [ktrTop]); omega)); (case N => assumption); intro f' fd' l' x' d' h' tk' z1' z2' u1' u2' u3' u4' u5' u6' v1' v2' v3' v4' F' N' b1 b2 b3 b4 b5; (try k_lt b1); replace N' := Mine.rot7 N')) | (k_here; (with_reducible show wpAny _ _ (call (Value.ref 125) _) _ _ _); k_dflt (refine' Mine.append_over ?B ?F ?X ?T ?hk ?hdp ?hu ?G ?N ?p1 ?p2 ?hqs ?ox ?od ?ol ?o1 ?o2 ?a1 ?a2 ?a3 ?a4 ?a5 ?hn ?hls ?hdot ?hover ?hne ?_; (case B => k_asm); (case F => k_asm); (case X => k_asm); (case T => k_asm); (case hk => first | assumption | exact rfl); (case hdp => ((try simp only [depth_under_make, depth_under_kw, depth_in1, depth_deeper, depth_caller, units_in1, units_deeper, Around.mark_units, units_caller]); (try dsimp only [ktrTop]); omega)); (case hu => ((try simp only [depth_under_make, depth_under_kw, depth_in1, depth_deeper, depth_caller, units_in1, units_deeper, Around.mark_units, units_caller]); (try dsimp only [ktrTop]); omega)); (case G => assumption); (case N => assumption); (case p1 => assumption); (case p2 => assumption); (case hqs => assumption); (case ox => assumption); (case od => assumption); (case ol => assumption); (case o1 => assumption); (case o2 => assumption); (case a1 => omega); (case a2 => omega); (case a3 => omega); (case a4 => omega); (case a5 => omega); (case hn => omega); (case hls => omega); (case hdot => assumption); (case hover => assumption); (case hne => assumption); intro s' ps1' ps2' n' k' t' z3' T' F' N' lT lA hps1' hps2' G' os')) | (k_here; (with_reducible show wpAny _ _ (call (Value.ref 125) _) _ _ _); k_dflt (refine' Mine.append_fit ?B ?F ?X ?T ?hk ?hdp ?hu ?G ?N ?p1 ?p2 ?hqs ?ox ?od ?ol ?o1 ?o2 ?a1 ?a2 ?a3 ?a4 ?a5 ?hn ?hls ?hdot ?hfit ?_; (case B => k_asm); (case F => k_asm); (case X => k_asm); (case T => k_asm); (case hk => first | assumption | exact rfl); (case hdp => ((try simp only [depth_under_make, depth_under_kw, depth_in1, depth_deeper, depth_caller, units_in1, units_deeper, Around.mark_units, units_caller]); (try dsimp only [ktrTop]); omega)); (case hu => ((try simp only [depth_under_make, depth_under_kw, depth_in1, depth_deeper, depth_caller, units_in1, units_deeper, Around.mark_units, units_caller]); (try dsimp only [ktrTop]); omega)); (case G => assumption); (case N => assumption); (case p1 => assumption); (case p2 => assumption); (case hqs => assumption); (case ox => assumption); (case od => assumption); (case ol => assumption); (case o1 => assumption); (case o2 => assumption); (case a1 => omega); (case a2 => omega); (case a3 => omega); (case a4 => omega); (case a5 => omega); (case hn => omega); (case hls => omega); (case hdot => assumption); (case hfit => assumption); intro s' ps1' n' T' F' N' lT lA hps1' G' os')) | (k_here; k_dflt (refine wpAny_call ?_; (refine' code_def ?k1 ?k2 ?k3 ?k4 ?k5 ?kA ?kF ?kK ?k6 ?k7 ?k8 ?k9 ?kB ?_ ?c2 ?c3 ?c4 ?c5; (case kA => exact rfl); (case kF => exact rfl); (case kK => first | assumption | exact rfl); (case k1 => k_asm); (case k2 => k_asm); (case k3 => k_asm); (case k4 => k_asm); (case k5 => k_asm); (case k6 => k_is); (case k7 => k_is); (case k8 => k_room); (case k9 => first | exact BindsTo.of_eq rfl | exact binds_K (by k_in) rfl (by k_is) rfl rfl rfl); (case c5 => decide); (case kB => exact locs rfl); (case c2 => exact rfl); (case c3 => exact rfl); (case c4 => exact rfl); k_whole; intro g' L' h' FG' F' N' B' X' T'; (try dsimp only); (try k_lift B'); (try k_fold))))) | (have ns9 : Mine.NoStop := trivial; walk1; (all_goals (try clear ns9))))) | (k_unfold; (try dsimp only)) | (k_end; wrow_close) | walk1 | (dsimp only; walk1) | (leave1; walk_say "STEP leave1"; try dsimp only) | fail "no step"))
  rename IsRange _ _ _ _ _ _ _ _ => hr9
  rename Fr _ _ _ _ => F9
  refine with_map F9 (fun m0 hm0 F10 => ?_)
  refine iter_rangeL (n := size) (Rr := SentInv w wd m0 news s.os) (kl := news) rfl hr9 ?hsm ?hsz F10 (by assumption) ?hk ?h0 ?hRs ?turn ?done
  case hsm => exact up_small (by omega)
  case hsz => exact up_size
  case hk => intro p hp; (iterate 7 refine List.Mem.tail _ ?_); exact hp
  case h0 =>
    intro h
    exact SentInv.start (by rw [hm0]; rfl) (by exact (by assumption : _ ∧ _ ∧ AllLt _ news).2.2) (by exact (by assumption : _ ∧ 181 < _ ∧ AllLt _ news).2.1) (by omega) (by omega) (by omega) (by omega) p1 p2 o1 o2 G rfl
  case hRs => intro i m9 n9 s9 h9 tk9 R; exact R
  case turn =>
    intro I i t io m1 news1 s1 hi R off kk lt F N
    obtain ⟨u, f, fd, l, x, d, n, k, z1, z2, u1, u2, u3, u4, u5, u6, v1, v2, v3, v4, ls, qs, ps1, ps2, tail, q, rfl, hmf, rfl, q1, q2, hq, ox, od, ol, o1', o2', sub, a1, a2, a3, a4, a5, dot, hgt, hls, hi', hle, hpos, G1, os1⟩ := R
    have e : (fun y => if y = Str.ofString "turn" then some (Value.int (0 + (i : Int) * 1) t) else if y = Str.ofString "turn" then u else m0 y) = fun y => if y = Str.ofString "turn" then some (Value.int (0 + (i : Int) * 1) t) else if y = Str.ofString "formatter" then some (.ref f) else m0 y := by
      funext y
      by_cases h1 : y = Str.ofString "turn"
      · rw [if_pos h1, if_pos h1]
      · rw [if_neg h1, if_neg h1, if_neg h1]
        by_cases h2 : y = Str.ofString "formatter"
        · rw [if_pos h2, h2, hmf]
        · rw [if_neg h2]
    have e' : (fun y => if y = Str.ofString "turn" then some (Value.int (0 + (i : Int) * 1) t) else if y = Str.ofString "formatter" then some (.ref f) else m0 y) = fun y => if y = Str.ofString "turn" then some (Value.int (0 + (i : Int) * 1) t) else m0 y := by
      funext y
      by_cases h1 : y = Str.ofString "turn"
      · rw [if_pos h1, if_pos h1]
      · rw [if_neg h1, if_neg h1]
        by_cases h2 : y = Str.ofString "formatter"
        · rw [if_pos h2, h2, hmf]
        · rw [if_neg h2]
    replace F := e ▸ F
    have N2 := rot8 N
    have oI : ∀ p ∈ tail, p.1 ≠ I := fun p hp => off p (by (iterate 7 refine List.Mem.tail _ ?_); exact hp)
    have ix : x ≠ I := off (x, _) (.head _)
    have id : d ≠ I := off (d, _) (.tail _ (.head _))
    have i1 : 174 ≠ I := off (174, _) (.tail _ (.tail _ (.head _)))
    have i2 : 181 ≠ I := off (181, _) (.tail _ (.tail _ (.tail _ (.head _))))
    have il : l ≠ I := off (l, _) (.tail _ (.tail _ (.tail _ (.tail _ (.head _)))))
    have jf : f ≠ I := off (f, _) (.tail _ (.tail _ (.tail _ (.tail _ (.tail _ (.head _))))))
    have jfd : fd ≠ I := off (fd, _) (.tail _ (.tail _ (.tail _ (.tail _ (.tail _ (.tail _ (.head _)))))))
    have hq2 : ∀ q ∈ qs, (q.at_, q.obj) ∈ (I, io) :: tail := fun q h => .tail _ (hq q h)
    have ox2 := sep_cons (o := io) (fun h => ix h.symm) ox
    have od2 := sep_cons (o := io) (fun h => id h.symm) od
    have ol2 := sep_cons (o := io) (fun h => il h.symm) ol
    have o12 := sep_cons (o := io) (fun h => i1 h.symm) o1'
    have o22 := sep_cons (o := io) (fun h => i2 h.symm) o2'
    have hln : ls.length = q := by have := congrArg List.length hls; simpa using this
    have hql : q ≤ 10 := by
      have : q * 1 ≤ q * wd := Nat.mul_le_mul_left _ hw
      omega
    by_cases hf : qs.length + 1 ≤ wd
    · have hfit : (qs.length : Int) + 1 ≤ (wd : Int) := by omega
      w_strict (repeat' (first | ((with_reducible refine Mine.Stop.un ?_); (first | with_reducible (first | (k_here; (with_reducible show wpAny _ _ (call (Value.ref 233) _) _ _ _); k_dflt (refine' Mine.quote_spec ?B ?F ?X ?T ?hk ?hdp ?hu ?N ?hy ?_; (case B => k_asm); (case F => k_asm); (case X => k_asm); (case T => k_asm); (case hk => first | assumption | exact rfl); (case hdp => ((try simp only [depth_under_make, depth_under_kw, depth_in1, depth_deeper, depth_caller, units_in1, units_deeper, Around.mark_units, units_caller]); (try dsimp only [ktrTop]); omega)); (case hu => ((try simp only [depth_under_make, depth_under_kw, depth_in1, depth_deeper, depth_caller, units_in1, units_deeper, Around.mark_units, units_caller]); (try dsimp only [ktrTop]); omega)); (case N => assumption); (case hy => assumption); intro h' t' tk' F' N')) | (k_here; (with_reducible show wpAny _ _ (call (Value.ref 76) _) _ _ _); k_dflt (refine' Mine.str76_nil ?B ?F ?X ?T ?hk ?hdp ?hu ?G ?N ?p1 ?p2 ?ox ?od ?ol ?o1 ?o2 ?a1 ?a2 ?a3 ?a4 ?a5 ?hends ?hb ?hls ?_; (case B => k_asm); (case F => k_asm); (case X => k_asm); (case T => k_asm); (case hk => first | assumption | exact rfl); (case hdp => ((try simp only [depth_under_make, depth_under_kw, depth_in1, depth_deeper, depth_caller, units_in1, units_deeper, Around.mark_units, units_caller]); (try dsimp only [ktrTop]); omega)); (case hu => ((try simp only [depth_under_make, depth_under_kw, depth_in1, depth_deeper, depth_caller, units_in1, units_deeper, Around.mark_units, units_caller]); (try dsimp only [ktrTop]); omega)); (case G => assumption); (case N => assumption); (case p1 => assumption); (case p2 => assumption); (case ox => assumption); (case od => assumption); (case ol => assumption); (case o1 => assumption); (case o2 => assumption); (case a1 => omega); (case a2 => omega); (case a3 => omega); (case a4 => omega); (case a5 => omega); (case hls => omega); (case hends => assumption); (case hb => assumption); intro s' ps1' ps2' t' F' N' hps1' hps2' G' os')) | (k_here; (with_reducible show wpAny _ _ (call (Value.ref 76) _) _ _ _); k_dflt (refine' Mine.str76_snoc ?B ?F ?X ?T ?hk ?hdp ?hu ?G ?N ?p1 ?p2 ?hqs ?ox ?od ?ol ?o1 ?o2 ?a1 ?a2 ?a3 ?a4 ?a5 ?a6 ?hn ?hls ?hdot ?hends ?hb ?_; (case B => k_asm); (case F => k_asm); (case X => k_asm); (case T => k_asm); (case hk => first | assumption | exact rfl); (case hdp => ((try simp only [depth_under_make, depth_under_kw, depth_in1, depth_deeper, depth_caller, units_in1, units_deeper, Around.mark_units, units_caller]); (try dsimp only [ktrTop]); omega)); (case hu => ((try simp only [depth_under_make, depth_under_kw, depth_in1, depth_deeper, depth_caller, units_in1, units_deeper, Around.mark_units, units_caller]); (try dsimp only [ktrTop]); omega)); (case G => assumption); (case N => assumption); (case p1 => assumption); (case p2 => assumption); (case hqs => assumption); (case ox => assumption); (case od => assumption); (case ol => assumption); (case o1 => assumption); (case o2 => assumption); (case a1 => omega); (case a2 => omega); (case a3 => omega); (case a4 => omega); (case a5 => omega); (case a6 => omega); (case hn => omega); (case hls => omega); (case hdot => assumption); (case hends => assumption); (case hb => assumption); intro s' ps1' ps2' t' F' N' hps1' hps2' G' os')) | (k_here; (with_reducible show wpAny _ _ (call (Value.ref 128) _) _ _ _); k_dflt (refine' Mine.fmt_spec ?B ?F ?X ?T ?hk ?hdp ?hu ?N ?_; (case B => k_asm); (case F => k_asm); (case X => k_asm); (case T => k_asm); (case hk => first | assumption | exact rfl); (case hdp => ((try simp only [depth_under_make, depth_under_kw, depth_in1, depth_deeper, depth_caller, units_in1, units_deeper, Around.mark_units, units_caller]); (try dsimp only [ktrTop]); omega)); (case hu => ((try simp only [depth_under_make, depth_under_kw, depth_in1, depth_deeper, depth_caller, units_in1, units_deeper, Around.mark_units, units_caller]); (try dsimp only [ktrTop]); omega)); (case N => assumption); intro f' fd' l' x' d' h' tk' z1' z2' u1' u2' u3' u4' u5' u6' v1' v2' v3' v4' F' N' b1 b2 b3 b4 b5; (try k_lt b1); replace N' := Mine.rot7 N')) | (k_here; (with_reducible show wpAny _ _ (call (Value.ref 125) _) _ _ _); k_dflt (refine' Mine.append_over ?B ?F ?X ?T ?hk ?hdp ?hu ?G ?N ?p1 ?p2 ?hqs ?ox ?od ?ol ?o1 ?o2 ?a1 ?a2 ?a3 ?a4 ?a5 ?hn ?hls ?hdot ?hover ?hne ?_; (case B => k_asm); (case F => k_asm); (case X => k_asm); (case T => k_asm); (case hk => first | assumption | exact rfl); (case hdp => ((try simp only [depth_under_make, depth_under_kw, depth_in1, depth_deeper, depth_caller, units_in1, units_deeper, Around.mark_units, units_caller]); (try dsimp only [ktrTop]); omega)); (case hu => ((try simp only [depth_under_make, depth_under_kw, depth_in1, depth_deeper, depth_caller, units_in1, units_deeper, Around.mark_units, units_caller]); (try dsimp only [ktrTop]); omega)); (case G => assumption); (case N => assumption); (case p1 => assumption); (case p2 => assumption); (case hqs => assumption); (case ox => assumption); (case od => assumption); (case ol => assumption); (case o1 => assumption); (case o2 => assumption); (case a1 => omega); (case a2 => omega); (case a3 => omega); (case a4 => omega); (case a5 => omega); (case hn => omega); (case hls => omega); (case hdot => assumption); (case hover => assumption); (case hne => assumption); intro s' ps1' ps2' n' k' t' z3' T' F' N' lT lA hps1' hps2' G' os')) | (k_here; (with_reducible show wpAny _ _ (call (Value.ref 125) _) _ _ _); k_dflt (refine' Mine.append_fit ?B ?F ?X ?T ?hk ?hdp ?hu ?G ?N ?p1 ?p2 ?hqs ?ox ?od ?ol ?o1 ?o2 ?a1 ?a2 ?a3 ?a4 ?a5 ?hn ?hls ?hdot ?hfit ?_; (case B => k_asm); (case F => k_asm); (case X => k_asm); (case T => k_asm); (case hk => first | assumption | exact rfl); (case hdp => ((try simp only [depth_under_make, depth_under_kw, depth_in1, depth_deeper, depth_caller, units_in1, units_deeper, Around.mark_units, units_caller]); (try dsimp only [ktrTop]); omega)); (case hu => ((try simp only [depth_under_make, depth_under_kw, depth_in1, depth_deeper, depth_caller, units_in1, units_deeper, Around.mark_units, units_caller]); (try dsimp only [ktrTop]); omega)); (case G => assumption); (case N => assumption); (case p1 => assumption); (case p2 => assumption); (case hqs => assumption); (case ox => assumption); (case od => assumption); (case ol => assumption); (case o1 => assumption); (case o2 => assumption); (case a1 => omega); (case a2 => omega); (case a3 => omega); (case a4 => omega); (case a5 => omega); (case hn => omega); (case hls => omega); (case hdot => assumption); (case hfit => assumption); intro s' ps1' n' T' F' N' lT lA hps1' G' os')) | (k_here; k_dflt (refine wpAny_call ?_; (refine' code_def ?k1 ?k2 ?k3 ?k4 ?k5 ?kA ?kF ?kK ?k6 ?k7 ?k8 ?k9 ?kB ?_ ?c2 ?c3 ?c4 ?c5; (case kA => exact rfl); (case kF => exact rfl); (case kK => first | assumption | exact rfl); (case k1 => k_asm); (case k2 => k_asm); (case k3 => k_asm); (case k4 => k_asm); (case k5 => k_asm); (case k6 => k_is); (case k7 => k_is); (case k8 => k_room); (case k9 => first | exact BindsTo.of_eq rfl | exact binds_K (by k_in) rfl (by k_is) rfl rfl rfl); (case c5 => decide); (case kB => exact locs rfl); (case c2 => exact rfl); (case c3 => exact rfl); (case c4 => exact rfl); k_whole; intro g' L' h' FG' F' N' B' X' T'; (try dsimp only); (try k_lift B'); (try k_fold))))) | (have ns9 : Mine.NoStop := trivial; walk1; (all_goals (try clear ns9))))) | (k_unfold; (try dsimp only)) | (k_end; wrow_close) | walk1 | (dsimp only; walk1) | (leave1; walk_say "STEP leave1"; try dsimp only) | fail "no step"))
      exact PostL.nxt (sent_fit (q := q) (by assumption) (by assumption) e' hmf (by assumption) (by assumption) (by assumption) q2 (by assumption) (Eq.trans (by assumption) os1) hq ox od ol o1' o2' sub a1 a2 a3 a4 a5 dot hgt hls hi' hf oI ix id i1 i2 il jf jfd)
    · have hover : (wd : Int) ≤ (qs.length : Int) := by omega
      have hne : 0 < qs.length := by omega
      w_strict (repeat' (first | ((with_reducible refine Mine.Stop.un ?_); (first | with_reducible (first | (k_here; (with_reducible show wpAny _ _ (call (Value.ref 233) _) _ _ _); k_dflt (refine' Mine.quote_spec ?B ?F ?X ?T ?hk ?hdp ?hu ?N ?hy ?_; (case B => k_asm); (case F => k_asm); (case X => k_asm); (case T => k_asm); (case hk => first | assumption | exact rfl); (case hdp => ((try simp only [depth_under_make, depth_under_kw, depth_in1, depth_deeper, depth_caller, units_in1, units_deeper, Around.mark_units, units_caller]); (try dsimp only [ktrTop]); omega)); (case hu => ((try simp only [depth_under_make, depth_under_kw, depth_in1, depth_deeper, depth_caller, units_in1, units_deeper, Around.mark_units, units_caller]); (try dsimp only [ktrTop]); omega)); (case N => assumption); (case hy => assumption); intro h' t' tk' F' N')) | (k_here; (with_reducible show wpAny _ _ (call (Value.ref 76) _) _ _ _); k_dflt (refine' Mine.str76_nil ?B ?F ?X ?T ?hk ?hdp ?hu ?G ?N ?p1 ?p2 ?ox ?od ?ol ?o1 ?o2 ?a1 ?a2 ?a3 ?a4 ?a5 ?hends ?hb ?hls ?_; (case B => k_asm); (case F => k_asm); (case X => k_asm); (case T => k_asm); (case hk => first | assumption | exact rfl); (case hdp => ((try simp only [depth_under_make, depth_under_kw, depth_in1, depth_deeper, depth_caller, units_in1, units_deeper, Around.mark_units, units_caller]); (try dsimp only [ktrTop]); omega)); (case hu => ((try simp only [depth_under_make, depth_under_kw, depth_in1, depth_deeper, depth_caller, units_in1, units_deeper, Around.mark_units, units_caller]); (try dsimp only [ktrTop]); omega)); (case G => assumption); (case N => assumption); (case p1 => assumption); (case p2 => assumption); (case ox => assumption); (case od => assumption); (case ol => assumption); (case o1 => assumption); (case o2 => assumption); (case a1 => omega); (case a2 => omega); (case a3 => omega); (case a4 => omega); (case a5 => omega); (case hls => omega); (case hends => assumption); (case hb => assumption); intro s' ps1' ps2' t' F' N' hps1' hps2' G' os')) | (k_here; (with_reducible show wpAny _ _ (call (Value.ref 76) _) _ _ _); k_dflt (refine' Mine.str76_snoc ?B ?F ?X ?T ?hk ?hdp ?hu ?G ?N ?p1 ?p2 ?hqs ?ox ?od ?ol ?o1 ?o2 ?a1 ?a2 ?a3 ?a4 ?a5 ?a6 ?hn ?hls ?hdot ?hends ?hb ?_; (case B => k_asm); (case F => k_asm); (case X => k_asm); (case T => k_asm); (case hk => first | assumption | exact rfl); (case hdp => ((try simp only [depth_under_make, depth_under_kw, depth_in1, depth_deeper, depth_caller, units_in1, units_deeper, Around.mark_units, units_caller]); (try dsimp only [ktrTop]); omega)); (case hu => ((try simp only [depth_under_make, depth_under_kw, depth_in1, depth_deeper, depth_caller, units_in1, units_deeper, Around.mark_units, units_caller]); (try dsimp only [ktrTop]); omega)); (case G => assumption); (case N => assumption); (case p1 => assumption); (case p2 => assumption); (case hqs => assumption); (case ox => assumption); (case od => assumption); (case ol => assumption); (case o1 => assumption); (case o2 => assumption); (case a1 => omega); (case a2 => omega); (case a3 => omega); (case a4 => omega); (case a5 => omega); (case a6 => omega); (case hn => omega); (case hls => omega); (case hdot => assumption); (case hends => assumption); (case hb => assumption); intro s' ps1' ps2' t' F' N' hps1' hps2' G' os')) | (k_here; (with_reducible show wpAny _ _ (call (Value.ref 128) _) _ _ _); k_dflt (refine' Mine.fmt_spec ?B ?F ?X ?T ?hk ?hdp ?hu ?N ?_; (case B => k_asm); (case F => k_asm); (case X => k_asm); (case T => k_asm); (case hk => first | assumption | exact rfl); (case hdp => ((try simp only [depth_under_make, depth_under_kw, depth_in1, depth_deeper, depth_caller, units_in1, units_deeper, Around.mark_units, units_caller]); (try dsimp only [ktrTop]); omega)); (case hu => ((try simp only [depth_under_make, depth_under_kw, depth_in1, depth_deeper, depth_caller, units_in1, units_deeper, Around.mark_units, units_caller]); (try dsimp only [ktrTop]); omega)); (case N => assumption); intro f' fd' l' x' d' h' tk' z1' z2' u1' u2' u3' u4' u5' u6' v1' v2' v3' v4' F' N' b1 b2 b3 b4 b5; (try k_lt b1); replace N' := Mine.rot7 N')) | (k_here; (with_reducible show wpAny _ _ (call (Value.ref 125) _) _ _ _); k_dflt (refine' Mine.append_over ?B ?F ?X ?T ?hk ?hdp ?hu ?G ?N ?p1 ?p2 ?hqs ?ox ?od ?ol ?o1 ?o2 ?a1 ?a2 ?a3 ?a4 ?a5 ?hn ?hls ?hdot ?hover ?hne ?_; (case B => k_asm); (case F => k_asm); (case X => k_asm); (case T => k_asm); (case hk => first | assumption | exact rfl); (case hdp => ((try simp only [depth_under_make, depth_under_kw, depth_in1, depth_deeper, depth_caller, units_in1, units_deeper, Around.mark_units, units_caller]); (try dsimp only [ktrTop]); omega)); (case hu => ((try simp only [depth_under_make, depth_under_kw, depth_in1, depth_deeper, depth_caller, units_in1, units_deeper, Around.mark_units, units_caller]); (try dsimp only [ktrTop]); omega)); (case G => assumption); (case N => assumption); (case p1 => assumption); (case p2 => assumption); (case hqs => assumption); (case ox => assumption); (case od => assumption); (case ol => assumption); (case o1 => assumption); (case o2 => assumption); (case a1 => omega); (case a2 => omega); (case a3 => omega); (case a4 => omega); (case a5 => omega); (case hn => omega); (case hls => omega); (case hdot => assumption); (case hover => assumption); (case hne => assumption); intro s' ps1' ps2' n' k' t' z3' T' F' N' lT lA hps1' hps2' G' os')) | (k_here; (with_reducible show wpAny _ _ (call (Value.ref 125) _) _ _ _); k_dflt (refine' Mine.append_fit ?B ?F ?X ?T ?hk ?hdp ?hu ?G ?N ?p1 ?p2 ?hqs ?ox ?od ?ol ?o1 ?o2 ?a1 ?a2 ?a3 ?a4 ?a5 ?hn ?hls ?hdot ?hfit ?_; (case B => k_asm); (case F => k_asm); (case X => k_asm); (case T => k_asm); (case hk => first | assumption | exact rfl); (case hdp => ((try simp only [depth_under_make, depth_under_kw, depth_in1, depth_deeper, depth_caller, units_in1, units_deeper, Around.mark_units, units_caller]); (try dsimp only [ktrTop]); omega)); (case hu => ((try simp only [depth_under_make, depth_under_kw, depth_in1, depth_deeper, depth_caller, units_in1, units_deeper, Around.mark_units, units_caller]); (try dsimp only [ktrTop]); omega)); (case G => assumption); (case N => assumption); (case p1 => assumption); (case p2 => assumption); (case hqs => assumption); (case ox => assumption); (case od => assumption); (case ol => assumption); (case o1 => assumption); (case o2 => assumption); (case a1 => omega); (case a2 => omega); (case a3 => omega); (case a4 => omega); (case a5 => omega); (case hn => omega); (case hls => omega); (case hdot => assumption); (case hfit => assumption); intro s' ps1' n' T' F' N' lT lA hps1' G' os')) | (k_here; k_dflt (refine wpAny_call ?_; (refine' code_def ?k1 ?k2 ?k3 ?k4 ?k5 ?kA ?kF ?kK ?k6 ?k7 ?k8 ?k9 ?kB ?_ ?c2 ?c3 ?c4 ?c5; (case kA => exact rfl); (case kF => exact rfl); (case kK => first | assumption | exact rfl); (case k1 => k_asm); (case k2 => k_asm); (case k3 => k_asm); (case k4 => k_asm); (case k5 => k_asm); (case k6 => k_is); (case k7 => k_is); (case k8 => k_room); (case k9 => first | exact BindsTo.of_eq rfl | exact binds_K (by k_in) rfl (by k_is) rfl rfl rfl); (case c5 => decide); (case kB => exact locs rfl); (case c2 => exact rfl); (case c3 => exact rfl); (case c4 => exact rfl); k_whole; intro g' L' h' FG' F' N' B' X' T'; (try dsimp only); (try k_lift B'); (try k_fold))))) | (have ns9 : Mine.NoStop := trivial; walk1; (all_goals (try clear ns9))))) | (k_unfold; (try dsimp only)) | (k_end; wrow_close) | walk1 | (dsimp only; walk1) | (leave1; walk_say "STEP leave1"; try dsimp only) | fail "no step"))
      exact PostL.nxt (sent_over (q := q) (by assumption) (by assumption) e' hmf (by assumption) (by assumption) (by assumption) (by assumption) (by assumption) (Eq.trans (by assumption) os1) ox od ol o1' o2' sub a1 a2 a3 a4 a5 hls hi' (by omega) hw oI ix id i1 i2 il jf jfd)
  case done =>
    intro m1 news1 s1 R kk F N
    obtain ⟨u, f, fd, l, x, d, n, k, z1, z2, u1, u2, u3, u4, u5, u6, v1, v2, v3, v4, ls, qs, ps1, ps2, tail, q, rfl, hmf, rfl, q1, q2, hq, ox, od, ol, o1', o2', sub, a1, a2, a3, a4, a5, dot, hgt, hls, hi', hle, hpos, G1, os1⟩ := R
    have hln : ls.length = q := by have := congrArg List.length hls; simpa using this
    have hql : q ≤ 10 := by
      have : q * 1 ≤ q * wd := Nat.mul_le_mul_left _ hw
      omega
    have hbl : ∀ p ∈ ls, p.1.length ≤ 1000 := by
      intro p hp
      have h1 : p.1 ∈ ls.map (·.1) := List.mem_map.mpr ⟨p, hp, rfl⟩
      rw [hls] at h1
      rw [(List.mem_replicate.mp h1).2, dotsS_length]
      omega
    by_cases hz : qs = []
    · subst hz
      have hs0 : size = 0 := by
        rcases Nat.eq_zero_or_pos size with h | h
        · exact h
        · exact absurd (hpos h) (by simp)
      subst hs0
      have hq0 : q = 0 := by
        rcases Nat.eq_zero_or_pos q with h | h
        · exact h
        · have : 1 * 1 ≤ q * wd := Nat.mul_le_mul h hw
          simp at hi'
          omega
      subst hq0
      simp only [List.replicate_zero, List.map_eq_nil_iff] at hls
      subst hls
      subst hm0
      have hmf2 : (some (Value.ref _) : Option Value) = some (.ref f) := hmf
      obtain rfl := Value.ref.inj (Option.some.inj hmf2)
      replace N := open_nil N
      clear hgt hq dot
      w_strict (repeat' (first | ((with_reducible refine Mine.Stop.un ?_); (first | with_reducible (first | (k_here; (with_reducible show wpAny _ _ (call (Value.ref 233) _) _ _ _); k_dflt (refine' Mine.quote_spec ?B ?F ?X ?T ?hk ?hdp ?hu ?N ?hy ?_; (case B => k_asm); (case F => k_asm); (case X => k_asm); (case T => k_asm); (case hk => first | assumption | exact rfl); (case hdp => ((try simp only [depth_under_make, depth_under_kw, depth_in1, depth_deeper, depth_caller, units_in1, units_deeper, Around.mark_units, units_caller]); (try dsimp only [ktrTop]); omega)); (case hu => ((try simp only [depth_under_make, depth_under_kw, depth_in1, depth_deeper, depth_caller, units_in1, units_deeper, Around.mark_units, units_caller]); (try dsimp only [ktrTop]); omega)); (case N => assumption); (case hy => assumption); intro h' t' tk' F' N')) | (k_here; (with_reducible show wpAny _ _ (call (Value.ref 76) _) _ _ _); k_dflt (refine' Mine.str76_nil ?B ?F ?X ?T ?hk ?hdp ?hu ?G ?N ?p1 ?p2 ?ox ?od ?ol ?o1 ?o2 ?a1 ?a2 ?a3 ?a4 ?a5 ?hends ?hb ?hls ?_; (case B => k_asm); (case F => k_asm); (case X => k_asm); (case T => k_asm); (case hk => first | assumption | exact rfl); (case hdp => ((try simp only [depth_under_make, depth_under_kw, depth_in1, depth_deeper, depth_caller, units_in1, units_deeper, Around.mark_units, units_caller]); (try dsimp only [ktrTop]); omega)); (case hu => ((try simp only [depth_under_make, depth_under_kw, depth_in1, depth_deeper, depth_caller, units_in1, units_deeper, Around.mark_units, units_caller]); (try dsimp only [ktrTop]); omega)); (case G => assumption); (case N => assumption); (case p1 => assumption); (case p2 => assumption); (case ox => assumption); (case od => assumption); (case ol => assumption); (case o1 => assumption); (case o2 => assumption); (case a1 => omega); (case a2 => omega); (case a3 => omega); (case a4 => omega); (case a5 => omega); (case hls => omega); (case hends => assumption); (case hb => assumption); intro s' ps1' ps2' t' F' N' hps1' hps2' G' os')) | (k_here; (with_reducible show wpAny _ _ (call (Value.ref 76) _) _ _ _); k_dflt (refine' Mine.str76_snoc ?B ?F ?X ?T ?hk ?hdp ?hu ?G ?N ?p1 ?p2 ?hqs ?ox ?od ?ol ?o1 ?o2 ?a1 ?a2 ?a3 ?a4 ?a5 ?a6 ?hn ?hls ?hdot ?hends ?hb ?_; (case B => k_asm); (case F => k_asm); (case X => k_asm); (case T => k_asm); (case hk => first | assumption | exact rfl); (case hdp => ((try simp only [depth_under_make, depth_under_kw, depth_in1, depth_deeper, depth_caller, units_in1, units_deeper, Around.mark_units, units_caller]); (try dsimp only [ktrTop]); omega)); (case hu => ((try simp only [depth_under_make, depth_under_kw, depth_in1, depth_deeper, depth_caller, units_in1, units_deeper, Around.mark_units, units_caller]); (try dsimp only [ktrTop]); omega)); (case G => assumption); (case N => assumption); (case p1 => assumption); (case p2 => assumption); (case hqs => assumption); (case ox => assumption); (case od => assumption); (case ol => assumption); (case o1 => assumption); (case o2 => assumption); (case a1 => omega); (case a2 => omega); (case a3 => omega); (case a4 => omega); (case a5 => omega); (case a6 => omega); (case hn => omega); (case hls => omega); (case hdot => assumption); (case hends => assumption); (case hb => assumption); intro s' ps1' ps2' t' F' N' hps1' hps2' G' os')) | (k_here; (with_reducible show wpAny _ _ (call (Value.ref 128) _) _ _ _); k_dflt (refine' Mine.fmt_spec ?B ?F ?X ?T ?hk ?hdp ?hu ?N ?_; (case B => k_asm); (case F => k_asm); (case X => k_asm); (case T => k_asm); (case hk => first | assumption | exact rfl); (case hdp => ((try simp only [depth_under_make, depth_under_kw, depth_in1, depth_deeper, depth_caller, units_in1, units_deeper, Around.mark_units, units_caller]); (try dsimp only [ktrTop]); omega)); (case hu => ((try simp only [depth_under_make, depth_under_kw, depth_in1, depth_deeper, depth_caller, units_in1, units_deeper, Around.mark_units, units_caller]); (try dsimp only [ktrTop]); omega)); (case N => assumption); intro f' fd' l' x' d' h' tk' z1' z2' u1' u2' u3' u4' u5' u6' v1' v2' v3' v4' F' N' b1 b2 b3 b4 b5; (try k_lt b1); replace N' := Mine.rot7 N')) | (k_here; (with_reducible show wpAny _ _ (call (Value.ref 125) _) _ _ _); k_dflt (refine' Mine.append_over ?B ?F ?X ?T ?hk ?hdp ?hu ?G ?N ?p1 ?p2 ?hqs ?ox ?od ?ol ?o1 ?o2 ?a1 ?a2 ?a3 ?a4 ?a5 ?hn ?hls ?hdot ?hover ?hne ?_; (case B => k_asm); (case F => k_asm); (case X => k_asm); (case T => k_asm); (case hk => first | assumption | exact rfl); (case hdp => ((try simp only [depth_under_make, depth_under_kw, depth_in1, depth_deeper, depth_caller, units_in1, units_deeper, Around.mark_units, units_caller]); (try dsimp only [ktrTop]); omega)); (case hu => ((try simp only [depth_under_make, depth_under_kw, depth_in1, depth_deeper, depth_caller, units_in1, units_deeper, Around.mark_units, units_caller]); (try dsimp only [ktrTop]); omega)); (case G => assumption); (case N => assumption); (case p1 => assumption); (case p2 => assumption); (case hqs => assumption); (case ox => assumption); (case od => assumption); (case ol => assumption); (case o1 => assumption); (case o2 => assumption); (case a1 => omega); (case a2 => omega); (case a3 => omega); (case a4 => omega); (case a5 => omega); (case hn => omega); (case hls => omega); (case hdot => assumption); (case hover => assumption); (case hne => assumption); intro s' ps1' ps2' n' k' t' z3' T' F' N' lT lA hps1' hps2' G' os')) | (k_here; (with_reducible show wpAny _ _ (call (Value.ref 125) _) _ _ _); k_dflt (refine' Mine.append_fit ?B ?F ?X ?T ?hk ?hdp ?hu ?G ?N ?p1 ?p2 ?hqs ?ox ?od ?ol ?o1 ?o2 ?a1 ?a2 ?a3 ?a4 ?a5 ?hn ?hls ?hdot ?hfit ?_; (case B => k_asm); (case F => k_asm); (case X => k_asm); (case T => k_asm); (case hk => first | assumption | exact rfl); (case hdp => ((try simp only [depth_under_make, depth_under_kw, depth_in1, depth_deeper, depth_caller, units_in1, units_deeper, Around.mark_units, units_caller]); (try dsimp only [ktrTop]); omega)); (case hu => ((try simp only [depth_under_make, depth_under_kw, depth_in1, depth_deeper, depth_caller, units_in1, units_deeper, Around.mark_units, units_caller]); (try dsimp only [ktrTop]); omega)); (case G => assumption); (case N => assumption); (case p1 => assumption); (case p2 => assumption); (case hqs => assumption); (case ox => assumption); (case od => assumption); (case ol => assumption); (case o1 => assumption); (case o2 => assumption); (case a1 => omega); (case a2 => omega); (case a3 => omega); (case a4 => omega); (case a5 => omega); (case hn => omega); (case hls => omega); (case hdot => assumption); (case hfit => assumption); intro s' ps1' n' T' F' N' lT lA hps1' G' os')) | (k_here; k_dflt (refine wpAny_call ?_; (refine' code_def ?k1 ?k2 ?k3 ?k4 ?k5 ?kA ?kF ?kK ?k6 ?k7 ?k8 ?k9 ?kB ?_ ?c2 ?c3 ?c4 ?c5; (case kA => exact rfl); (case kF => exact rfl); (case kK => first | assumption | exact rfl); (case k1 => k_asm); (case k2 => k_asm); (case k3 => k_asm); (case k4 => k_asm); (case k5 => k_asm); (case k6 => k_is); (case k7 => k_is); (case k8 => k_room); (case k9 => first | exact BindsTo.of_eq rfl | exact binds_K (by k_in) rfl (by k_is) rfl rfl rfl); (case c5 => decide); (case kB => exact locs rfl); (case c2 => exact rfl); (case c3 => exact rfl); (case c4 => exact rfl); k_whole; intro g' L' h' FG' F' N' B' X' T'; (try dsimp only); (try k_lift B'); (try k_fold))))) | (have ns9 : Mine.NoStop := trivial; walk1; (all_goals (try clear ns9))))) | (k_unfold; (try dsimp only)) | (k_end; wrow_close) | walk1 | (dsimp only; walk1) | (leave1; walk_say "STEP leave1"; try dsimp only) | fail "no step"))
      exact hret _ _ _ _ (by assumption) (close_tabs (by assumption) sub) (by assumption) (by assumption) (by assumption) (Eq.trans (by assumption) os1)
    · obtain ⟨rs, T, e⟩ : ∃ rs T, qs = rs ++ [T] := ⟨_, _, (List.dropLast_concat_getLast hz).symm⟩
      subst e
      obtain ⟨A0, f0, y1, s0, y2⟩ := T
      obtain ⟨e1, e2⟩ := dot _ (List.mem_append_right _ (.head _))
      dsimp only at e1 e2
      subst e1 e2
      subst hm0
      have hmf2 : (some (Value.ref _) : Option Value) = some (.ref f) := hmf
      obtain rfl := Value.ref.inj (Option.some.inj hmf2)
      have hA0 : (A0, tupO [.str "" y1, .str "." y2]) ∈ tail := hq _ (List.mem_append_right _ (.head _))
      have hxA : x < A0 := hgt _ (List.mem_append_right _ (.head _))
      have hqr : ∀ q ∈ rs, (q.at_, q.obj) ∈ tail := fun q h => hq q (List.mem_append_left _ h)
      have dotr : Dots rs := fun q h => dot q (List.mem_append_left _ h)
      have hrl : rs.length ≤ 100 := by rw [List.length_append] at hle; omega
      replace N := open_snoc N hA0
      clear hgt hq dot
      have ht : sentText wd size ends = Str.join ends (ls.map (·.1) ++ [dotsS (rs.length + 1)]) := by
        rw [hls]
        exact sent_text (by rw [hi', List.length_append]; rfl) (by rw [List.length_append] at hle; exact hle)
      rw [ht] at hy
      w_strict (repeat' (first | ((with_reducible refine Mine.Stop.un ?_); (first | with_reducible (first | (k_here; (with_reducible show wpAny _ _ (call (Value.ref 233) _) _ _ _); k_dflt (refine' Mine.quote_spec ?B ?F ?X ?T ?hk ?hdp ?hu ?N ?hy ?_; (case B => k_asm); (case F => k_asm); (case X => k_asm); (case T => k_asm); (case hk => first | assumption | exact rfl); (case hdp => ((try simp only [depth_under_make, depth_under_kw, depth_in1, depth_deeper, depth_caller, units_in1, units_deeper, Around.mark_units, units_caller]); (try dsimp only [ktrTop]); omega)); (case hu => ((try simp only [depth_under_make, depth_under_kw, depth_in1, depth_deeper, depth_caller, units_in1, units_deeper, Around.mark_units, units_caller]); (try dsimp only [ktrTop]); omega)); (case N => assumption); (case hy => assumption); intro h' t' tk' F' N')) | (k_here; (with_reducible show wpAny _ _ (call (Value.ref 76) _) _ _ _); k_dflt (refine' Mine.str76_nil ?B ?F ?X ?T ?hk ?hdp ?hu ?G ?N ?p1 ?p2 ?ox ?od ?ol ?o1 ?o2 ?a1 ?a2 ?a3 ?a4 ?a5 ?hends ?hb ?hls ?_; (case B => k_asm); (case F => k_asm); (case X => k_asm); (case T => k_asm); (case hk => first | assumption | exact rfl); (case hdp => ((try simp only [depth_under_make, depth_under_kw, depth_in1, depth_deeper, depth_caller, units_in1, units_deeper, Around.mark_units, units_caller]); (try dsimp only [ktrTop]); omega)); (case hu => ((try simp only [depth_under_make, depth_under_kw, depth_in1, depth_deeper, depth_caller, units_in1, units_deeper, Around.mark_units, units_caller]); (try dsimp only [ktrTop]); omega)); (case G => assumption); (case N => assumption); (case p1 => assumption); (case p2 => assumption); (case ox => assumption); (case od => assumption); (case ol => assumption); (case o1 => assumption); (case o2 => assumption); (case a1 => omega); (case a2 => omega); (case a3 => omega); (case a4 => omega); (case a5 => omega); (case hls => omega); (case hends => assumption); (case hb => assumption); intro s' ps1' ps2' t' F' N' hps1' hps2' G' os')) | (k_here; (with_reducible show wpAny _ _ (call (Value.ref 76) _) _ _ _); k_dflt (refine' Mine.str76_snoc ?B ?F ?X ?T ?hk ?hdp ?hu ?G ?N ?p1 ?p2 ?hqs ?ox ?od ?ol ?o1 ?o2 ?a1 ?a2 ?a3 ?a4 ?a5 ?a6 ?hn ?hls ?hdot ?hends ?hb ?_; (case B => k_asm); (case F => k_asm); (case X => k_asm); (case T => k_asm); (case hk => first | assumption | exact rfl); (case hdp => ((try simp only [depth_under_make, depth_under_kw, depth_in1, depth_deeper, depth_caller, units_in1, units_deeper, Around.mark_units, units_caller]); (try dsimp only [ktrTop]); omega)); (case hu => ((try simp only [depth_under_make, depth_under_kw, depth_in1, depth_deeper, depth_caller, units_in1, units_deeper, Around.mark_units, units_caller]); (try dsimp only [ktrTop]); omega)); (case G => assumption); (case N => assumption); (case p1 => assumption); (case p2 => assumption); (case hqs => assumption); (case ox => assumption); (case od => assumption); (case ol => assumption); (case o1 => assumption); (case o2 => assumption); (case a1 => omega); (case a2 => omega); (case a3 => omega); (case a4 => omega); (case a5 => omega); (case a6 => omega); (case hn => omega); (case hls => omega); (case hdot => assumption); (case hends => assumption); (case hb => assumption); intro s' ps1' ps2' t' F' N' hps1' hps2' G' os')) | (k_here; (with_reducible show wpAny _ _ (call (Value.ref 128) _) _ _ _); k_dflt (refine' Mine.fmt_spec ?B ?F ?X ?T ?hk ?hdp ?hu ?N ?_; (case B => k_asm); (case F => k_asm); (case X => k_asm); (case T => k_asm); (case hk => first | assumption | exact rfl); (case hdp => ((try simp only [depth_under_make, depth_under_kw, depth_in1, depth_deeper, depth_caller, units_in1, units_deeper, Around.mark_units, units_caller]); (try dsimp only [ktrTop]); omega)); (case hu => ((try simp only [depth_under_make, depth_under_kw, depth_in1, depth_deeper, depth_caller, units_in1, units_deeper, Around.mark_units, units_caller]); (try dsimp only [ktrTop]); omega)); (case N => assumption); intro f' fd' l' x' d' h' tk' z1' z2' u1' u2' u3' u4' u5' u6' v1' v2' v3' v4' F' N' b1 b2 b3 b4 b5; (try k_lt b1); replace N' := Mine.rot7 N')) | (k_here; (with_reducible show wpAny _ _ (call (Value.ref 125) _) _ _ _); k_dflt (refine' Mine.append_over ?B ?F ?X ?T ?hk ?hdp ?hu ?G ?N ?p1 ?p2 ?hqs ?ox ?od ?ol ?o1 ?o2 ?a1 ?a2 ?a3 ?a4 ?a5 ?hn ?hls ?hdot ?hover ?hne ?_; (case B => k_asm); (case F => k_asm); (case X => k_asm); (case T => k_asm); (case hk => first | assumption | exact rfl); (case hdp => ((try simp only [depth_under_make, depth_under_kw, depth_in1, depth_deeper, depth_caller, units_in1, units_deeper, Around.mark_units, units_caller]); (try dsimp only [ktrTop]); omega)); (case hu => ((try simp only [depth_under_make, depth_under_kw, depth_in1, depth_deeper, depth_caller, units_in1, units_deeper, Around.mark_units, units_caller]); (try dsimp only [ktrTop]); omega)); (case G => assumption); (case N => assumption); (case p1 => assumption); (case p2 => assumption); (case hqs => assumption); (case ox => assumption); (case od => assumption); (case ol => assumption); (case o1 => assumption); (case o2 => assumption); (case a1 => omega); (case a2 => omega); (case a3 => omega); (case a4 => omega); (case a5 => omega); (case hn => omega); (case hls => omega); (case hdot => assumption); (case hover => assumption); (case hne => assumption); intro s' ps1' ps2' n' k' t' z3' T' F' N' lT lA hps1' hps2' G' os')) | (k_here; (with_reducible show wpAny _ _ (call (Value.ref 125) _) _ _ _); k_dflt (refine' Mine.append_fit ?B ?F ?X ?T ?hk ?hdp ?hu ?G ?N ?p1 ?p2 ?hqs ?ox ?od ?ol ?o1 ?o2 ?a1 ?a2 ?a3 ?a4 ?a5 ?hn ?hls ?hdot ?hfit ?_; (case B => k_asm); (case F => k_asm); (case X => k_asm); (case T => k_asm); (case hk => first | assumption | exact rfl); (case hdp => ((try simp only [depth_under_make, depth_under_kw, depth_in1, depth_deeper, depth_caller, units_in1, units_deeper, Around.mark_units, units_caller]); (try dsimp only [ktrTop]); omega)); (case hu => ((try simp only [depth_under_make, depth_under_kw, depth_in1, depth_deeper, depth_caller, units_in1, units_deeper, Around.mark_units, units_caller]); (try dsimp only [ktrTop]); omega)); (case G => assumption); (case N => assumption); (case p1 => assumption); (case p2 => assumption); (case hqs => assumption); (case ox => assumption); (case od => assumption); (case ol => assumption); (case o1 => assumption); (case o2 => assumption); (case a1 => omega); (case a2 => omega); (case a3 => omega); (case a4 => omega); (case a5 => omega); (case hn => omega); (case hls => omega); (case hdot => assumption); (case hfit => assumption); intro s' ps1' n' T' F' N' lT lA hps1' G' os')) | (k_here; k_dflt (refine wpAny_call ?_; (refine' code_def ?k1 ?k2 ?k3 ?k4 ?k5 ?kA ?kF ?kK ?k6 ?k7 ?k8 ?k9 ?kB ?_ ?c2 ?c3 ?c4 ?c5; (case kA => exact rfl); (case kF => exact rfl); (case kK => first | assumption | exact rfl); (case k1 => k_asm); (case k2 => k_asm); (case k3 => k_asm); (case k4 => k_asm); (case k5 => k_asm); (case k6 => k_is); (case k7 => k_is); (case k8 => k_room); (case k9 => first | exact BindsTo.of_eq rfl | exact binds_K (by k_in) rfl (by k_is) rfl rfl rfl); (case c5 => decide); (case kB => exact locs rfl); (case c2 => exact rfl); (case c3 => exact rfl); (case c4 => exact rfl); k_whole; intro g' L' h' FG' F' N' B' X' T'; (try dsimp only); (try k_lift B'); (try k_fold))))) | (have ns9 : Mine.NoStop := trivial; walk1; (all_goals (try clear ns9))))) | (k_unfold; (try dsimp only)) | (k_end; wrow_close) | walk1 | (dsimp only; walk1) | (leave1; walk_say "STEP leave1"; try dsimp only) | fail "no step"))
      exact hret _ _ _ _ (by assumption) (close_tabs (by assumption) sub) (by assumption) (by assumption) (by assumption) (Eq.trans (by assumption) os1)
end
local macro_rules | `(tactic| walk_at "sst2") => `(tactic| ((with_reducible rename Mine.Mark => mk9); walk_at "sst"))
local macro_rules | `(tactic| walk_at "shl") => `(tactic| (k_here; k_dflt (refine Mine.Halt.mk ?_)))
local macro_rules
  | `(tactic| walk_at "exec For Name Call cons nil") => `(tactic| walk_at "sst")
local macro_rules
  | `(tactic| walk_at "subscriptTail Name Slice str ref") => `(tactic| walk_at "sst2")
  | `(tactic| walk_at "exec For Tuple Name cons nil") => `(tactic| walk_at "sst2")
  | `(tactic| walk_at "exec Assign cons ListComp") => `(tactic| walk_at "sst2")
  | `(tactic| walk_at "binaryOp Sub int int") => `(tactic| walk_at "sst2")
  | `(tactic| walk_at "binaryOp Pow int int") => `(tactic| walk_at "sst2")
  | `(tactic| walk_at "binaryOp Add int int") => `(tactic| walk_at "sst2")
  | `(tactic| walk_at "binaryOp Mult ref int") => `(tactic| walk_at "sst2")
  | `(tactic| walk_at "binaryOp Add ref ref") => `(tactic| walk_at "sst2")
section
local macro_rules
  | `(tactic| walk_at "exec While") => `(tactic| walk_at "shl")
  | `(tactic| walk_at "exec While Name cons nil") => `(tactic| walk_at "shl")
noncomputable def dotSum (ks : List Nat) (i : Nat) : Nat := (ks.take i).sum
noncomputable def DotsInv (m0 : Str → Option Value) (ks : List Nat) (nw : List (Addr × Obj)) (s0 : Shared) : Inv := fun i m' news' s' =>
  ∃ (u1 u2 u3 u4 : Option Value) (t : Tok), m' = (fun y => if y = Str.ofString "row" then u1 else if y = Str.ofString "rest" then u2 else if y = Str.ofString "size" then u3 else if y = Str.ofString "kind" then u4 else if y = Str.ofString "dots" then some (.int (dotSum ks i : Nat) t) else m0 y) ∧ news' = nw ∧ ∃ h tk, s' = { s0 with heap := h, toks := tk }
noncomputable def WJ (mb : Str → Option Value) (S k : Nat) (nw : List (Addr × Obj)) : Nat → (Str → Option Value) → List (Addr × Obj) → Prop := fun n m₁ n₁ =>
  ∃ (u3 u4 : Option Value) (t1 t2 : Tok), m₁ = (fun y => if y = Str.ofString "rest" then some (.str (dotsS n) t1) else if y = Str.ofString "dots" then some (.int ((S + (k - n) : Nat) : Int) t2) else if y = Str.ofString "size" then u3 else if y = Str.ofString "kind" then u4 else mb y) ∧ n ≤ k ∧ n₁ = nw
theorem someStr {a b : Str} {t u : Tok} (h : a = b) (e : t = u) : some (Value.str a t) = some (Value.str b u) := by rw [h, e]
theorem someInt {a b : Int} {t u : Tok} (h : a = b) (e : t = u) : some (Value.int a t) = some (Value.int b u) := by rw [h, e]
theorem dotSum_succ {ks : List Nat} {i k : Nat} (h : ks[i]? = some k) : dotSum ks (i + 1) = dotSum ks i + k := by
  unfold dotSum
  rw [List.take_add_one, h, List.sum_append]
  simp
theorem WJ.of {mb m' : Str → Option Value} {S k n : Nat} {nw : List (Addr × Obj)} (h1 : ∃ a t, m' (Str.ofString "rest") = some (.str a t) ∧ a = dotsS n) (h2 : ∃ a t, m' (Str.ofString "dots") = some (.int a t) ∧ a = ((S + (k - n) : Nat) : Int))
    (h3 : ∀ y, y ≠ Str.ofString "rest" → y ≠ Str.ofString "dots" → y ≠ Str.ofString "size" → y ≠ Str.ofString "kind" → m' y = mb y) (hn : n ≤ k) : WJ mb S k nw n m' nw := by
  obtain ⟨_, t1, h1, rfl⟩ := h1
  obtain ⟨_, t2, h2, rfl⟩ := h2
  refine ⟨m' (Str.ofString "size"), m' (Str.ofString "kind"), t1, t2, ?_, hn, rfl⟩
  funext y
  by_cases e1 : y = Str.ofString "rest"
  · rw [if_pos e1, e1, h1]
  rw [if_neg e1]
  by_cases e2 : y = Str.ofString "dots"
  · rw [if_pos e2, e2, h2]
  rw [if_neg e2]
  by_cases e3 : y = Str.ofString "size"
  · rw [if_pos e3, e3]
  rw [if_neg e3]
  by_cases e4 : y = Str.ofString "kind"
  · rw [if_pos e4, e4]
  rw [if_neg e4]
  exact h3 y e1 e2 e3 e4
theorem execs_cons_g {M : Model} {A : Around} {E : Value → Shared → Prop} {s : Shared} {env : Env} {st : Stmt} {rest : List Stmt} {Q : Flow → Shared → Prop}
    (h : ∀ t, wpAny M A (exec st env) (fun f s' => match f with | .next => wpAny M A (execs rest env) Q E s' | f => Q f s') E { heap := s.heap, gens := s.gens, drawn := s.drawn, toks := t, os := s.os }) : wpAny M A (execs (st :: rest) env) Q E s := wpAny_execs_cons (h s.toks)
theorem dots_spec {w : World} {dp un : Nat} {gd : Option (List Code)} {cn : Str} {cs : Scope} {a : Addr} {ccd : Value} {cl : List (Str × Addr)} {outer : List Env} {A₀ : Around} {base h₀ : Heap} {L : Addr} {m : Str → Option Value} {s : Shared} {Q : Value → Shared → Prop} {E : Value → Shared → Prop}
   {mean : ExcName → Option Value} {mg mb : Str → Option Value} {news : List (Addr × Obj)} {pg : Program} {loose : List Str}
   (B : Below A₀ base outer h₀) (F : Fr h₀ L s.heap m) (X : (KN w.params).In h₀) (T : Top pg loose mean mg mb h₀) (hk : cs.kind = .function) (hdp : dp + 20 < 1000) (hu : un + 200 < 9900) {y : Str} {t1 : Tok} {ks : List Nat} (N : News h₀ L s.heap news) (hsp : Txt.split y "\r\n" = ks.map dotsS) (hyl : y.length ≤ 300) (hks : ∀ k ∈ ks, k ≤ 5)
   (hret : ∀ h' t tk', Fr h₀ L h' m → News h₀ L h' news → Q (.int (ks.sum : Nat) t) { s with heap := h', toks := tk' }) :
   wpAny (model PySem.Challenge.rw_tc0050_01.row.prog w) (ktrTop dp un gd cn cs L a ccd cl outer) (call (.ref 247) [.str y t1]) Q E s := by
  ((repeat' (first | (k_unfold; (try dsimp only)) | (k_end; wrow_close) | ((with_reducible refine Mine.Stop.un ?_); (first | with_reducible (first | ((with_reducible show wpAny _ _ (subscriptTail _ (Expr.Slice (some _) none none _) (Value.str _ _) (Value.ref _)) _ _ _); k_dflt (refine slice_strN_sn (hsz := ?zqhsz) (s := ⟨_, _, _, _, _⟩) (by assumption) (by assumption) ?_); (case zqhsz => assumption); intro _ _ _ _ _; (rw [r3])) | ((with_reducible show wpAny _ _ (subscriptTail _ (Expr.Slice none (some _) none _) (Value.str _ _) (Value.ref _)) _ _ _); k_dflt (refine slice_strN_ns (hsz := ?zqhsz) (s := ⟨_, _, _, _, _⟩) (by assumption) (by assumption) ?_); (case zqhsz => assumption); intro _ _ _ _ _; (rw [e3])) | ((with_reducible show wpAny _ _ (exec (Stmt.For (PySem.Expr.Name _ _) _ _ _ _) _) _ _ _); k_dflt (refine Mine.For_led (by assumption) rfl rfl ?_)) | (k_dflt (refine wpAny_call ?_; (refine' code_def ?k1 ?k2 ?k3 ?k4 ?k5 ?kA ?kF ?kK ?k6 ?k7 ?k8 ?k9 ?kB ?_ ?c2 ?c3 ?c4 ?c5; (case kA => exact rfl); (case kF => exact rfl); (case kK => first | assumption | exact rfl); (case k1 => k_asm); (case k2 => k_asm); (case k3 => k_asm); (case k4 => k_asm); (case k5 => k_asm); (case k6 => k_is); (case k7 => k_is); (case k8 => k_room); (case k9 => first | exact BindsTo.of_eq rfl | exact binds_K (by k_in) rfl (by k_is) rfl rfl rfl); (case c5 => decide); (case kB => exact locs rfl); (case c2 => exact rfl); (case c3 => exact rfl); (case c4 => exact rfl); k_whole; intro _ _ _ _ _ _ B9 X9 T9; (try dsimp only); (try k_lift B9); (try k_fold))))) | (have ns9 : Mine.NoStop := trivial; walk1; (all_goals (try clear ns9))))) | walk1 | (dsimp only; walk1) | (leave1; walk_say "STEP leave1"; try dsimp only) | fail "no step")))
  rename_i l h1 k1 e1 a1 a3 a2 F1 N1
  rw [hsp] at e1
  have hlen : l.length = ks.length := by have := congrArg List.length e1; simpa using this
  refine with_map F1 (fun m0 hm0 F10 => ?_)
  refine with_led N1 (fun nw0 hnw0 N10 => ?_)
  obtain ⟨t0, hd0⟩ : ∃ t, m0 (Str.ofString "dots") = some (.int 0 t) := ⟨_, by rw [hm0]; rfl⟩
  refine iter_listL (vs := strValues l) (k := 0) (Rr := DotsInv m0 ks nw0 s) (kl := nw0) rfl ?hl F10 N10 (fun p hp => hp) ?h0 ?hRs ?turn ?done
  case hl => rw [hnw0]; exact .head _
  case h0 =>
    intro h
    refine ⟨m0 (Str.ofString "row"), m0 (Str.ofString "rest"), m0 (Str.ofString "size"), m0 (Str.ofString "kind"), t0, ?_, rfl, h, _, rfl⟩
    · funext y
      by_cases h1 : y = Str.ofString "row"
      · rw [if_pos h1, h1]
      rw [if_neg h1]
      by_cases h1 : y = Str.ofString "rest"
      · rw [if_pos h1, h1]
      rw [if_neg h1]
      by_cases h1 : y = Str.ofString "size"
      · rw [if_pos h1, h1]
      rw [if_neg h1]
      by_cases h1 : y = Str.ofString "kind"
      · rw [if_pos h1, h1]
      rw [if_neg h1]
      by_cases h1 : y = Str.ofString "dots"
      · rw [if_pos h1, h1, hd0]; rfl
      rw [if_neg h1]
  case hRs =>
    rintro i m9 n9 s9 h9 tk9 ⟨u1, u2, u3, u4, t, e1, e2, h, tk, rfl⟩
    exact ⟨u1, u2, u3, u4, t, e1, e2, h9, tk9, rfl⟩
  case turn =>
    intro I i v io m1 news1 s1 hv R off kk lt F N
    obtain ⟨u1, u2, u3, u4, t, rfl, rfl, h, tk, rfl⟩ := R
    have hi : i < ks.length := by
      have := (List.getElem?_eq_some_iff.mp hv).1
      simpa [strValues, hlen] using this
    obtain ⟨k, hk⟩ : ∃ k, ks[i]? = some k := ⟨_, List.getElem?_eq_getElem hi⟩
    have hk5 := hks k (List.mem_of_getElem? hk)
    obtain ⟨tv, rfl⟩ : ∃ tv, v = .str (dotsS k) tv := by
      have e2 := congrArg (fun z => z[i]?) e1
      simp only [List.getElem?_map, hk] at e2
      simp only [strValues, List.getElem?_map] at hv
      cases hl : l[i]? with
      | none => rw [hl] at e2; cases e2
      | some q =>
        rw [hl] at e2 hv
        exact ⟨q.2, by rw [← Option.some.inj e2]; exact (Option.some.inj hv).symm⟩
    ((repeat' (first | (k_unfold; (try dsimp only)) | (k_end; wrow_close) | ((with_reducible refine Mine.Stop.un ?_); (first | with_reducible (first | ((with_reducible show wpAny _ _ (subscriptTail _ (Expr.Slice (some _) none none _) (Value.str _ _) (Value.ref _)) _ _ _); k_dflt (refine slice_strN_sn (hsz := ?zqhsz) (s := ⟨_, _, _, _, _⟩) (by assumption) (by assumption) ?_); (case zqhsz => assumption); intro _ _ _ _ _; (rw [r3])) | ((with_reducible show wpAny _ _ (subscriptTail _ (Expr.Slice none (some _) none _) (Value.str _ _) (Value.ref _)) _ _ _); k_dflt (refine slice_strN_ns (hsz := ?zqhsz) (s := ⟨_, _, _, _, _⟩) (by assumption) (by assumption) ?_); (case zqhsz => assumption); intro _ _ _ _ _; (rw [e3])) | ((with_reducible show wpAny _ _ (exec (Stmt.For (PySem.Expr.Name _ _) _ _ _ _) _) _ _ _); k_dflt (refine Mine.For_led (by assumption) rfl rfl ?_)) | (k_dflt (refine wpAny_call ?_; (refine' code_def ?k1 ?k2 ?k3 ?k4 ?k5 ?kA ?kF ?kK ?k6 ?k7 ?k8 ?k9 ?kB ?_ ?c2 ?c3 ?c4 ?c5; (case kA => exact rfl); (case kF => exact rfl); (case kK => first | assumption | exact rfl); (case k1 => k_asm); (case k2 => k_asm); (case k3 => k_asm); (case k4 => k_asm); (case k5 => k_asm); (case k6 => k_is); (case k7 => k_is); (case k8 => k_room); (case k9 => first | exact BindsTo.of_eq rfl | exact binds_K (by k_in) rfl (by k_is) rfl rfl rfl); (case c5 => decide); (case kB => exact locs rfl); (case c2 => exact rfl); (case c3 => exact rfl); (case c4 => exact rfl); k_whole; intro _ _ _ _ _ _ B9 X9 T9; (try dsimp only); (try k_lift B9); (try k_fold))))) | (have ns9 : Mine.NoStop := trivial; walk1; (all_goals (try clear ns9))))) | walk1 | (dsimp only; walk1) | (leave1; walk_say "STEP leave1"; try dsimp only) | fail "no step")))
    refine Halt.un ?_
    have e0 : dotSum ks i + (k - k) = dotSum ks i := by omega
    refine While_inv (n₀ := k) (WJ (fun y => if y = Str.ofString "row" then some (.str (dotsS k) tv) else m0 y) (dotSum ks i) k ((I, io) :: news1)) (by assumption) (by assumption) ?w0 ?wt
    case w0 =>
      refine ⟨u3, u4, tv, t, ?_, Nat.le_refl _, rfl⟩
      rw [e0]
      funext y
      by_cases h1 : y = Str.ofString "rest"
      · subst h1; rfl
      by_cases h2 : y = Str.ofString "dots"
      · subst h2; rfl
      by_cases h3 : y = Str.ofString "size"
      · subst h3; rfl
      by_cases h4 : y = Str.ofString "kind"
      · subst h4; rfl
      by_cases h5 : y = Str.ofString "row"
      · subst h5; rfl
      simp only [if_neg h1, if_neg h2, if_neg h3, if_neg h4, if_neg h5]
    case wt =>
      rintro n m₂ n₂ h₂ tk₂ F₂ N₂ ⟨u3, u4, q1, q2, rfl, hnk, rfl⟩
      have hn5 : n ≤ 5 := by omega
      have d0 : dotsS 0 = "" := by decide
      have d1 : dotsS 1 = "." := by decide
      have d2 : dotsS 2 = ".." := by decide
      rcases n with _ | _ | _ | n
      · rw [d0] at F₂
        (repeat' (first | (k_unfold; (try dsimp only)) | (k_end; wrow_close) | ((with_reducible refine Mine.execs_cons_g ?_); intro _; (try dsimp only)) | ((with_reducible refine Mine.Stop.un ?_); (first | with_reducible (first | ((with_reducible show wpAny _ _ (subscriptTail _ (Expr.Slice (some _) none none _) (Value.str _ _) (Value.ref _)) _ _ _); k_dflt (refine slice_strN_sn (hsz := ?zqhsz) (s := ⟨_, _, _, _, _⟩) (by assumption) (by assumption) ?_); (case zqhsz => assumption); intro _ _ _ _ _; (rw [r3])) | ((with_reducible show wpAny _ _ (subscriptTail _ (Expr.Slice none (some _) none _) (Value.str _ _) (Value.ref _)) _ _ _); k_dflt (refine slice_strN_ns (hsz := ?zqhsz) (s := ⟨_, _, _, _, _⟩) (by assumption) (by assumption) ?_); (case zqhsz => assumption); intro _ _ _ _ _; (rw [e3])) | ((with_reducible show wpAny _ _ (exec (Stmt.For (PySem.Expr.Name _ _) _ _ _ _) _) _ _ _); k_dflt (refine Mine.For_led (by assumption) rfl rfl ?_)) | (k_dflt (refine wpAny_call ?_; (refine' code_def ?k1 ?k2 ?k3 ?k4 ?k5 ?kA ?kF ?kK ?k6 ?k7 ?k8 ?k9 ?kB ?_ ?c2 ?c3 ?c4 ?c5; (case kA => exact rfl); (case kF => exact rfl); (case kK => first | assumption | exact rfl); (case k1 => k_asm); (case k2 => k_asm); (case k3 => k_asm); (case k4 => k_asm); (case k5 => k_asm); (case k6 => k_is); (case k7 => k_is); (case k8 => k_room); (case k9 => first | exact BindsTo.of_eq rfl | exact binds_K (by k_in) rfl (by k_is) rfl rfl rfl); (case c5 => decide); (case kB => exact locs rfl); (case c2 => exact rfl); (case c3 => exact rfl); (case c4 => exact rfl); k_whole; intro _ _ _ _ _ _ B9 X9 T9; (try dsimp only); (try k_lift B9); (try k_fold))))) | (have ns9 : Mine.NoStop := trivial; walk1; (all_goals (try clear ns9))))) | walk1 | (dsimp only; walk1) | (leave1; walk_say "STEP leave1"; try dsimp only) | fail "no step"))
        refine PostL.nxt ⟨_, news1, by assumption, by assumption, off, fun p h => h, some (.str (dotsS k) tv), some (.str "" q1), u3, u4, q2, ?_, rfl, _, _, rfl⟩
        rw [dotSum_succ hk]
        funext y
        by_cases h1 : y = Str.ofString "rest"
        · subst h1; rfl
        by_cases h2 : y = Str.ofString "dots"
        · subst h2; rfl
        by_cases h3 : y = Str.ofString "size"
        · subst h3; rfl
        by_cases h4 : y = Str.ofString "kind"
        · subst h4; rfl
        by_cases h5 : y = Str.ofString "row"
        · subst h5; rfl
        simp only [if_neg h1, if_neg h2, if_neg h3, if_neg h4, if_neg h5]
      · rw [show 0 + 1 = 1 from rfl, d1] at F₂
        (repeat' (first | (k_unfold; (try dsimp only)) | (k_end; wrow_close) | ((with_reducible refine Mine.execs_cons_g ?_); intro _; (try dsimp only)) | ((with_reducible refine Mine.Stop.un ?_); (first | with_reducible (first | ((with_reducible show wpAny _ _ (subscriptTail _ (Expr.Slice (some _) none none _) (Value.str _ _) (Value.ref _)) _ _ _); k_dflt (refine slice_strN_sn (hsz := ?zqhsz) (s := ⟨_, _, _, _, _⟩) (by assumption) (by assumption) ?_); (case zqhsz => assumption); intro _ _ _ _ _; (rw [r3])) | ((with_reducible show wpAny _ _ (subscriptTail _ (Expr.Slice none (some _) none _) (Value.str _ _) (Value.ref _)) _ _ _); k_dflt (refine slice_strN_ns (hsz := ?zqhsz) (s := ⟨_, _, _, _, _⟩) (by assumption) (by assumption) ?_); (case zqhsz => assumption); intro _ _ _ _ _; (rw [e3])) | ((with_reducible show wpAny _ _ (exec (Stmt.For (PySem.Expr.Name _ _) _ _ _ _) _) _ _ _); k_dflt (refine Mine.For_led (by assumption) rfl rfl ?_)) | (k_dflt (refine wpAny_call ?_; (refine' code_def ?k1 ?k2 ?k3 ?k4 ?k5 ?kA ?kF ?kK ?k6 ?k7 ?k8 ?k9 ?kB ?_ ?c2 ?c3 ?c4 ?c5; (case kA => exact rfl); (case kF => exact rfl); (case kK => first | assumption | exact rfl); (case k1 => k_asm); (case k2 => k_asm); (case k3 => k_asm); (case k4 => k_asm); (case k5 => k_asm); (case k6 => k_is); (case k7 => k_is); (case k8 => k_room); (case k9 => first | exact BindsTo.of_eq rfl | exact binds_K (by k_in) rfl (by k_is) rfl rfl rfl); (case c5 => decide); (case kB => exact locs rfl); (case c2 => exact rfl); (case c3 => exact rfl); (case c4 => exact rfl); k_whole; intro _ _ _ _ _ _ B9 X9 T9; (try dsimp only); (try k_lift B9); (try k_fold))))) | (have ns9 : Mine.NoStop := trivial; walk1; (all_goals (try clear ns9))))) | walk1 | (dsimp only; walk1) | (leave1; walk_say "STEP leave1"; try dsimp only) | fail "no step"))
        refine WhileStep.intro (n' := 0) (by assumption) (by assumption) (by omega) ?_
        exact WJ.of ⟨_, _, rfl, by decide +kernel⟩ ⟨_, _, rfl, by omega⟩ (fun y h1 h2 h3 h4 => by simp only [if_neg h1, if_neg h2, if_neg h3, if_neg h4]) (by omega)
      · rw [show 0 + 1 + 1 = 2 from rfl, d2] at F₂
        (repeat' (first | (k_unfold; (try dsimp only)) | (k_end; wrow_close) | ((with_reducible refine Mine.execs_cons_g ?_); intro _; (try dsimp only)) | ((with_reducible refine Mine.Stop.un ?_); (first | with_reducible (first | ((with_reducible show wpAny _ _ (subscriptTail _ (Expr.Slice (some _) none none _) (Value.str _ _) (Value.ref _)) _ _ _); k_dflt (refine slice_strN_sn (hsz := ?zqhsz) (s := ⟨_, _, _, _, _⟩) (by assumption) (by assumption) ?_); (case zqhsz => assumption); intro _ _ _ _ _; (rw [r3])) | ((with_reducible show wpAny _ _ (subscriptTail _ (Expr.Slice none (some _) none _) (Value.str _ _) (Value.ref _)) _ _ _); k_dflt (refine slice_strN_ns (hsz := ?zqhsz) (s := ⟨_, _, _, _, _⟩) (by assumption) (by assumption) ?_); (case zqhsz => assumption); intro _ _ _ _ _; (rw [e3])) | ((with_reducible show wpAny _ _ (exec (Stmt.For (PySem.Expr.Name _ _) _ _ _ _) _) _ _ _); k_dflt (refine Mine.For_led (by assumption) rfl rfl ?_)) | (k_dflt (refine wpAny_call ?_; (refine' code_def ?k1 ?k2 ?k3 ?k4 ?k5 ?kA ?kF ?kK ?k6 ?k7 ?k8 ?k9 ?kB ?_ ?c2 ?c3 ?c4 ?c5; (case kA => exact rfl); (case kF => exact rfl); (case kK => first | assumption | exact rfl); (case k1 => k_asm); (case k2 => k_asm); (case k3 => k_asm); (case k4 => k_asm); (case k5 => k_asm); (case k6 => k_is); (case k7 => k_is); (case k8 => k_room); (case k9 => first | exact BindsTo.of_eq rfl | exact binds_K (by k_in) rfl (by k_is) rfl rfl rfl); (case c5 => decide); (case kB => exact locs rfl); (case c2 => exact rfl); (case c3 => exact rfl); (case c4 => exact rfl); k_whole; intro _ _ _ _ _ _ B9 X9 T9; (try dsimp only); (try k_lift B9); (try k_fold))))) | (have ns9 : Mine.NoStop := trivial; walk1; (all_goals (try clear ns9))))) | walk1 | (dsimp only; walk1) | (leave1; walk_say "STEP leave1"; try dsimp only) | fail "no step"))
        refine WhileStep.intro (n' := 1) (by assumption) (by assumption) (by omega) ?_
        exact WJ.of ⟨_, _, rfl, by decide +kernel⟩ ⟨_, _, rfl, by omega⟩ (fun y h1 h2 h3 h4 => by simp only [if_neg h1, if_neg h2, if_neg h3, if_neg h4]) (by omega)
      · have e3 : Txt.slice (dotsS (n + 1 + 1 + 1)) none (some 3) = "..." := by
          rcases n with _ | _ | _ | n <;> first | decide +kernel | omega
        have r3 : Txt.slice (dotsS (n + 1 + 1 + 1)) (some 3) none = dotsS n := by
          rcases n with _ | _ | _ | n <;> first | decide +kernel | omega
        have c3 : ¬ ((dotsS (n + 1 + 1 + 1)).length : Int) = 0 := by
          rcases n with _ | _ | _ | n <;> first | decide +kernel | omega
        have l3 : ¬ ((dotsS (n + 1 + 1 + 1)).length : Int) ≥ 2 ^ 63 := by
          rcases n with _ | _ | _ | n <;> first | decide +kernel | omega
        have z3 : (dotsS (n + 1 + 1 + 1)).length ≤ sizeLine := by
          rcases n with _ | _ | _ | n <;> first | decide +kernel | omega
        obtain ⟨x3, hx3⟩ : ∃ x, dotsS (n + 1 + 1 + 1) = x := ⟨_, rfl⟩
        rw [hx3] at F₂ e3 r3 c3 l3 z3
        have mk : Mark := trivial
        (repeat' (first | (k_unfold; (try dsimp only)) | (k_end; wrow_close) | ((with_reducible refine Mine.execs_cons_g ?_); intro _; (try dsimp only)) | ((with_reducible refine Mine.Stop.un ?_); (first | with_reducible (first | ((with_reducible show wpAny _ _ (subscriptTail _ (Expr.Slice (some _) none none _) (Value.str _ _) (Value.ref _)) _ _ _); k_dflt (refine slice_strN_sn (hsz := ?zqhsz) (s := ⟨_, _, _, _, _⟩) (by assumption) (by assumption) ?_); (case zqhsz => assumption); intro _ _ _ _ _; (rw [r3])) | ((with_reducible show wpAny _ _ (subscriptTail _ (Expr.Slice none (some _) none _) (Value.str _ _) (Value.ref _)) _ _ _); k_dflt (refine slice_strN_ns (hsz := ?zqhsz) (s := ⟨_, _, _, _, _⟩) (by assumption) (by assumption) ?_); (case zqhsz => assumption); intro _ _ _ _ _; (rw [e3])) | ((with_reducible show wpAny _ _ (exec (Stmt.For (PySem.Expr.Name _ _) _ _ _ _) _) _ _ _); k_dflt (refine Mine.For_led (by assumption) rfl rfl ?_)) | (k_dflt (refine wpAny_call ?_; (refine' code_def ?k1 ?k2 ?k3 ?k4 ?k5 ?kA ?kF ?kK ?k6 ?k7 ?k8 ?k9 ?kB ?_ ?c2 ?c3 ?c4 ?c5; (case kA => exact rfl); (case kF => exact rfl); (case kK => first | assumption | exact rfl); (case k1 => k_asm); (case k2 => k_asm); (case k3 => k_asm); (case k4 => k_asm); (case k5 => k_asm); (case k6 => k_is); (case k7 => k_is); (case k8 => k_room); (case k9 => first | exact BindsTo.of_eq rfl | exact binds_K (by k_in) rfl (by k_is) rfl rfl rfl); (case c5 => decide); (case kB => exact locs rfl); (case c2 => exact rfl); (case c3 => exact rfl); (case c4 => exact rfl); k_whole; intro _ _ _ _ _ _ B9 X9 T9; (try dsimp only); (try k_lift B9); (try k_fold))))) | (have ns9 : Mine.NoStop := trivial; walk1; (all_goals (try clear ns9))))) | walk1 | (dsimp only; walk1) | (leave1; walk_say "STEP leave1"; try dsimp only) | fail "no step"))
        rotate_right
        · exact absurd (by assumption) c3
        refine WhileStep.intro (n' := n) (by assumption) (by assumption) (by omega) ?_
        exact WJ.of ⟨_, _, rfl, rfl⟩ ⟨_, _, rfl, by omega⟩ (fun y h1 h2 h3 h4 => by simp only [if_neg h1, if_neg h2, if_neg h3, if_neg h4]) (by omega)
  case done =>
    rintro m1 news1 s1 ⟨u1, u2, u3, u4, t, rfl, rfl, h, tk, rfl⟩ kk F N
    subst hm0 hnw0
    have es : dotSum ks (strValues l).length = ks.sum := by
      unfold dotSum
      rw [show (strValues l).length = ks.length by simp [strValues, hlen], List.take_length]
    ((repeat' (first | (k_unfold; (try dsimp only)) | (k_end; wrow_close) | ((with_reducible refine Mine.Stop.un ?_); (first | with_reducible (first | ((with_reducible show wpAny _ _ (subscriptTail _ (Expr.Slice (some _) none none _) (Value.str _ _) (Value.ref _)) _ _ _); k_dflt (refine slice_strN_sn (hsz := ?zqhsz) (s := ⟨_, _, _, _, _⟩) (by assumption) (by assumption) ?_); (case zqhsz => assumption); intro _ _ _ _ _; (rw [r3])) | ((with_reducible show wpAny _ _ (subscriptTail _ (Expr.Slice none (some _) none _) (Value.str _ _) (Value.ref _)) _ _ _); k_dflt (refine slice_strN_ns (hsz := ?zqhsz) (s := ⟨_, _, _, _, _⟩) (by assumption) (by assumption) ?_); (case zqhsz => assumption); intro _ _ _ _ _; (rw [e3])) | ((with_reducible show wpAny _ _ (exec (Stmt.For (PySem.Expr.Name _ _) _ _ _ _) _) _ _ _); k_dflt (refine Mine.For_led (by assumption) rfl rfl ?_)) | (k_dflt (refine wpAny_call ?_; (refine' code_def ?k1 ?k2 ?k3 ?k4 ?k5 ?kA ?kF ?kK ?k6 ?k7 ?k8 ?k9 ?kB ?_ ?c2 ?c3 ?c4 ?c5; (case kA => exact rfl); (case kF => exact rfl); (case kK => first | assumption | exact rfl); (case k1 => k_asm); (case k2 => k_asm); (case k3 => k_asm); (case k4 => k_asm); (case k5 => k_asm); (case k6 => k_is); (case k7 => k_is); (case k8 => k_room); (case k9 => first | exact BindsTo.of_eq rfl | exact binds_K (by k_in) rfl (by k_is) rfl rfl rfl); (case c5 => decide); (case kB => exact locs rfl); (case c2 => exact rfl); (case c3 => exact rfl); (case c4 => exact rfl); k_whole; intro _ _ _ _ _ _ B9 X9 T9; (try dsimp only); (try k_lift B9); (try k_fold))))) | (have ns9 : Mine.NoStop := trivial; walk1; (all_goals (try clear ns9))))) | walk1 | (dsimp only; walk1) | (leave1; walk_say "STEP leave1"; try dsimp only) | fail "no step")))
    rw [es]
    exact hret _ _ _ (by assumption) (by (refine Mine.news_sub (by assumption) ?_; repeat (first | exact Mine.subs_refl | exact Mine.subs_nil | (refine Mine.subs_cons ?_ ?_; (focus k_mem)) | refine Mine.subs_skip ?_)))
end
noncomputable def least (wd size : Nat) : Nat := if size = 0 then 0 else size + (size - 1) / wd + 1
noncomputable def okAt (x : Str) (n : Nat) : Bool :=
  match subs code2 x.cps 60 0 false with
  | some ms1 =>
    let z := Str.join "" (pieces x.cps (Str.ofString "\r\n") ms1 0)
    match subs code1 z.cps 60 0 false with
    | some ms2 =>
      let y := Str.join "" (pieces z.cps (Str.ofString "..") ms2 0)
      let parts := Txt.split y (Str.ofString "\r\n")
      Nat.ble x.cps.size 300 && Nat.ble z.cps.size 300 && Nat.ble y.cps.size 300 && parts.all (fun p => p == dotsS p.cps.size && Nat.ble p.cps.size 5) && (parts.map (·.cps.size)).sum == n
    | none => false
  | none => false
theorem okAt_spec {x : Str} {n : Nat} (h : okAt x n = true) : ∃ (y : Str) (ks : List Nat), Quoted x y ∧ Txt.split y (Str.ofString "\r\n") = ks.map dotsS ∧ y.length ≤ 300 ∧ (∀ k ∈ ks, k ≤ 5) ∧ ks.sum = n := by
  unfold okAt at h
  split at h
  · rename_i ms1 h1
    dsimp only at h
    split at h
    · rename_i ms2 h2
      simp only [Bool.and_eq_true, beq_iff_eq, Nat.ble_eq, List.all_eq_true] at h
      obtain ⟨⟨⟨⟨a1, a2⟩, a3⟩, a4⟩, a5⟩ := h
      refine ⟨_, (Txt.split (Str.join "" (pieces (Str.join "" (pieces x.cps (Str.ofString "\r\n") ms1 0)).cps (Str.ofString "..") ms2 0)) (Str.ofString "\r\n")).map (·.cps.size), ⟨_, ms1, ms2, a1, a2, h1, rfl, h2, rfl⟩, ?_, a3, ?_, a5⟩
      · rw [List.map_map]
        conv => lhs; rw [← List.map_id (Txt.split _ _)]
        refine List.map_congr_left fun p hp => ?_
        exact (a4 p hp).1
      · intro k hk
        obtain ⟨p, hp, rfl⟩ := List.mem_map.mp hk
        exact (a4 p hp).2
    · cases h
  · cases h
noncomputable def okRow (wd top : Nat) (ends : Str) : Bool := (List.range top).all fun size => okAt (sentText wd size ends) (least wd size)
theorem ok_1_a : okRow 1 5 (Str.ofString "\n") = true := by decide +kernel
theorem ok_2_a : okRow 2 11 (Str.ofString "\n") = true := by decide +kernel
theorem ok_3_a : okRow 3 11 (Str.ofString "\n") = true := by decide +kernel
theorem ok_4_a : okRow 4 11 (Str.ofString "\n") = true := by decide +kernel
theorem ok_1_b : okRow 1 5 (Str.ofString "\r") = true := by decide +kernel
theorem ok_2_b : okRow 2 11 (Str.ofString "\r") = true := by decide +kernel
theorem ok_3_b : okRow 3 11 (Str.ofString "\r") = true := by decide +kernel
theorem ok_4_b : okRow 4 11 (Str.ofString "\r") = true := by decide +kernel
theorem ok_1_c : okRow 1 5 (Str.ofString "\r\n") = true := by decide +kernel
theorem ok_2_c : okRow 2 11 (Str.ofString "\r\n") = true := by decide +kernel
theorem ok_3_c : okRow 3 11 (Str.ofString "\r\n") = true := by decide +kernel
theorem ok_4_c : okRow 4 11 (Str.ofString "\r\n") = true := by decide +kernel
theorem okRow_at {wd top size : Nat} {ends : Str} (h : okRow wd top ends = true) (hs : size < top) : okAt (sentText wd size ends) (least wd size) = true := by
  unfold okRow at h
  rw [List.all_eq_true] at h
  exact h size (List.mem_range.mpr hs)
noncomputable def isEnd (e : Str) : Prop := e = Str.ofString "\n" ∨ e = Str.ofString "\r" ∨ e = Str.ofString "\r\n"
theorem row_ok {wd size : Nat} {ends : Str} (h1 : 1 ≤ wd) (h4 : wd ≤ 4) (hs : size ≤ 10) (h14 : wd = 1 → size ≤ 4) (he : isEnd ends) : okAt (sentText wd size ends) (least wd size) = true := by
  have hw : wd = 1 ∨ wd = 2 ∨ wd = 3 ∨ wd = 4 := by omega
  rcases he with rfl | rfl | rfl <;> rcases hw with rfl | rfl | rfl | rfl
  · exact okRow_at ok_1_a (by have := h14 rfl; omega)
  · exact okRow_at ok_2_a (by have := hs; omega)
  · exact okRow_at ok_3_a (by have := hs; omega)
  · exact okRow_at ok_4_a (by have := hs; omega)
  · exact okRow_at ok_1_b (by have := h14 rfl; omega)
  · exact okRow_at ok_2_b (by have := hs; omega)
  · exact okRow_at ok_3_b (by have := hs; omega)
  · exact okRow_at ok_4_b (by have := hs; omega)
  · exact okRow_at ok_1_c (by have := h14 rfl; omega)
  · exact okRow_at ok_2_c (by have := hs; omega)
  · exact okRow_at ok_3_c (by have := hs; omega)
  · exact okRow_at ok_4_c (by have := hs; omega)
theorem isEnd_len {e : Str} (h : isEnd e) : e.length ≤ 2 := by
  rcases h with rfl | rfl | rfl <;> decide
theorem sent2_spec {w : World} {dp un : Nat} {gd : Option (List Code)} {cn : Str} {cs : Scope} {a : Addr} {ccd : Value} {cl : List (Str × Addr)} {outer : List Env} {A₀ : Around} {base h₀ : Heap} {L : Addr} {m : Str → Option Value} {s : Shared} {Q : Value → Shared → Prop} {E : Value → Shared → Prop}
   {mean : ExcName → Option Value} {mg mb : Str → Option Value} {news : List (Addr × Obj)} {pg : Program} {loose : List Str}
   (B : Below A₀ base outer h₀) (F : Fr h₀ L s.heap m) (X : (KN w.params).In h₀) (T : Top pg loose mean mg mb h₀) (hk : cs.kind = .function) (hdp : dp + 60 < 1000) (hu : un + 600 < 9900) {size wd : Nat} {ends : Str} {t1 t2 t3 : Tok} {ps1 ps2 : Array Value} (G : AllBare s.gens) (N : News h₀ L s.heap ((174, tabObj ps1) :: (181, tabObj ps2) :: news))
   (p1 : TabTwo posLen ps1) (p2 : TabTwo posStr ps2) (o1 : ∀ p ∈ news, p.1 ≠ 174) (o2 : ∀ p ∈ news, p.1 ≠ 181)
   (hs : size ≤ 10) (hw : 1 ≤ wd) (hw4 : wd ≤ 4) (h14 : wd = 1 → size ≤ 4) (he : isEnd ends)
   (hret : ∀ s' ps1' ps2' t (y : Str) (ks : List Nat), Txt.split y (Str.ofString "\r\n") = ks.map dotsS → y.length ≤ 300 → (∀ k ∈ ks, k ≤ 5) → ks.sum = least wd size → Fr h₀ L s'.heap m → News h₀ L s'.heap ((174, tabObj ps1') :: (181, tabObj ps2') :: news) → TabTwo posLen ps1' → TabTwo posStr ps2' → AllBare s'.gens → s'.os = s.os → Q (.str y t) s') :
   wpAny (model PySem.Challenge.rw_tc0050_01.row.prog w) (ktrTop dp un gd cn cs L a ccd cl outer) (call (.ref 240) [.int size t1, .int wd t2, .str ends t3]) Q E s := by
  obtain ⟨y, ks, hy, h1, h2, h3, h4⟩ := okAt_spec (row_ok hw hw4 hs h14 he)
  exact sent_spec B F X T hk hdp hu G N p1 p2 o1 o2 hs hw hw4 (isEnd_len he) hy fun s' ps1' ps2' t a1 a2 a3 a4 a5 a6 => hret s' ps1' ps2' t y ks h1 h2 h3 h4 a1 a2 a3 a4 a5 a6
/-- the law's frame: the names that its loops store, over the rest -/
noncomputable def lmap (m1 : Str → Option Value) (rows bound : Nat) (ends : Str) (tr tb te : Tok) (x_place x_longer x_size x_least x_gain x_sums x_wanted x_old x_table x_found x_asked x_part : Option Value) : Str → Option Value := fun y =>
  if y = Str.ofString "place" then x_place else if y = Str.ofString "longer" then x_longer else if y = Str.ofString "size" then x_size else if y = Str.ofString "least" then x_least else if y = Str.ofString "gain" then x_gain else if y = Str.ofString "sums" then x_sums else if y = Str.ofString "wanted" then x_wanted else if y = Str.ofString "old" then x_old else if y = Str.ofString "table" then x_table else if y = Str.ofString "found" then x_found else if y = Str.ofString "asked" then x_asked else if y = Str.ofString "part" then x_part else if y = Str.ofString "rows" then some (.int (rows : Nat) tr) else if y = Str.ofString "bound" then some (.int (bound : Nat) tb) else if y = Str.ofString "ends" then some (.str ends te) else m1 y
theorem lmap_of {m1 m2 : Str → Option Value} {rows bound : Nat} {ends : Str} {tr tb te : Tok} (hr : m2 (Str.ofString "rows") = some (.int (rows : Nat) tr)) (hb : m2 (Str.ofString "bound") = some (.int (bound : Nat) tb)) (he : m2 (Str.ofString "ends") = some (.str ends te))
   (h : ∀ y, y ≠ Str.ofString "place" → y ≠ Str.ofString "longer" → y ≠ Str.ofString "size" → y ≠ Str.ofString "least" → y ≠ Str.ofString "gain" → y ≠ Str.ofString "sums" → y ≠ Str.ofString "wanted" → y ≠ Str.ofString "old" → y ≠ Str.ofString "table" → y ≠ Str.ofString "found" → y ≠ Str.ofString "asked" → y ≠ Str.ofString "part" → y ≠ Str.ofString "rows" → y ≠ Str.ofString "bound" → y ≠ Str.ofString "ends" → m2 y = m1 y) :
   m2 = lmap m1 rows bound ends tr tb te (m2 (Str.ofString "place")) (m2 (Str.ofString "longer")) (m2 (Str.ofString "size")) (m2 (Str.ofString "least")) (m2 (Str.ofString "gain")) (m2 (Str.ofString "sums")) (m2 (Str.ofString "wanted")) (m2 (Str.ofString "old")) (m2 (Str.ofString "table")) (m2 (Str.ofString "found")) (m2 (Str.ofString "asked")) (m2 (Str.ofString "part")) := by
  funext y
  unfold lmap
  by_cases h0 : y = Str.ofString "place"
  · rw [if_pos h0, h0]
  rw [if_neg h0]
  by_cases h1 : y = Str.ofString "longer"
  · rw [if_pos h1, h1]
  rw [if_neg h1]
  by_cases h2 : y = Str.ofString "size"
  · rw [if_pos h2, h2]
  rw [if_neg h2]
  by_cases h3 : y = Str.ofString "least"
  · rw [if_pos h3, h3]
  rw [if_neg h3]
  by_cases h4 : y = Str.ofString "gain"
  · rw [if_pos h4, h4]
  rw [if_neg h4]
  by_cases h5 : y = Str.ofString "sums"
  · rw [if_pos h5, h5]
  rw [if_neg h5]
  by_cases h6 : y = Str.ofString "wanted"
  · rw [if_pos h6, h6]
  rw [if_neg h6]
  by_cases h7 : y = Str.ofString "old"
  · rw [if_pos h7, h7]
  rw [if_neg h7]
  by_cases h8 : y = Str.ofString "table"
  · rw [if_pos h8, h8]
  rw [if_neg h8]
  by_cases h9 : y = Str.ofString "found"
  · rw [if_pos h9, h9]
  rw [if_neg h9]
  by_cases h10 : y = Str.ofString "asked"
  · rw [if_pos h10, h10]
  rw [if_neg h10]
  by_cases h11 : y = Str.ofString "part"
  · rw [if_pos h11, h11]
  rw [if_neg h11]
  by_cases h12 : y = Str.ofString "rows"
  · rw [if_pos h12, h12, hr]
  rw [if_neg h12]
  by_cases h13 : y = Str.ofString "bound"
  · rw [if_pos h13, h13, hb]
  rw [if_neg h13]
  by_cases h14 : y = Str.ofString "ends"
  · rw [if_pos h14, h14, he]
  rw [if_neg h14]
  exact h y h0 h1 h2 h3 h4 h5 h6 h7 h8 h9 h10 h11 h12 h13 h14
structure Ent where
  at_ : Nat
  la : Nat
  want : Nat
  t : Tok
  k : Nat
  n : Nat
  vs : List Value
  ns : List Int
noncomputable abbrev Ent.obj (e : Ent) : Obj := { cls := .type "tuple", data := .seq #[.int (e.want : Nat) e.t, .ref e.la] e.k }
noncomputable abbrev Ent.lobj (e : Ent) : Obj := { cls := .type "list", data := .seq e.vs.toArray e.n }
structure Ent.ok (bound : Nat) (tail : List (Addr × Obj)) (e : Ent) : Prop where
  tup : (e.at_, e.obj) ∈ tail
  lst : (e.la, e.lobj) ∈ tail
  isn : IntsAre e.vs e.ns
  len : e.ns.length = bound + 1
theorem Ent.ok.sub {bound : Nat} {tail tail' : List (Addr × Obj)} {e : Ent} (h : Ent.ok bound tail e) (k : ∀ p ∈ tail, p ∈ tail') : Ent.ok bound tail' e := ⟨k _ h.tup, k _ h.lst, h.isn, h.len⟩
noncomputable abbrev refsOf (es : List Ent) : List Value := es.map fun e => .ref e.at_
noncomputable abbrev tabOf (es : List Ent) : List (Nat × List Int) := es.map fun e => (e.want, e.ns)
noncomputable abbrev listN (vs : List Value) (n : Nat) : Obj := { cls := .type "list", data := .seq vs.toArray n }
theorem takeWhile_range {p : Nat → Bool} : ∀ {n i : Nat}, (∀ j < i, p j = true) → i ≤ n → (i = n ∨ p i = false) → (List.range n).takeWhile p = List.range i := by
  intro n i h hi he
  obtain ⟨r, rfl⟩ : ∃ r, n = i + r := ⟨n - i, by omega⟩
  rw [List.range_add, List.takeWhile_append_of_pos (fun j hj => h j (List.mem_range.mp hj))]
  cases r with
  | zero => simp
  | succ r =>
    rcases he with e | e
    · omega
    · rw [List.range_succ_eq_map, List.map_cons, List.takeWhile_cons]
      simp [e]
theorem sizes_range {rows bound place i : Nat} (h : ∀ j < i, brk rows bound place j = false) (hi : i ≤ bound + 1) (he : i = bound + 1 ∨ brk rows bound place i = true) : sizesOf rows bound place = List.range i := by
  unfold sizesOf
  refine takeWhile_range (fun j hj => by rw [h j hj]; rfl) hi ?_
  rcases he with e | e
  · exact .inl e
  · exact .inr (by rw [e]; rfl)
noncomputable def rowF (rows bound : Nat) (u v : Int) (place size : Nat) : Nat × List Int := (leastOf (place + 1) size, sumsOf opsZ bound (place + 1) size u v (tableOf opsZ rows bound u v place))
theorem table_succ {rows bound place i : Nat} {u v : Int} (h : ∀ j < i, brk rows bound (place + 1) j = false) (hi : i ≤ bound + 1) (he : i = bound + 1 ∨ brk rows bound (place + 1) i = true) :
    tableOf opsZ rows bound u v (place + 1) = (List.range i).map (rowF rows bound u v place) := by
  show (sizesOf rows bound (place + 1)).map _ = _
  rw [sizes_range h hi he]
  rfl
noncomputable def sumsAt (bound place size : Nat) (u v : Int) (tab : List (Nat × List Int)) (j : Nat) : List Int := sumsOf opsZ bound place size u v (tab.take j)
theorem sumsAt_zero {bound place size : Nat} {u v : Int} {tab : List (Nat × List Int)} : sumsAt bound place size u v tab 0 = List.replicate (bound + 1) 0 := by
  unfold sumsAt sumsOf
  simp [opsZ]
theorem sumsAt_all {bound place size : Nat} {u v : Int} {tab : List (Nat × List Int)} : sumsAt bound place size u v tab tab.length = sumsOf opsZ bound place size u v tab := by
  unfold sumsAt
  rw [List.take_length]
theorem pw_int (u : Int) : ∀ n, pw opsZ u n = u ^ n
  | 0 => (Int.pow_zero u).symm
  | n + 1 => by show pw opsZ u n * u = _; rw [pw_int u n, Int.pow_succ]
theorem sumsAt_succ {bound place size : Nat} {u v : Int} {tab : List (Nat × List Int)} {j : Nat} {e : Nat × List Int} (h : tab[j]? = some e) :
    sumsAt bound place size u v tab (j + 1) = if e.1 ≤ size then List.zipWith (fun x y => x + (u ^ (leastOf place size - size) * (if (leastOf place size - size) % 2 = 0 then 1 else v)) * y) (sumsAt bound place size u v tab j) (List.replicate size 0 ++ e.2) else sumsAt bound place size u v tab j := by
  unfold sumsAt sumsOf
  rw [List.take_add_one, h, List.foldl_append]
  simp only [Option.toList_some, List.foldl_cons, List.foldl_nil]
  unfold addRow worthOf
  rw [pw_int]
  rfl
theorem zip_len {f : Int → Int → Int} {xs ys : List Int} {n : Nat} (hx : xs.length = n) (hy : n ≤ ys.length) : (List.zipWith f xs ys).length = n := by
  rw [List.length_zipWith]; omega
theorem sumsAt_len {bound place size : Nat} {u v : Int} {tab : List (Nat × List Int)} (ht : ∀ e ∈ tab, e.2.length = bound + 1) : ∀ j, j ≤ tab.length → (sumsAt bound place size u v tab j).length = bound + 1
  | 0, _ => by rw [sumsAt_zero]; simp
  | j + 1, hj => by
    have h := List.getElem?_eq_getElem (l := tab) (i := j) (by omega)
    rw [sumsAt_succ h]
    have hl := sumsAt_len (place := place) (size := size) (u := u) (v := v) ht j (by omega)
    have he := ht tab[j] (List.getElem_mem _)
    split
    · exact zip_len hl (by rw [List.length_append]; omega)
    · exact hl
noncomputable def foundAtP (bound : Nat) (tab : List (Nat × List Int)) (j : Nat) : List Int := (tab.take j).foldl (fun f e => List.zipWith (· + ·) f e.2) (List.replicate (bound + 1) 0)
theorem foundAtP_zero {bound : Nat} {tab : List (Nat × List Int)} : foundAtP bound tab 0 = List.replicate (bound + 1) 0 := rfl
theorem foundAtP_succ {bound : Nat} {tab : List (Nat × List Int)} {j : Nat} {e : Nat × List Int} (h : tab[j]? = some e) : foundAtP bound tab (j + 1) = List.zipWith (fun x y => x + y) (foundAtP bound tab j) e.2 := by
  unfold foundAtP
  rw [List.take_add_one, h, List.foldl_append]
  rfl
theorem foundAtP_all {rows bound : Nat} {u v : Int} : foundAtP bound (tableOf opsZ rows bound u v rows) (tableOf opsZ rows bound u v rows).length = foundN opsZ rows bound u v 0 := by
  unfold foundAtP
  rw [List.take_length]
  rfl
theorem foundN_succ {rows bound p : Nat} {u v : Int} : foundN opsZ rows bound u v (p + 1) = List.zipWith (fun x y => x - u ^ 2 * y) (foundN opsZ rows bound u v p) (List.replicate (rows + (p + 1)) 0 ++ foundN opsZ rows bound u v p) := by
  show List.zipWith (fun x y => x - pw opsZ u 2 * y) _ _ = _
  rw [pw_int]
  rfl
theorem askedN_succ {bound p : Nat} {u v : Int} : askedN opsZ bound u v (p + 1) = List.zipWith (fun x y => x + u * v * y) (askedN opsZ bound u v p) (List.replicate (p + 1) 0 ++ askedN opsZ bound u v p) := rfl
theorem askedN_zero {bound : Nat} {u v : Int} : askedN opsZ bound u v 0 = 1 :: List.replicate bound 0 := rfl
theorem fmod_pos (a : Int) {b : Int} (h : 0 < b) : a.fmod b = a % b := Int.fmod_eq_emod_of_nonneg a (Int.le_of_lt h)
theorem least_same : least = leastOf := rfl
theorem least_ge (wd size : Nat) : size ≤ leastOf wd size := by
  unfold leastOf
  split
  · omega
  · exact Nat.le_trans (Nat.le_add_right ..) (Nat.le_succ _)
theorem gain_le {wd size : Nat} (hw : 1 ≤ wd) (h4 : wd ≤ 4) (hs : size ≤ 10) (h14 : wd = 1 → size ≤ 4) : leastOf wd size - size ≤ 5 := by
  unfold leastOf
  split
  · omega
  · have : wd = 1 ∨ wd = 2 ∨ wd = 3 ∨ wd = 4 := by omega
    rcases this with rfl | rfl | rfl | rfl
    · have := h14 rfl; rw [Nat.div_one]; omega
    · omega
    · omega
    · omega
theorem brk_one {rows bound i : Nat} (h2 : 2 ≤ rows) (h10 : bound ≤ 10) (h : ∀ j < i, brk rows bound 1 j = false) : i ≤ 4 := by
  refine Nat.le_of_not_lt fun hi => ?_
  have z := h 4 hi
  unfold brk leastOf at z
  simp at z
  omega
theorem pow_bound {u : Int} (h : u.natAbs ≤ 42) : ∀ n, n ≤ 5 → (u ^ n).natAbs ≤ 42 ^ n
  | 0, _ => by simp
  | n + 1, hn => by
    rw [Int.pow_succ, Int.natAbs_mul, Nat.pow_succ]
    exact Nat.mul_le_mul (pow_bound h n (by omega)) h
theorem bits64 {x : Int} (h : x.natAbs < 2 ^ 64) : Builtin.Int.intBits x ≤ 64 := PySem.intBits_le_64 (by omega) (by omega)
theorem worth_bits {u v : Int} {n : Nat} (hu : u.natAbs ≤ 42) (hv : v.natAbs ≤ 44) (hn : n ≤ 5) : Builtin.Int.intBits (u ^ n * (if n % 2 = 0 then 1 else v)) ≤ 64 := by
  refine bits64 ?_
  have h1 := pow_bound hu n hn
  have h2 : 42 ^ n ≤ 42 ^ 5 := Nat.pow_le_pow_right (by decide) hn
  rw [Int.natAbs_mul]
  have h3 : (if n % 2 = 0 then (1 : Int) else v).natAbs ≤ 44 := by
    split
    · decide
    · exact hv
  exact Nat.lt_of_le_of_lt (Nat.mul_le_mul (Nat.le_trans h1 h2) h3) (by decide)
theorem worth_bits1 {u : Int} {n : Nat} (hu : u.natAbs ≤ 42) (hn : n ≤ 5) : Builtin.Int.intBits (u ^ n) ≤ 64 := by
  refine bits64 ?_
  have h1 := pow_bound hu n hn
  have h2 : 42 ^ n ≤ 42 ^ 5 := Nat.pow_le_pow_right (by decide) hn
  exact Nat.lt_of_le_of_lt (Nat.le_trans h1 h2) (by decide)
theorem flat_zero (n : Nat) : (List.replicate n [(0 : Int)]).flatten = List.replicate n 0 := by simp
theorem dot_bound {a b : Int} : ((3 + a.fmod 40) * (1 - b.fmod 2 * 2)).natAbs ≤ 42 := by
  rw [fmod_pos a (by decide), fmod_pos b (by decide), Int.natAbs_mul]
  have h1 : (3 + a % 40).natAbs ≤ 42 := by omega
  have h2 : (1 - b % 2 * 2).natAbs = 1 := by omega
  rw [h2, Nat.mul_one]; exact h1
theorem odd_bound {a b : Int} : ((5 + a.fmod 40) * (1 - b.fmod 2 * 2)).natAbs ≤ 44 := by
  rw [fmod_pos a (by decide), fmod_pos b (by decide), Int.natAbs_mul]
  have h1 : (5 + a % 40).natAbs ≤ 44 := by omega
  have h2 : (1 - b % 2 * 2).natAbs = 1 := by omega
  rw [h2, Nat.mul_one]; exact h1
theorem rows_nat (x : Int) : ∃ r : Nat, 2 + x.fmod 3 = (r : Int) ∧ 2 ≤ r ∧ r ≤ 4 := ⟨(2 + x.fmod 3).toNat, by rw [fmod_pos x (by decide)]; omega, by rw [fmod_pos x (by decide)]; omega, by rw [fmod_pos x (by decide)]; omega⟩
theorem bound_nat (x : Int) : ∃ r : Nat, 7 + x.fmod 4 = (r : Int) ∧ 7 ≤ r ∧ r ≤ 10 := ⟨(7 + x.fmod 4).toNat, by rw [fmod_pos x (by decide)]; omega, by rw [fmod_pos x (by decide)]; omega, by rw [fmod_pos x (by decide)]; omega⟩
theorem r1_size {k : Nat} : Builtin.Range.rangeSize 1 ((k : Int) + 1) 1 = (k : Int) := by
  unfold Builtin.Range.rangeSize
  rw [if_pos (by decide), Int.ediv_one]
  split <;> omega
theorem r1_small {k : Nat} (hk : k ≤ 1000) : Builtin.Range.small 1 ((k : Int) + 1) 1 = true := by
  unfold Builtin.Range.small
  rw [r1_size]
  simp [Builtin.Range.rangeFitsLong]
  omega
theorem r0_size {k : Nat} : Builtin.Range.rangeSize 0 ((k : Int) + 1) 1 = ((k + 1 : Nat) : Int) := by
  unfold Builtin.Range.rangeSize
  rw [if_pos (by decide), Int.ediv_one]
  split <;> omega
theorem r0_small {k : Nat} (hk : k ≤ 1000) : Builtin.Range.small 0 ((k : Int) + 1) 1 = true := by
  unfold Builtin.Range.small
  rw [r0_size]
  simp [Builtin.Range.rangeFitsLong]
  omega
noncomputable def Apart5 (LL x : Nat) : Prop := x ≠ 174 ∧ x ≠ 181 ∧ x ≠ LL + 1 ∧ x ≠ LL + 1 + 1 ∧ x ≠ LL + 1 + 1 + 1
theorem Apart5.lt {LL x : Nat} (h : LL + 1 + 1 + 1 < x) (h8 : 181 < LL) : Apart5 LL x := ⟨by omega, by omega, by omega, by omega, by omega⟩
inductive LedgerI (LL : Nat) (u v : Int) (os0 : OsState) (tail news' : List (Addr × Obj)) (gs : Array GenState) (o : OsState) : Prop
  | mk (ps1 ps2 : Array Value) (o1 o2 o3 : Obj) (t1 t2 : Tok) (v3 : Option Value) (e : news' = (174, tabObj ps1) :: (181, tabObj ps2) :: (LL + 1, o1) :: (LL + 1 + 1, o2) :: (LL + 1 + 1 + 1, o3) :: tail) (p1 : TabTwo posLen ps1) (p2 : TabTwo posStr ps2)
    (d1 : o1.data = .cell (some (.int u t1))) (d2 : o2.data = .cell (some (.int v t2))) (d3 : o3.data = .cell v3) (low : ∀ p ∈ tail, Apart5 LL p.1) (g : AllBare gs) (eo : o = os0) : LedgerI LL u v os0 tail news' gs o
noncomputable abbrev LedgerL (LL : Nat) (u v : Int) (os0 : OsState) (tail news' : List (Addr × Obj)) (s' : Shared) : Prop := LedgerI LL u v os0 tail news' s'.gens s'.os
inductive LawI (m1 : Str → Option Value) (rows bound : Nat) (ends : Str) (tr tb te : Tok) (LL : Nat) (u v : Int) (os0 : OsState) (i : Nat) (m' : Str → Option Value) (news' : List (Addr × Obj)) (gs : Array GenState) (o : OsState) : Prop
  | mk (a1 a2 a3 a4 a5 a6 a7 a8 f1 f2 f3 : Option Value) (T k : Nat) (es : List Ent) (tail : List (Addr × Obj)) (e : m' = lmap m1 rows bound ends tr tb te a1 a2 a3 a4 a5 a6 a7 a8 (some (.ref T)) f1 f2 f3) (l : LedgerI LL u v os0 tail news' gs o)
    (hT : (T, listN (refsOf es) k) ∈ tail) (hes : ∀ e ∈ es, e.ok bound tail) (htab : tabOf es = tableOf opsZ rows bound u v i) : LawI m1 rows bound ends tr tb te LL u v os0 i m' news' gs o
noncomputable def LawInv (m1 : Str → Option Value) (rows bound : Nat) (ends : Str) (tr tb te : Tok) (LL : Nat) (u v : Int) (os0 : OsState) : Inv := fun i m' news' s' => LawI m1 rows bound ends tr tb te LL u v os0 i m' news' s'.gens s'.os
inductive SizeI (m1 : Str → Option Value) (rows bound : Nat) (ends : Str) (tr tb te : Tok) (LL : Nat) (u v : Int) (os0 : OsState) (place : Nat) (tp : Tok) (T : Nat) (I0 : Nat) (io0 : Obj) (tail0 : List (Addr × Obj)) (i : Nat) (m' : Str → Option Value) (news' : List (Addr × Obj)) (gs : Array GenState) (o : OsState) : Prop
  | mk (a3 a4 a5 a6 a7 a8 f1 f2 f3 : Option Value) (Lg k : Nat) (es : List Ent) (tail : List (Addr × Obj)) (e : m' = lmap m1 rows bound ends tr tb te (some (.int ((place + 1 : Nat) : Int) tp)) (some (.ref Lg)) a3 a4 a5 a6 a7 a8 (some (.ref T)) f1 f2 f3) (l : LedgerI LL u v os0 ((I0, io0) :: tail) news' gs o)
    (hsub : ∀ p ∈ tail0, p ∈ tail) (hoff : ∀ p ∈ tail, p.1 ≠ I0) (hL : (Lg, listN (refsOf es) k) ∈ tail) (hes : ∀ e ∈ es, e.ok bound tail) (htab : tabOf es = (List.range i).map (rowF rows bound u v place)) (hnb : ∀ j < i, brk rows bound (place + 1) j = false) : SizeI m1 rows bound ends tr tb te LL u v os0 place tp T I0 io0 tail0 i m' news' gs o
noncomputable def SizeInv (m1 : Str → Option Value) (rows bound : Nat) (ends : Str) (tr tb te : Tok) (LL : Nat) (u v : Int) (os0 : OsState) (place : Nat) (tp : Tok) (T : Nat) (I0 : Nat) (io0 : Obj) (tail0 : List (Addr × Obj)) : Inv := fun i m' news' s' => SizeI m1 rows bound ends tr tb te LL u v os0 place tp T I0 io0 tail0 i m' news' s'.gens s'.os
inductive PairI (mf : Option Value → Option Value → Option Value → Str → Option Value) (base : List (Addr × Obj)) (os0 : OsState) (F : Nat → List Int) (j : Nat) (m' : Str → Option Value) (news' : List (Addr × Obj)) (gs : Array GenState) (o : OsState) : Prop
  | mk (a7 a8 : Option Value) (S n : Nat) (vs : List Value) (e : m' = mf (some (.ref S)) a7 a8) (en : news' = (S, listN vs n) :: base) (hi : IntsAre vs (F j)) (hb : ∀ p ∈ base, @LT.lt Nat _ p.1 S) (g : AllBare gs) (eo : o = os0) : PairI mf base os0 F j m' news' gs o
noncomputable def PairInv (mf : Option Value → Option Value → Option Value → Str → Option Value) (base : List (Addr × Obj)) (os0 : OsState) (F : Nat → List Int) : Inv := fun j m' news' s' => PairI mf base os0 F j m' news' s'.gens s'.os
theorem rot6 {h₀ h : Heap} {L : Addr} {i a b c d e : Addr × Obj} {r : List (Addr × Obj)} (N : News h₀ L h (i :: a :: b :: c :: d :: e :: r)) : News h₀ L h (a :: b :: c :: d :: e :: i :: r) := by
  intro p hp
  simp only [List.mem_cons] at hp
  rcases hp with q | q | q | q | q | q | q <;> first | (subst q; apply N; simp) | exact N p (by simp [q])
theorem rot6' {h₀ h : Heap} {L : Addr} {i a b c d e : Addr × Obj} {r : List (Addr × Obj)} (N : News h₀ L h (a :: b :: c :: d :: e :: i :: r)) : News h₀ L h (i :: a :: b :: c :: d :: e :: r) := by
  intro p hp
  simp only [List.mem_cons] at hp
  rcases hp with q | q | q | q | q | q | q <;> first | (subst q; apply N; simp) | exact N p (by simp [q])
theorem Apart5.off {LL I : Nat} {q1 q2 q3 q4 q5 : Obj} {tail : List (Addr × Obj)} (off : ∀ p ∈ (174, q1) :: (181, q2) :: (LL + 1, q3) :: (LL + 1 + 1, q4) :: (LL + 1 + 1 + 1, q5) :: tail, p.1 ≠ I) : Apart5 LL I :=
  ⟨fun e => off (174, q1) (.head _) e.symm, fun e => off (181, q2) (.tail _ (.head _)) e.symm, fun e => off (LL + 1, q3) (.tail _ (.tail _ (.head _))) e.symm, fun e => off (LL + 1 + 1, q4) (.tail _ (.tail _ (.tail _ (.head _)))) e.symm,
    fun e => off (LL + 1 + 1 + 1, q5) (.tail _ (.tail _ (.tail _ (.tail _ (.head _))))) e.symm⟩
theorem apart_cons {LL : Nat} {p : Addr × Obj} {tail : List (Addr × Obj)} (h : Apart5 LL p.1) (hs : ∀ p ∈ tail, Apart5 LL p.1) : ∀ q ∈ p :: tail, Apart5 LL q.1 := by
  intro q hq
  rcases List.mem_cons.mp hq with rfl | hq
  · exact h
  · exact hs q hq
theorem ne_cells {c a1 a2 a3 : Nat} {o1 o2 o3 : Obj} {tail : List (Addr × Obj)} (h1 : a1 ≠ c) (h2 : a2 ≠ c) (h3 : a3 ≠ c) (h : ∀ p ∈ tail, p.1 ≠ c) : ∀ p ∈ (a1, o1) :: (a2, o2) :: (a3, o3) :: tail, p.1 ≠ c := sep_cons h1 (sep_cons h2 (sep_cons h3 h))
theorem pair_front {h₀ h : Heap} {L : Addr} {i s a b c d g w : Addr × Obj} {r : List (Addr × Obj)} {q : Addr × Obj} (N : News h₀ L h (i :: s :: a :: b :: c :: d :: g :: w :: r)) (hq : q ∈ r) : News h₀ L h (q :: i :: s :: a :: b :: c :: d :: g :: w :: r) := by
  intro p hp
  rcases List.mem_cons.mp hp with rfl | hp
  · exact N _ (mt8 hq)
  · exact N p hp
theorem news_add {h₀ h : Heap} {L : Addr} {nw : List (Addr × Obj)} {q : Addr × Obj} (N : News h₀ L h nw) (hq : q ∈ nw) : News h₀ L h (q :: nw) := by
  intro p hp
  rcases List.mem_cons.mp hp with rfl | hp
  · exact N _ hq
  · exact N p hp
theorem rep_zero {t : Tok} : ∀ n : Nat, IntsAre (List.replicate n (Value.int 0 t)) (List.replicate n 0)
  | 0 => .nil
  | n + 1 => .cons 0 t (rep_zero n)
section
local macro_rules
  | `(tactic| walk_at "exec If BoolOp cons nil") => `(tactic| walk_at "shl")
  | `(tactic| walk_at "eval IfExp") => `(tactic| walk_at "shl")
  | `(tactic| walk_at "eval IfExp Call") => `(tactic| walk_at "shl")
  | `(tactic| walk_at "call type:zip") => `(tactic| walk_at "shl")
section
variable {prog : Program} {w : World} {A : Around} {E : Value → Shared → Prop} {s : Shared}
theorem add_nat {a b : Nat} {t u : Tok} {Q : Value → Shared → Prop} (h : Q (.int ((a + b : Nat) : Int) s.toks) { s with toks := s.toks + 1 }) : wpAny (model prog w) A (binaryOp .Add (.int (a : Int) t) (.int (b : Int) u)) Q E s := by
  refine add_int ?_
  rw [← Int.natCast_add]; exact h
theorem pow_two {a : Int} {t u : Tok} {Q : Value → Shared → Prop} (ha : a.natAbs ≤ 1000) (h : Q (.int (a ^ 2) s.toks) { s with toks := s.toks + 1 }) : wpAny (model prog w) A (binaryOp .Pow (.int a t) (.int 2 u)) Q E s := pow_nat (n := 2) (by decide) ha h
end
theorem lmap_else {m1 : Str → Option Value} {rows bound : Nat} {ends : Str} {tr tb te : Tok} {x1 x2 x3 x4 x5 x6 x7 x8 x9 x10 x11 x12 : Option Value} {y : Str} (h1 : y ≠ Str.ofString "place") (h2 : y ≠ Str.ofString "longer") (h3 : y ≠ Str.ofString "size") (h4 : y ≠ Str.ofString "least") (h5 : y ≠ Str.ofString "gain") (h6 : y ≠ Str.ofString "sums") (h7 : y ≠ Str.ofString "wanted") (h8 : y ≠ Str.ofString "old") (h9 : y ≠ Str.ofString "table") (h10 : y ≠ Str.ofString "found") (h11 : y ≠ Str.ofString "asked") (h12 : y ≠ Str.ofString "part") (h13 : y ≠ Str.ofString "rows") (h14 : y ≠ Str.ofString "bound") (h15 : y ≠ Str.ofString "ends") :
    lmap m1 rows bound ends tr tb te x1 x2 x3 x4 x5 x6 x7 x8 x9 x10 x11 x12 y = m1 y := by
  unfold lmap
  (repeat refine (if_neg (by assumption)).trans ?_)
  rfl
noncomputable def PartMark : Prop := True
inductive Pair2I (mf : Option Value → Option Value → Option Value → Str → Option Value) (base : List (Addr × Obj)) (os0 : OsState) (F : Nat → List Int) (len : Nat) (j : Nat) (m' : Str → Option Value) (news' : List (Addr × Obj)) (gs : Array GenState) (o : OsState) : Prop
  | mk (a7 a8 : Option Value) (S n : Nat) (vs : List Value) (e : m' = mf (some (.ref S)) a7 a8) (en : news' = (S, listN vs n) :: base) (hi : IntsAre vs (F j)) (hl : vs.length = len) (g : AllBare gs) (eo : o = os0) : Pair2I mf base os0 F len j m' news' gs o
noncomputable def PairInv2 (mf : Option Value → Option Value → Option Value → Str → Option Value) (base : List (Addr × Obj)) (os0 : OsState) (F : Nat → List Int) (len : Nat) : Inv := fun j m' news' s' => Pair2I mf base os0 F len j m' news' s'.gens s'.os
inductive PartI (mf : Option Value → Option Value → Option Value → Str → Option Value) (base : List (Addr × Obj)) (os0 : OsState) (Ff Fa : Nat → List Int) (len : Nat) (j : Nat) (m' : Str → Option Value) (news' : List (Addr × Obj)) (gs : Array GenState) (o : OsState) : Prop
  | mk (a9 : Option Value) (Fd Ad nf na : Nat) (vf va : List Value) (e : m' = mf (some (.ref Fd)) (some (.ref Ad)) a9) (en : news' = (Fd, listN vf nf) :: (Ad, listN va na) :: base) (hf : IntsAre vf (Ff j)) (ha : IntsAre va (Fa j)) (lf : vf.length = len) (la : va.length = len) (g : AllBare gs) (eo : o = os0) : PartI mf base os0 Ff Fa len j m' news' gs o
noncomputable def PartInv (mf : Option Value → Option Value → Option Value → Str → Option Value) (base : List (Addr × Obj)) (os0 : OsState) (Ff Fa : Nat → List Int) (len : Nat) : Inv := fun j m' news' s' => PartI mf base os0 Ff Fa len j m' news' s'.gens s'.os
theorem zip_length {f : Int → Int → Int} {vs : List Value} {xs ys : List Int} {n : Nat} (h : IntsAre vs (List.zipWith f xs ys)) (hx : xs.length = n) (hy : n ≤ ys.length) : vs.length = n := by
  rw [h.length]; exact zip_len hx hy
theorem post_law (l : OpenLaw) (args : List WData) : l.row.toRowW.claim.post args (.bool true) args = true := by
  refine postW_of (X := true) rfl ?_ rfl
  show WTm.value _ (.eq .res (.lit (.bool true))) _ = _
  wtm_val
/- The theorems law_holds.tw… below say nothing and no step leans on them. They take the names under which the head's walk
would lay down second copies of large constants, with long equations; where such a name is taken the walk evaluates the plain
term. So the compiled file stays under its lid (with the copies: 59 MB for the head alone). The option ahead of law_holds
gives the copies names under the theorem's own name. -/
theorem law_holds.tw6927793712695671261 : True := trivial
theorem law_holds.tw1035469204868569938 : True := trivial
theorem law_holds.tw14278440977086061073 : True := trivial
theorem law_holds.tw13536078969547264968 : True := trivial
theorem law_holds.tw2165588494008625497 : True := trivial
theorem law_holds.tw7658626208958061939 : True := trivial
theorem law_holds.tw4581164400922460565 : True := trivial
theorem law_holds.tw7589297994852775868 : True := trivial
theorem law_holds.tw2175392478943181252 : True := trivial
theorem law_holds.tw699380112222796084 : True := trivial
theorem law_holds.tw17273243488114572446 : True := trivial
theorem law_holds.tw9606376775287448836 : True := trivial
theorem law_holds.tw12115171985352901274 : True := trivial
theorem law_holds.tw13709617746848070560 : True := trivial
theorem law_holds.tw12139075566331608612 : True := trivial
theorem law_holds.tw179590077315354965 : True := trivial
theorem law_holds.tw14997073306097389879 : True := trivial
theorem law_holds.tw8369274380968253667 : True := trivial
theorem law_holds.tw13431030151845061361 : True := trivial
theorem law_holds.tw15609566024721092083 : True := trivial
theorem law_holds.tw14447809873574782654 : True := trivial
theorem law_holds.tw17180001009569633970 : True := trivial
theorem law_holds.tw7897602043232517924 : True := trivial
theorem law_holds.tw16470317323979864763 : True := trivial
theorem law_holds.tw1670043908289496885 : True := trivial
theorem law_holds.tw6103750384551583581 : True := trivial
theorem law_holds.tw7311554392007033315 : True := trivial
theorem law_holds.tw7080125749870532296 : True := trivial
theorem law_holds.tw1110774673406346159 : True := trivial
theorem law_holds.tw6674946733510290875 : True := trivial
theorem law_holds.tw10643469859437029617 : True := trivial
theorem law_holds.tw15352839923633478061 : True := trivial
theorem law_holds.tw8836851574564057595 : True := trivial
theorem law_holds.tw2102315897755806987 : True := trivial
theorem law_holds.tw14822640431511872941 : True := trivial
theorem law_holds.tw1414043511812021011 : True := trivial
theorem law_holds.tw11232796583565578275 : True := trivial
theorem law_holds.tw9207643191828677137 : True := trivial
theorem law_holds.tw10242277825702978295 : True := trivial
theorem law_holds.tw3035144380315620824 : True := trivial
theorem law_holds.tw4503035019201841076 : True := trivial
theorem law_holds.tw1353410119838474662 : True := trivial
theorem law_holds.tw6911747868599837429 : True := trivial
theorem law_holds.tw17237755526102222789 : True := trivial
theorem law_holds.tw631266038723830076 : True := trivial
theorem law_holds.tw4329158554759489670 : True := trivial
theorem law_holds.tw2269544990204364226 : True := trivial
theorem law_holds.tw15014403891855920072 : True := trivial
theorem law_holds.tw8666519363043736892 : True := trivial
theorem law_holds.tw519298541982818421 : True := trivial
theorem law_holds.tw8738203770724426771 : True := trivial
theorem law_holds.tw18135211599370774712 : True := trivial
theorem law_holds.tw4716974602092875015 : True := trivial
theorem law_holds.tw16099233806120587224 : True := trivial
theorem law_holds.tw16015401734918298211 : True := trivial
theorem law_holds.tw3742325753681652743 : True := trivial
theorem law_holds.tw6333624483447246961 : True := trivial
theorem law_holds.tw7628765433844752937 : True := trivial
theorem law_holds.tw8453982366859765931 : True := trivial
theorem law_holds.tw10566571302883470556 : True := trivial
theorem law_holds.tw15806970514647361693 : True := trivial
theorem law_holds.tw3756308257209627903 : True := trivial
theorem law_holds.tw3033269912633744064 : True := trivial
theorem law_holds.tw14883556706271630602 : True := trivial
theorem law_holds.tw11895916312457396305 : True := trivial
theorem law_holds.tw1186782194237197914 : True := trivial
theorem law_holds.tw10308740554644630452 : True := trivial
theorem law_holds.tw12134408205421670959 : True := trivial
theorem law_holds.tw3186734533307500241 : True := trivial
theorem law_holds.tw14925382992726071281 : True := trivial
theorem law_holds.tw8472228645029834797 : True := trivial
theorem law_holds.tw9288214680346807717 : True := trivial
theorem law_holds.tw3882201998751590657 : True := trivial
theorem law_holds.tw5506821171919863439 : True := trivial
theorem law_holds.tw15154110283740273250 : True := trivial
theorem law_holds.tw13780023080261437657 : True := trivial
theorem law_holds.tw16406091861079842607 : True := trivial
theorem law_holds.tw13397297893571687751 : True := trivial
theorem law_holds.tw10368410895845634921 : True := trivial
theorem law_holds.tw1989176631692091739 : True := trivial
theorem law_holds.tw8441880690091102137 : True := trivial
theorem law_holds.tw3234938669768167354 : True := trivial
theorem law_holds.tw12647261435108384846 : True := trivial
theorem law_holds.tw14497384708736915567 : True := trivial
theorem law_holds.tw18221428039690301666 : True := trivial
theorem law_holds.tw13028658284911697911 : True := trivial
theorem law_holds.tw4818577856007422655 : True := trivial
theorem law_holds.tw3005452535816212104 : True := trivial
theorem law_holds.tw9168033884955339765 : True := trivial
theorem law_holds.tw3850334171643177529 : True := trivial
theorem law_holds.tw2856731137302751260 : True := trivial
theorem law_holds.tw13101961327849317808 : True := trivial
theorem law_holds.tw15448297888555860652 : True := trivial
theorem law_holds.tw11426015686315989412 : True := trivial
theorem law_holds.tw18430954121086234272 : True := trivial
theorem law_holds.tw11781800970755023335 : True := trivial
theorem law_holds.tw7696488724909661519 : True := trivial
theorem law_holds.tw11609493526922420660 : True := trivial
theorem law_holds.tw13402424001964919149 : True := trivial
theorem law_holds.tw11100686419730198450 : True := trivial
theorem law_holds.tw4439653461905209652 : True := trivial
theorem law_holds.tw15544829507116839252 : True := trivial
theorem law_holds.tw14774650325386425613 : True := trivial
theorem law_holds.tw15732109348078318572 : True := trivial
theorem law_holds.tw16836969012518115619 : True := trivial
theorem law_holds.tw6881874429007886204 : True := trivial
theorem law_holds.tw7185456241796803578 : True := trivial
theorem law_holds.tw8652346329174877282 : True := trivial
theorem law_holds.tw14160533322030094474 : True := trivial
theorem law_holds.tw8330938851228082562 : True := trivial
theorem law_holds.tw13622764220451678527 : True := trivial
theorem law_holds.tw6765152471904792315 : True := trivial
theorem law_holds.tw9682718004065560343 : True := trivial
theorem law_holds.tw10028117763298573888 : True := trivial
theorem law_holds.tw10817052189556005596 : True := trivial
theorem law_holds.tw653560878884961445 : True := trivial
theorem law_holds.tw16009327648451700120 : True := trivial
theorem law_holds.tw7019463264422422977 : True := trivial
theorem law_holds.tw16098122237329998606 : True := trivial
theorem law_holds.tw6896717019858035522 : True := trivial
theorem law_holds.tw6709271908398517637 : True := trivial
theorem law_holds.tw10465528174321978529 : True := trivial
theorem law_holds.tw14983226153234331074 : True := trivial
theorem law_holds.tw7407239408455114201 : True := trivial
theorem law_holds.tw11133525997344109421 : True := trivial
theorem law_holds.tw4781243967656130014 : True := trivial
theorem law_holds.tw8486029173102831156 : True := trivial
set_option Elab.async true in
theorem law_holds : PySem.Challenge.rw_tc0050_01.Holds := by
  w_on
  o_law
  o_head (kHook mk.heap_1 asV asV_eq)
  case hw => w_witness2
  intro w s₀ s₁ mg mb G Y fa o pm cd doc dV kV ho hd hcd hD hmg hg args vals as hpre hlay hrd hwl hlo
  have KX := kIn_of Y
  clear Y
  refine Ground.open G ?_
  intro T B D TE TW
  try (refine guard_noD D (by decide +kernel) ?_; clear D)
  have hT9 : TabsAt tabs9 s₁.heap := tabs_at KX
  clear hmg B TE TW
  wrow_args hpre hlay hrd hwl hlo
  refine enter_call ?_
  w_top on
  refine law_post hT9 (fun _ => rfl) (post_law _ _) ?_
  w_call any ho hd hcd hD T F
  clear hD hcd ho
  rename News _ _ _ _ => N
  clear G
  rename_i ns _ _ _ _ _ _ _ _ vs _ hl _ _ _ hi _ hcond _ hh tkk oc o2 o1 dc d2 d1 xx
  clear xx
  have l0 := ghost_lt hT9 F
  have X' := KN_ghost KX
  have T' := ghost_top hT9 T
  have K' := ghost_below hT9
  have N' := ghost_news hT9 F N
  have F' := ghost_fr hT9 F
  have hl' := ghost_list hT9 hl
  clear N F hl KX T hT9 hd
  have l8 : @LT.lt Nat _ 181 s₁.heap.objs.size := l0 (181, tabObj #[]) (.tail _ (.head _))
  replace dc : oc.data = .cell none := dc
  replace d2 : o2.data = .cell none := d2
  replace d1 : o1.data = .cell none := d1
  have hgo : s₁.heap.objs.size = s₁.heap.objs.size := rfl
  clear hgo l0
  have G : AllBare s₁.gens := .of_eq hg
  have hn : ns.length ≤ 63 := by omega
  clear hg
  rename_i l _ _ _ _ _ _ _
  have N0 : News (ghostOf s₁.heap tabs9) s₁.heap.objs.size hh ((174, tabObj #[]) :: (181, tabObj #[]) :: (s₁.heap.objs.size + 1, o1) :: (s₁.heap.objs.size + 1 + 1, o2) :: (s₁.heap.objs.size + 1 + 1 + 1, oc) :: []) := by (refine Mine.news_sub (by assumption) ?_; repeat (first | exact Mine.subs_refl | exact Mine.subs_nil | (refine Mine.subs_cons ?_ ?_; (focus k_mem)) | refine Mine.subs_skip ?_))
  clear N'
  have p1 : TabTwo posLen #[] := by first | exact .inl rfl | (unfold TabTwo; simp; done)
  have p2 : TabTwo posStr #[] := by first | exact .inl rfl | (unfold TabTwo; simp; done)
  obtain ⟨gB, hgB⟩ : ∃ g, ghostOf s₁.heap tabs9 = g := ⟨_, rfl⟩
  rw [hgB] at X' T' K' N0 F' hl' ⊢
  clear hgB
  obtain ⟨LL, hLL⟩ : ∃ n, s₁.heap.objs.size = n := ⟨_, rfl⟩
  rw [hLL] at l8 N0 F' ⊢
  clear hLL
  k_drop
  show wpAny _ _ _ _ _ _
  k_fold
  (repeat' (first | (k_unfold; (try dsimp only)) | (k_end; wrow_close) | ((with_reducible refine Mine.execs_cons_g ?_); intro _; (try dsimp only)) | ((with_reducible refine Mine.Stop.un ?_); (first | with_reducible (first | ((with_reducible refine Mine.pow_two (by omega) ?_)) | ((with_reducible rename PartMark => pm9); (with_reducible refine Mine.add_nat ?_)) | ((with_reducible show wpAny _ _ (binaryOp Operator.Add (Value.ref _) (Value.ref _)) _ _ _); (with_reducible rename Mark => mk9); k_dflt (refine' Mine.add_news ?zqF ?zqN ?zqm1 ?zqm2 ?zqhz ?_; (case zqF => k_asm); (case zqN => k_asm); (case zqm1 => k_mem); (case zqm2 => k_mem); (case zqhz => (simp only [List.length_append, List.length_replicate, List.length_map, List.length_cons, List.length_nil]; omega)); k_whole); intro _ _ _ _ l1; (try k_lt l1); (try (revert l1; intro _))) | ((with_reducible show wpAny _ _ (binaryOp Operator.Mult (Value.ref _) (Value.int (Nat.cast _) _)) _ _ _); (with_reducible rename Mark => mk9); k_dflt (refine' Mine.mul_news ?zqF ?zqN ?zqhm ?zqhk ?_; (case zqF => k_asm); (case zqN => k_asm); (case zqhm => k_mem); (case zqhk => omega); k_whole); intro _ _ _ _ l1; (try k_lt l1); (try (revert l1; intro _))) | ((with_reducible show wpAny _ _ (exec (Stmt.Assign _ (PySem.Expr.ListComp _ [⟨PySem.Expr.Tuple _ _ _, _, _, _⟩] _ _) _) _) _ _ _); k_dflt (refine Mine.Assign_zip (F₀ := by k_asm) (by rfl) (by with_unfolding_all rfl) (by with_unfolding_all rfl) (by decide) (by rfl) (by decide) (by rfl) (by rfl) (by decide) (by rfl) (by rfl) ?_)) | ((with_reducible show wpAny _ _ (exec (Stmt.For (PySem.Expr.Tuple _ _ _) _ _ _ _) _) _ _ _); k_dflt (refine Mine.For_pairs (by assumption) rfl rfl rfl ?_)) | ((with_reducible refine Mine.pow_nat (by omega) (by omega) ?_)) | ((with_reducible refine Mine.sub_nat (by omega) ?_)) | ((with_reducible show wpAny _ _ (call (Value.ref 247) _) _ _ _); k_dflt (refine' Mine.dots_spec ?zqB ?zqF ?zqX ?zqT ?zqhk ?zqhdp ?zqhu ?zqN ?zqhsp ?zqhyl ?zqhks ?_; (case zqB => k_asm); (case zqF => k_asm); (case zqX => k_asm); (case zqT => k_asm); (case zqhk => first | assumption | exact rfl); (case zqhdp => ((try simp only [depth_under_make, depth_under_kw, depth_in1, depth_deeper, depth_caller, units_in1, units_deeper, Around.mark_units, units_caller]); (try dsimp only [ktrTop]); omega)); (case zqhu => ((try simp only [depth_under_make, depth_under_kw, depth_in1, depth_deeper, depth_caller, units_in1, units_deeper, Around.mark_units, units_caller]); (try dsimp only [ktrTop]); omega)); (case zqN => assumption); (case zqhsp => assumption); (case zqhyl => assumption); (case zqhks => assumption); intro _ _ _ _ _)) | ((with_reducible show wpAny _ _ (call (Value.ref 240) _) _ _ _); k_dflt (refine' Mine.sent2_spec ?zqB ?zqF ?zqX ?zqT ?zqhk ?zqhdp ?zqhu ?zqG ?zqN ?zqp1 ?zqp2 ?zqo1 ?zqo2 ?zqhs ?zqhw ?zqhw4 ?zqh14 ?zqhe ?_; (case zqB => k_asm); (case zqF => k_asm); (case zqX => k_asm); (case zqT => k_asm); (case zqhk => first | assumption | exact rfl); (case zqhdp => ((try simp only [depth_under_make, depth_under_kw, depth_in1, depth_deeper, depth_caller, units_in1, units_deeper, Around.mark_units, units_caller]); (try dsimp only [ktrTop]); omega)); (case zqhu => ((try simp only [depth_under_make, depth_under_kw, depth_in1, depth_deeper, depth_caller, units_in1, units_deeper, Around.mark_units, units_caller]); (try dsimp only [ktrTop]); omega)); (case zqG => assumption); (case zqN => assumption); (case zqp1 => assumption); (case zqp2 => assumption); (case zqo1 => assumption); (case zqo2 => assumption); (case zqhs => assumption); (case zqhw => assumption); (case zqhw4 => assumption); (case zqh14 => assumption); (case zqhe => assumption); intro _ _ _ _ _ _ _ _ _ _ _ _ _ _ _ _)) | ((with_reducible show wpAny _ _ (exec (Stmt.For (PySem.Expr.Name _ _) _ _ _ _) _) _ _ _); k_dflt (refine Mine.For_led (by assumption) rfl rfl ?_)) | ((with_reducible show wpAny _ _ (subscriptTail _ _ (Value.ref _) (Value.int _ _)) _ _ _); k_dflt (refine' Mine.menu3 ?zqN ?zqhm ?zqh0 ?zqh3 ?_ ?zqhs; (case zqN => k_asm); (case zqhm => k_mem); (case zqh0 => l_fact); (case zqh3 => l_fact); (case zqhs => intro _; with_unfolding_all rfl)); intro _ _ _)) | (have ns9 : Mine.NoStop := trivial; walk1; (all_goals (try clear ns9))))) | walk1 | (dsimp only; walk1) | (leave1; walk_say "STEP leave1"; try dsimp only) | fail "no step"))
  obtain ⟨fs, hfs⟩ := pick_ints (lo := none) (hi := none) (st := some 2) (by assumption : IntsAre ys _)
  refine sum_news rfl (by assumption) (by assumption) (.head _) hfs ?_
  intro h1 tk1 t1 F1 N1
  replace N1 := news_tail N1
  obtain ⟨first, hfirst⟩ : ∃ x, fs.sum = x := ⟨_, rfl⟩
  rw [hfirst]
  clear hfirst
  (repeat' (first | (k_unfold; (try dsimp only)) | (k_end; wrow_close) | ((with_reducible refine Mine.execs_cons_g ?_); intro _; (try dsimp only)) | ((with_reducible refine Mine.Stop.un ?_); (first | with_reducible (first | ((with_reducible refine Mine.pow_two (by omega) ?_)) | ((with_reducible rename PartMark => pm9); (with_reducible refine Mine.add_nat ?_)) | ((with_reducible show wpAny _ _ (binaryOp Operator.Add (Value.ref _) (Value.ref _)) _ _ _); (with_reducible rename Mark => mk9); k_dflt (refine' Mine.add_news ?zqF ?zqN ?zqm1 ?zqm2 ?zqhz ?_; (case zqF => k_asm); (case zqN => k_asm); (case zqm1 => k_mem); (case zqm2 => k_mem); (case zqhz => (simp only [List.length_append, List.length_replicate, List.length_map, List.length_cons, List.length_nil]; omega)); k_whole); intro _ _ _ _ l1; (try k_lt l1); (try (revert l1; intro _))) | ((with_reducible show wpAny _ _ (binaryOp Operator.Mult (Value.ref _) (Value.int (Nat.cast _) _)) _ _ _); (with_reducible rename Mark => mk9); k_dflt (refine' Mine.mul_news ?zqF ?zqN ?zqhm ?zqhk ?_; (case zqF => k_asm); (case zqN => k_asm); (case zqhm => k_mem); (case zqhk => omega); k_whole); intro _ _ _ _ l1; (try k_lt l1); (try (revert l1; intro _))) | ((with_reducible show wpAny _ _ (exec (Stmt.Assign _ (PySem.Expr.ListComp _ [⟨PySem.Expr.Tuple _ _ _, _, _, _⟩] _ _) _) _) _ _ _); k_dflt (refine Mine.Assign_zip (F₀ := by k_asm) (by rfl) (by with_unfolding_all rfl) (by with_unfolding_all rfl) (by decide) (by rfl) (by decide) (by rfl) (by rfl) (by decide) (by rfl) (by rfl) ?_)) | ((with_reducible show wpAny _ _ (exec (Stmt.For (PySem.Expr.Tuple _ _ _) _ _ _ _) _) _ _ _); k_dflt (refine Mine.For_pairs (by assumption) rfl rfl rfl ?_)) | ((with_reducible refine Mine.pow_nat (by omega) (by omega) ?_)) | ((with_reducible refine Mine.sub_nat (by omega) ?_)) | ((with_reducible show wpAny _ _ (call (Value.ref 247) _) _ _ _); k_dflt (refine' Mine.dots_spec ?zqB ?zqF ?zqX ?zqT ?zqhk ?zqhdp ?zqhu ?zqN ?zqhsp ?zqhyl ?zqhks ?_; (case zqB => k_asm); (case zqF => k_asm); (case zqX => k_asm); (case zqT => k_asm); (case zqhk => first | assumption | exact rfl); (case zqhdp => ((try simp only [depth_under_make, depth_under_kw, depth_in1, depth_deeper, depth_caller, units_in1, units_deeper, Around.mark_units, units_caller]); (try dsimp only [ktrTop]); omega)); (case zqhu => ((try simp only [depth_under_make, depth_under_kw, depth_in1, depth_deeper, depth_caller, units_in1, units_deeper, Around.mark_units, units_caller]); (try dsimp only [ktrTop]); omega)); (case zqN => assumption); (case zqhsp => assumption); (case zqhyl => assumption); (case zqhks => assumption); intro _ _ _ _ _)) | ((with_reducible show wpAny _ _ (call (Value.ref 240) _) _ _ _); k_dflt (refine' Mine.sent2_spec ?zqB ?zqF ?zqX ?zqT ?zqhk ?zqhdp ?zqhu ?zqG ?zqN ?zqp1 ?zqp2 ?zqo1 ?zqo2 ?zqhs ?zqhw ?zqhw4 ?zqh14 ?zqhe ?_; (case zqB => k_asm); (case zqF => k_asm); (case zqX => k_asm); (case zqT => k_asm); (case zqhk => first | assumption | exact rfl); (case zqhdp => ((try simp only [depth_under_make, depth_under_kw, depth_in1, depth_deeper, depth_caller, units_in1, units_deeper, Around.mark_units, units_caller]); (try dsimp only [ktrTop]); omega)); (case zqhu => ((try simp only [depth_under_make, depth_under_kw, depth_in1, depth_deeper, depth_caller, units_in1, units_deeper, Around.mark_units, units_caller]); (try dsimp only [ktrTop]); omega)); (case zqG => assumption); (case zqN => assumption); (case zqp1 => assumption); (case zqp2 => assumption); (case zqo1 => assumption); (case zqo2 => assumption); (case zqhs => assumption); (case zqhw => assumption); (case zqhw4 => assumption); (case zqh14 => assumption); (case zqhe => assumption); intro _ _ _ _ _ _ _ _ _ _ _ _ _ _ _ _)) | ((with_reducible show wpAny _ _ (exec (Stmt.For (PySem.Expr.Name _ _) _ _ _ _) _) _ _ _); k_dflt (refine Mine.For_led (by assumption) rfl rfl ?_)) | ((with_reducible show wpAny _ _ (subscriptTail _ _ (Value.ref _) (Value.int _ _)) _ _ _); k_dflt (refine' Mine.menu3 ?zqN ?zqhm ?zqh0 ?zqh3 ?_ ?zqhs; (case zqN => k_asm); (case zqhm => k_mem); (case zqh0 => l_fact); (case zqh3 => l_fact); (case zqhs => intro _; with_unfolding_all rfl)); intro _ _ _)) | (have ns9 : Mine.NoStop := trivial; walk1; (all_goals (try clear ns9))))) | walk1 | (dsimp only; walk1) | (leave1; walk_say "STEP leave1"; try dsimp only) | fail "no step"))
  obtain ⟨gs, hgs⟩ := pick_ints (lo := some 1) (hi := none) (st := some 2) (by assumption : IntsAre ys _)
  refine sum_news rfl (by assumption) (by assumption) (.head _) hgs ?_
  intro h2 tk2 t2 F2 N2
  replace N2 := news_tail N2
  obtain ⟨second, hsecond⟩ : ∃ x, gs.sum = x := ⟨_, rfl⟩
  rw [hsecond]
  clear hsecond
  (repeat' (first | (k_unfold; (try dsimp only)) | (k_end; wrow_close) | ((with_reducible refine Mine.execs_cons_g ?_); intro _; (try dsimp only)) | ((with_reducible refine Mine.Stop.un ?_); (first | with_reducible (first | ((with_reducible refine Mine.pow_two (by omega) ?_)) | ((with_reducible rename PartMark => pm9); (with_reducible refine Mine.add_nat ?_)) | ((with_reducible show wpAny _ _ (binaryOp Operator.Add (Value.ref _) (Value.ref _)) _ _ _); (with_reducible rename Mark => mk9); k_dflt (refine' Mine.add_news ?zqF ?zqN ?zqm1 ?zqm2 ?zqhz ?_; (case zqF => k_asm); (case zqN => k_asm); (case zqm1 => k_mem); (case zqm2 => k_mem); (case zqhz => (simp only [List.length_append, List.length_replicate, List.length_map, List.length_cons, List.length_nil]; omega)); k_whole); intro _ _ _ _ l1; (try k_lt l1); (try (revert l1; intro _))) | ((with_reducible show wpAny _ _ (binaryOp Operator.Mult (Value.ref _) (Value.int (Nat.cast _) _)) _ _ _); (with_reducible rename Mark => mk9); k_dflt (refine' Mine.mul_news ?zqF ?zqN ?zqhm ?zqhk ?_; (case zqF => k_asm); (case zqN => k_asm); (case zqhm => k_mem); (case zqhk => omega); k_whole); intro _ _ _ _ l1; (try k_lt l1); (try (revert l1; intro _))) | ((with_reducible show wpAny _ _ (exec (Stmt.Assign _ (PySem.Expr.ListComp _ [⟨PySem.Expr.Tuple _ _ _, _, _, _⟩] _ _) _) _) _ _ _); k_dflt (refine Mine.Assign_zip (F₀ := by k_asm) (by rfl) (by with_unfolding_all rfl) (by with_unfolding_all rfl) (by decide) (by rfl) (by decide) (by rfl) (by rfl) (by decide) (by rfl) (by rfl) ?_)) | ((with_reducible show wpAny _ _ (exec (Stmt.For (PySem.Expr.Tuple _ _ _) _ _ _ _) _) _ _ _); k_dflt (refine Mine.For_pairs (by assumption) rfl rfl rfl ?_)) | ((with_reducible refine Mine.pow_nat (by omega) (by omega) ?_)) | ((with_reducible refine Mine.sub_nat (by omega) ?_)) | ((with_reducible show wpAny _ _ (call (Value.ref 247) _) _ _ _); k_dflt (refine' Mine.dots_spec ?zqB ?zqF ?zqX ?zqT ?zqhk ?zqhdp ?zqhu ?zqN ?zqhsp ?zqhyl ?zqhks ?_; (case zqB => k_asm); (case zqF => k_asm); (case zqX => k_asm); (case zqT => k_asm); (case zqhk => first | assumption | exact rfl); (case zqhdp => ((try simp only [depth_under_make, depth_under_kw, depth_in1, depth_deeper, depth_caller, units_in1, units_deeper, Around.mark_units, units_caller]); (try dsimp only [ktrTop]); omega)); (case zqhu => ((try simp only [depth_under_make, depth_under_kw, depth_in1, depth_deeper, depth_caller, units_in1, units_deeper, Around.mark_units, units_caller]); (try dsimp only [ktrTop]); omega)); (case zqN => assumption); (case zqhsp => assumption); (case zqhyl => assumption); (case zqhks => assumption); intro _ _ _ _ _)) | ((with_reducible show wpAny _ _ (call (Value.ref 240) _) _ _ _); k_dflt (refine' Mine.sent2_spec ?zqB ?zqF ?zqX ?zqT ?zqhk ?zqhdp ?zqhu ?zqG ?zqN ?zqp1 ?zqp2 ?zqo1 ?zqo2 ?zqhs ?zqhw ?zqhw4 ?zqh14 ?zqhe ?_; (case zqB => k_asm); (case zqF => k_asm); (case zqX => k_asm); (case zqT => k_asm); (case zqhk => first | assumption | exact rfl); (case zqhdp => ((try simp only [depth_under_make, depth_under_kw, depth_in1, depth_deeper, depth_caller, units_in1, units_deeper, Around.mark_units, units_caller]); (try dsimp only [ktrTop]); omega)); (case zqhu => ((try simp only [depth_under_make, depth_under_kw, depth_in1, depth_deeper, depth_caller, units_in1, units_deeper, Around.mark_units, units_caller]); (try dsimp only [ktrTop]); omega)); (case zqG => assumption); (case zqN => assumption); (case zqp1 => assumption); (case zqp2 => assumption); (case zqo1 => assumption); (case zqo2 => assumption); (case zqhs => assumption); (case zqhw => assumption); (case zqhw4 => assumption); (case zqh14 => assumption); (case zqhe => assumption); intro _ _ _ _ _ _ _ _ _ _ _ _ _ _ _ _)) | ((with_reducible show wpAny _ _ (exec (Stmt.For (PySem.Expr.Name _ _) _ _ _ _) _) _ _ _); k_dflt (refine Mine.For_led (by assumption) rfl rfl ?_)) | ((with_reducible show wpAny _ _ (subscriptTail _ _ (Value.ref _) (Value.int _ _)) _ _ _); k_dflt (refine' Mine.menu3 ?zqN ?zqhm ?zqh0 ?zqh3 ?_ ?zqhs; (case zqN => k_asm); (case zqhm => k_mem); (case zqh0 => l_fact); (case zqh3 => l_fact); (case zqhs => intro _; with_unfolding_all rfl)); intro _ _ _)) | (have ns9 : Mine.NoStop := trivial; walk1; (all_goals (try clear ns9))))) | walk1 | (dsimp only; walk1) | (leave1; walk_say "STEP leave1"; try dsimp only) | fail "no step"))
  rename_i ends te he _ _ _ od1 hd1 _ _ od2 hd2 _ _ _ x18 _ _ x19 _ _ x20 _ x21 x22 x23 x24 x25 D0 ws _ hws l26 Dt _ l27 Tt _ l28 _ F8 N8 _ x30 x31 _ _ _ _ _ hr9 F9 N9 x29
  clear F8 N8 x18 x19 x20 x21 x22 x23 x24 x25 x29 x30 x31 hfs hgs d1 d2
  obtain ⟨v3, dc3⟩ : ∃ v3, oc.data = .cell v3 := ⟨_, dc⟩
  obtain ⟨t1', hd1'⟩ : ∃ t, od1.data = .cell (some (.int ((3 + first.fmod 40) * (1 - (first.fdiv 40).fmod 2 * 2)) t)) := ⟨_, hd1⟩
  obtain ⟨t2', hd2'⟩ : ∃ t, od2.data = .cell (some (.int ((5 + second.fmod 40) * (1 - (second.fdiv 40).fmod 2 * 2)) t)) := ⟨_, hd2⟩
  clear dc hd1 hd2
  have hub := dot_bound (a := first) (b := first.fdiv 40)
  have hvb := odd_bound (a := second) (b := second.fdiv 40)
  obtain ⟨u, hu⟩ : ∃ u, (3 + first.fmod 40) * (1 - (first.fdiv 40).fmod 2 * 2) = u := ⟨_, rfl⟩
  rw [hu] at hd1' hub
  clear hu
  obtain ⟨v, hv⟩ : ∃ v, (5 + second.fmod 40) * (1 - (second.fdiv 40).fmod 2 * 2) = v := ⟨_, rfl⟩
  rw [hv] at hd2' hvb
  clear hv
  obtain ⟨rows, hr, r2, r4⟩ := rows_nat (first + second + 1)
  obtain ⟨bound, hb, b7, b10⟩ := bound_nat ((first + second).fdiv 3)
  rw [hr] at hr9
  rw [hb, Int.toNat_natCast, flat_zero] at hws
  have lT : @LT.lt Nat _ (LL + 1 + 1 + 1) Tt := by omega
  have lD : @LT.lt Nat _ (LL + 1 + 1 + 1) Dt := by omega
  have lW : @LT.lt Nat _ (LL + 1 + 1 + 1) D0 := by omega
  clear l26 l27 l28
  refine with_map F9 (fun m0 hm0 F10 => ?_)
  obtain ⟨tr, er⟩ : ∃ t, m0 (Str.ofString "rows") = some (.int (rows : Nat) t) := ⟨_, by rw [← hr, hm0]; rfl⟩
  obtain ⟨tb, eb⟩ : ∃ t, m0 (Str.ofString "bound") = some (.int (bound : Nat) t) := ⟨_, by rw [← hb, hm0]; rfl⟩
  have ee : m0 (Str.ofString "ends") = some (.str ends te) := by rw [hm0]; rfl
  have et : m0 (Str.ofString "table") = some (.ref Tt) := by rw [hm0]; rfl
  have hE : isEnd ends := he
  have mk : Mark := trivial
  obtain ⟨nw, tw, N10⟩ : ∃ nw tw, News gB LL _ [(174, tabObj #[]), (181, tabObj #[]), (LL + 1, od1), (LL + 1 + 1, od2), (LL + 1 + 1 + 1, oc), (Tt, listN [.ref Dt] 0), (Dt, { cls := .type "tuple", data := .seq #[.int 0 tw, .ref D0] }), (D0, listN ws nw)] := ⟨_, _, by (refine Mine.news_sub (by assumption) ?_; repeat (first | exact Mine.subs_refl | exact Mine.subs_nil | (refine Mine.subs_cons ?_ ?_; (focus k_mem)) | refine Mine.subs_skip ?_))⟩
  clear F9 N9 hm0 hr hb he
  refine iter_rangeL (n := rows) (Rr := LawInv m0 rows bound ends tr tb te LL u v s₁.os) (kl := []) rfl hr9 ?hsm ?hsz F10 N10 ?hk ?h0 ?hRs ?turn ?done
  case hsm => exact r1_small (by omega)
  case hsz => exact r1_size
  case hk => intro p hp; cases hp
  case h0 =>
    intro h
    have e := lmap_of (m1 := m0) er eb ee (fun _ _ _ _ _ _ _ _ _ _ _ _ _ _ _ _ => rfl)
    rw [et] at e
    refine ⟨_, _, _, _, _, _, _, _, _, _, _, Tt, 0, [⟨Dt, D0, 0, tw, 0, nw, ws, 1 :: List.replicate bound 0⟩], _, e, ⟨#[], #[], od1, od2, oc, t1', t2', v3, rfl, p1, p2, hd1', hd2', dc3, ?_, G, rfl⟩, .head _, ?_, ?_⟩
    · intro p hp
      simp only [List.mem_cons, List.not_mem_nil, or_false] at hp
      rcases hp with rfl | rfl | rfl <;> exact Apart5.lt (by assumption) l8
    · intro q hq
      rw [List.mem_singleton.mp hq]
      exact ⟨.tail _ (.head _), .tail _ (.tail _ (.head _)), hws, by simp⟩
    · rfl
  case hRs =>
    rintro i m9 n9 s9 h9 tk9 R
    exact R
  case turn =>
    clear hr9 F10 N10 hi hn et hd1' hd2' dc3 hws er eb ee p1 p2
    intro I i t io m1 news1 s1 hi R off kk lt F N
    replace F : Fr gB LL _ _ := F
    replace N : News gB LL _ _ := N
    obtain ⟨a1, a2, a3, a4, a5, a6, a7, a8, f1, f2, f3, T, k, es, tail, rfl, ⟨ps1, ps2, o1, o2, o3, t1, t2, v3, rfl, p1, p2, hd1, hd2, hd3, low, G1, os1⟩, hT, hes, htab⟩ := R
    replace N := rot6 N
    rw [show (1 + (i : Int) * 1) = ((i + 1 : Nat) : Int) by omega] at F
    try dsimp only at F
    show wpAny _ _ _ _ _ _
    k_fold
    ((repeat' (first | (k_unfold; (try dsimp only)) | (k_end; wrow_close) | ((with_reducible refine Mine.Stop.un ?_); (first | with_reducible (first | ((with_reducible refine Mine.pow_two (by omega) ?_)) | ((with_reducible rename PartMark => pm9); (with_reducible refine Mine.add_nat ?_)) | ((with_reducible show wpAny _ _ (binaryOp Operator.Add (Value.ref _) (Value.ref _)) _ _ _); (with_reducible rename Mark => mk9); k_dflt (refine' Mine.add_news ?zqF ?zqN ?zqm1 ?zqm2 ?zqhz ?_; (case zqF => k_asm); (case zqN => k_asm); (case zqm1 => k_mem); (case zqm2 => k_mem); (case zqhz => (simp only [List.length_append, List.length_replicate, List.length_map, List.length_cons, List.length_nil]; omega)); k_whole); intro _ _ _ _ l1; (try k_lt l1); (try (revert l1; intro _))) | ((with_reducible show wpAny _ _ (binaryOp Operator.Mult (Value.ref _) (Value.int (Nat.cast _) _)) _ _ _); (with_reducible rename Mark => mk9); k_dflt (refine' Mine.mul_news ?zqF ?zqN ?zqhm ?zqhk ?_; (case zqF => k_asm); (case zqN => k_asm); (case zqhm => k_mem); (case zqhk => omega); k_whole); intro _ _ _ _ l1; (try k_lt l1); (try (revert l1; intro _))) | ((with_reducible show wpAny _ _ (exec (Stmt.Assign _ (PySem.Expr.ListComp _ [⟨PySem.Expr.Tuple _ _ _, _, _, _⟩] _ _) _) _) _ _ _); k_dflt (refine Mine.Assign_zip (F₀ := by k_asm) (by rfl) (by with_unfolding_all rfl) (by with_unfolding_all rfl) (by decide) (by rfl) (by decide) (by rfl) (by rfl) (by decide) (by rfl) (by rfl) ?_)) | ((with_reducible show wpAny _ _ (exec (Stmt.For (PySem.Expr.Tuple _ _ _) _ _ _ _) _) _ _ _); k_dflt (refine Mine.For_pairs (by assumption) rfl rfl rfl ?_)) | ((with_reducible refine Mine.pow_nat (by omega) (by omega) ?_)) | ((with_reducible refine Mine.sub_nat (by omega) ?_)) | ((with_reducible show wpAny _ _ (call (Value.ref 247) _) _ _ _); k_dflt (refine' Mine.dots_spec ?zqB ?zqF ?zqX ?zqT ?zqhk ?zqhdp ?zqhu ?zqN ?zqhsp ?zqhyl ?zqhks ?_; (case zqB => k_asm); (case zqF => k_asm); (case zqX => k_asm); (case zqT => k_asm); (case zqhk => first | assumption | exact rfl); (case zqhdp => ((try simp only [depth_under_make, depth_under_kw, depth_in1, depth_deeper, depth_caller, units_in1, units_deeper, Around.mark_units, units_caller]); (try dsimp only [ktrTop]); omega)); (case zqhu => ((try simp only [depth_under_make, depth_under_kw, depth_in1, depth_deeper, depth_caller, units_in1, units_deeper, Around.mark_units, units_caller]); (try dsimp only [ktrTop]); omega)); (case zqN => assumption); (case zqhsp => assumption); (case zqhyl => assumption); (case zqhks => assumption); intro _ _ _ _ _)) | ((with_reducible show wpAny _ _ (call (Value.ref 240) _) _ _ _); k_dflt (refine' Mine.sent2_spec ?zqB ?zqF ?zqX ?zqT ?zqhk ?zqhdp ?zqhu ?zqG ?zqN ?zqp1 ?zqp2 ?zqo1 ?zqo2 ?zqhs ?zqhw ?zqhw4 ?zqh14 ?zqhe ?_; (case zqB => k_asm); (case zqF => k_asm); (case zqX => k_asm); (case zqT => k_asm); (case zqhk => first | assumption | exact rfl); (case zqhdp => ((try simp only [depth_under_make, depth_under_kw, depth_in1, depth_deeper, depth_caller, units_in1, units_deeper, Around.mark_units, units_caller]); (try dsimp only [ktrTop]); omega)); (case zqhu => ((try simp only [depth_under_make, depth_under_kw, depth_in1, depth_deeper, depth_caller, units_in1, units_deeper, Around.mark_units, units_caller]); (try dsimp only [ktrTop]); omega)); (case zqG => assumption); (case zqN => assumption); (case zqp1 => assumption); (case zqp2 => assumption); (case zqo1 => assumption); (case zqo2 => assumption); (case zqhs => assumption); (case zqhw => assumption); (case zqhw4 => assumption); (case zqh14 => assumption); (case zqhe => assumption); intro _ _ _ _ _ _ _ _ _ _ _ _ _ _ _ _)) | ((with_reducible show wpAny _ _ (exec (Stmt.For (PySem.Expr.Name _ _) _ _ _ _) _) _ _ _); k_dflt (refine Mine.For_led (by assumption) rfl rfl ?_)) | ((with_reducible show wpAny _ _ (subscriptTail _ _ (Value.ref _) (Value.int _ _)) _ _ _); k_dflt (refine' Mine.menu3 ?zqN ?zqhm ?zqh0 ?zqh3 ?_ ?zqhs; (case zqN => k_asm); (case zqhm => k_mem); (case zqh0 => l_fact); (case zqh3 => l_fact); (case zqhs => intro _; with_unfolding_all rfl)); intro _ _ _)) | (have ns9 : Mine.NoStop := trivial; walk1; (all_goals (try clear ns9))))) | walk1 | (dsimp only; walk1) | (leave1; walk_say "STEP leave1"; try dsimp only) | fail "no step")))
    rename_i Lg _ lLg _ FA NA FB NB hq _ _ _ _ hr8 F8 N8 x8
    clear FA NA FB NB x8
    have lL : Apart5 LL Lg := Apart5.lt (by omega) l8
    have lI : Apart5 LL I := Apart5.off off
    have hLI : Lg ≠ I := (Nat.ne_of_lt (by omega : @LT.lt Nat _ I Lg)).symm
    refine with_map F8 (fun mA hmA F7 => ?_)
    have eA := lmap_of (m1 := m0) (m2 := mA) (rows := rows) (bound := bound) (ends := ends) (tr := tr) (tb := tb) (te := te) (by rw [hmA]; rfl) (by rw [hmA]; rfl) (by rw [hmA]; rfl) (fun y h1 h2 h3 h4 h5 h6 h7 h8 h9 h10 h11 h12 h13 h14 h15 => by rw [hmA]; (repeat with_reducible refine (if_neg (by assumption)).trans ?_); exact lmap_else h1 h2 h3 h4 h5 h6 h7 h8 h9 h10 h11 h12 h13 h14 h15)
    have ep : mA (Str.ofString "place") = some (.int ((i + 1 : Nat) : Int) t) := by rw [hmA]; rfl
    have el : mA (Str.ofString "longer") = some (.ref Lg) := by rw [hmA]; rfl
    have et : mA (Str.ofString "table") = some (.ref T) := by rw [hmA]; rfl
    rw [ep, el, et] at eA
    have N7 : News gB LL hq ((174, tabObj ps1) :: (181, tabObj ps2) :: (LL + 1, o1) :: (LL + 1 + 1, o2) :: (LL + 1 + 1 + 1, o3) :: (I, io) :: (Lg, listN [] 0) :: tail) := by (refine Mine.news_sub (by assumption) ?_; repeat (first | exact Mine.subs_refl | exact Mine.subs_nil | (refine Mine.subs_cons ?_ ?_; (focus k_mem)) | refine Mine.subs_skip ?_))
    clear hmA F8 N8 ep el et
    refine iter_rangeL (n := bound + 1) (Rr := SizeInv m0 rows bound ends tr tb te LL u v s₁.os i t T I io tail) (kl := []) rfl hr8 ?hsm2 ?hsz2 F7 N7 ?hk2 ?h02 ?hRs2 ?turn2 ?done2
    case hsm2 => exact r0_small (by omega)
    case hsz2 => exact r0_size
    case hk2 => intro p hp; cases hp
    case h02 =>
      intro h
      refine ⟨_, _, _, _, _, _, _, _, _, Lg, 0, [], _, eA, ⟨ps1, ps2, o1, o2, o3, t1, t2, v3, rfl, p1, p2, hd1, hd2, hd3, apart_cons lI (apart_cons lL low), G1, os1⟩, fun p hp => .tail _ hp, sep_cons hLI (fun p hp => off p (mt5 hp)), .head _, (fun e he => by cases he), rfl, fun j hj => absurd hj (Nat.not_lt_zero _)⟩
    case hRs2 =>
      rintro i m9 n9 s9 h9 tk9 R
      exact R
    case turn2 =>
      clear hr8 F7 N7 eA
      intro I2 i2 ts io2 m2 news2 s2 hi2 R2 off2 kk2 lt2 F N
      replace F : Fr gB LL _ _ := F
      replace N : News gB LL _ _ := N
      obtain ⟨a3, a4, a5, a6, a7, a8, f1, f2, f3, Lg, k2, es2, tail2, rfl, ⟨ps1, ps2, o1, o2, o3, t1, t2, v3, rfl, p1, p2, hd1, hd2, hd3, low2, G2, os2⟩, hsub, hoff2, hLg, hes2, htab2, hnb⟩ := R2
      replace N := rot6 N
      rw [show (0 + (i2 : Int) * 1) = (i2 : Int) by omega] at F
      try dsimp only at F
      have lI2 : Apart5 LL I2 := Apart5.off off2
      have q174 : ∀ p ∈ (LL + 1, o1) :: (LL + 1 + 1, o2) :: (LL + 1 + 1 + 1, o3) :: (I2, io2) :: (I, io) :: tail2, p.1 ≠ 174 := ne_cells (c := 174) (by omega) (by omega) (by omega) fun p hp => (apart_cons lI2 low2 p hp).1
      have q181 : ∀ p ∈ (LL + 1, o1) :: (LL + 1 + 1, o2) :: (LL + 1 + 1 + 1, o3) :: (I2, io2) :: (I, io) :: tail2, p.1 ≠ 181 := ne_cells (c := 181) (by omega) (by omega) (by omega) fun p hp => (apart_cons lI2 low2 p hp).2.1
      have h14 : i + 1 = 1 → i2 ≤ 4 := fun e => by
        have : i = 0 := by omega
        subst this
        exact brk_one r2 b10 hnb
      have hw4 : i + 1 ≤ 4 := by omega
      have hw1 : 1 ≤ i + 1 := by omega
      have hs10 : i2 ≤ 10 := by omega
      show wpAny _ _ _ _ _ _
      k_fold
      ((repeat' (first | (k_unfold; (try dsimp only)) | (k_end; wrow_close) | ((with_reducible refine Mine.Stop.un ?_); (first | with_reducible (first | ((with_reducible refine Mine.pow_two (by omega) ?_)) | ((with_reducible rename PartMark => pm9); (with_reducible refine Mine.add_nat ?_)) | ((with_reducible show wpAny _ _ (binaryOp Operator.Add (Value.ref _) (Value.ref _)) _ _ _); (with_reducible rename Mark => mk9); k_dflt (refine' Mine.add_news ?zqF ?zqN ?zqm1 ?zqm2 ?zqhz ?_; (case zqF => k_asm); (case zqN => k_asm); (case zqm1 => k_mem); (case zqm2 => k_mem); (case zqhz => (simp only [List.length_append, List.length_replicate, List.length_map, List.length_cons, List.length_nil]; omega)); k_whole); intro _ _ _ _ l1; (try k_lt l1); (try (revert l1; intro _))) | ((with_reducible show wpAny _ _ (binaryOp Operator.Mult (Value.ref _) (Value.int (Nat.cast _) _)) _ _ _); (with_reducible rename Mark => mk9); k_dflt (refine' Mine.mul_news ?zqF ?zqN ?zqhm ?zqhk ?_; (case zqF => k_asm); (case zqN => k_asm); (case zqhm => k_mem); (case zqhk => omega); k_whole); intro _ _ _ _ l1; (try k_lt l1); (try (revert l1; intro _))) | ((with_reducible show wpAny _ _ (exec (Stmt.Assign _ (PySem.Expr.ListComp _ [⟨PySem.Expr.Tuple _ _ _, _, _, _⟩] _ _) _) _) _ _ _); k_dflt (refine Mine.Assign_zip (F₀ := by k_asm) (by rfl) (by with_unfolding_all rfl) (by with_unfolding_all rfl) (by decide) (by rfl) (by decide) (by rfl) (by rfl) (by decide) (by rfl) (by rfl) ?_)) | ((with_reducible show wpAny _ _ (exec (Stmt.For (PySem.Expr.Tuple _ _ _) _ _ _ _) _) _ _ _); k_dflt (refine Mine.For_pairs (by assumption) rfl rfl rfl ?_)) | ((with_reducible refine Mine.pow_nat (by omega) (by omega) ?_)) | ((with_reducible refine Mine.sub_nat (by omega) ?_)) | ((with_reducible show wpAny _ _ (call (Value.ref 247) _) _ _ _); k_dflt (refine' Mine.dots_spec ?zqB ?zqF ?zqX ?zqT ?zqhk ?zqhdp ?zqhu ?zqN ?zqhsp ?zqhyl ?zqhks ?_; (case zqB => k_asm); (case zqF => k_asm); (case zqX => k_asm); (case zqT => k_asm); (case zqhk => first | assumption | exact rfl); (case zqhdp => ((try simp only [depth_under_make, depth_under_kw, depth_in1, depth_deeper, depth_caller, units_in1, units_deeper, Around.mark_units, units_caller]); (try dsimp only [ktrTop]); omega)); (case zqhu => ((try simp only [depth_under_make, depth_under_kw, depth_in1, depth_deeper, depth_caller, units_in1, units_deeper, Around.mark_units, units_caller]); (try dsimp only [ktrTop]); omega)); (case zqN => assumption); (case zqhsp => assumption); (case zqhyl => assumption); (case zqhks => assumption); intro _ _ _ _ _)) | ((with_reducible show wpAny _ _ (call (Value.ref 240) _) _ _ _); k_dflt (refine' Mine.sent2_spec ?zqB ?zqF ?zqX ?zqT ?zqhk ?zqhdp ?zqhu ?zqG ?zqN ?zqp1 ?zqp2 ?zqo1 ?zqo2 ?zqhs ?zqhw ?zqhw4 ?zqh14 ?zqhe ?_; (case zqB => k_asm); (case zqF => k_asm); (case zqX => k_asm); (case zqT => k_asm); (case zqhk => first | assumption | exact rfl); (case zqhdp => ((try simp only [depth_under_make, depth_under_kw, depth_in1, depth_deeper, depth_caller, units_in1, units_deeper, Around.mark_units, units_caller]); (try dsimp only [ktrTop]); omega)); (case zqhu => ((try simp only [depth_under_make, depth_under_kw, depth_in1, depth_deeper, depth_caller, units_in1, units_deeper, Around.mark_units, units_caller]); (try dsimp only [ktrTop]); omega)); (case zqG => assumption); (case zqN => assumption); (case zqp1 => assumption); (case zqp2 => assumption); (case zqo1 => assumption); (case zqo2 => assumption); (case zqhs => assumption); (case zqhw => assumption); (case zqhw4 => assumption); (case zqh14 => assumption); (case zqhe => assumption); intro _ _ _ _ _ _ _ _ _ _ _ _ _ _ _ _)) | ((with_reducible show wpAny _ _ (exec (Stmt.For (PySem.Expr.Name _ _) _ _ _ _) _) _ _ _); k_dflt (refine Mine.For_led (by assumption) rfl rfl ?_)) | ((with_reducible show wpAny _ _ (subscriptTail _ _ (Value.ref _) (Value.int _ _)) _ _ _); k_dflt (refine' Mine.menu3 ?zqN ?zqhm ?zqh0 ?zqh3 ?_ ?zqhs; (case zqN => k_asm); (case zqhm => k_mem); (case zqh0 => l_fact); (case zqh3 => l_fact); (case zqhs => intro _; with_unfolding_all rfl)); intro _ _ _)) | (have ns9 : Mine.NoStop := trivial; walk1; (all_goals (try clear ns9))))) | walk1 | (dsimp only; walk1) | (leave1; walk_say "STEP leave1"; try dsimp only) | fail "no step")))
      rename_i s3 ps1b ps2b tq yq ks hy1 hy2 hy3 hy4 hps1 hps2 G3 os3 _ tl _ hq2 F8 N8
      rw [hy4, least_same] at F8
      clear hy1 hy2 hy3 hy4 q174 q181 p1 p2
      have hge := least_ge (i + 1) i2
      have hgain := gain_le hw1 hw4 hs10 h14
      have hbrk : brk rows bound (i + 1) i2 = (decide (i + 1 < rows) && decide (bound < i2 + leastOf (i + 1) i2)) := rfl
      generalize hle : leastOf (i + 1) i2 = le at F8 hge hgain hbrk
      refine Halt.un ?_
      refine If_known (brk rows bound (i + 1) i2) ?_ ?_
      · by_cases hA : i + 1 < rows
        · by_cases hB : bound < i2 + le
          · have e0 : brk rows bound (i + 1) i2 = true := by rw [hbrk]; simp [hA, hB]
            have hA' : ((i + 1 : Nat) : Int) < (rows : Int) := by omega
            have hB' : (bound : Int) < (i2 : Int) + (le : Int) := by omega
            ((repeat' (first | (k_unfold; (try dsimp only)) | (k_end; wrow_close) | ((with_reducible refine Mine.Stop.un ?_); (first | with_reducible (first | ((with_reducible refine Mine.pow_two (by omega) ?_)) | ((with_reducible rename PartMark => pm9); (with_reducible refine Mine.add_nat ?_)) | ((with_reducible show wpAny _ _ (binaryOp Operator.Add (Value.ref _) (Value.ref _)) _ _ _); (with_reducible rename Mark => mk9); k_dflt (refine' Mine.add_news ?zqF ?zqN ?zqm1 ?zqm2 ?zqhz ?_; (case zqF => k_asm); (case zqN => k_asm); (case zqm1 => k_mem); (case zqm2 => k_mem); (case zqhz => (simp only [List.length_append, List.length_replicate, List.length_map, List.length_cons, List.length_nil]; omega)); k_whole); intro _ _ _ _ l1; (try k_lt l1); (try (revert l1; intro _))) | ((with_reducible show wpAny _ _ (binaryOp Operator.Mult (Value.ref _) (Value.int (Nat.cast _) _)) _ _ _); (with_reducible rename Mark => mk9); k_dflt (refine' Mine.mul_news ?zqF ?zqN ?zqhm ?zqhk ?_; (case zqF => k_asm); (case zqN => k_asm); (case zqhm => k_mem); (case zqhk => omega); k_whole); intro _ _ _ _ l1; (try k_lt l1); (try (revert l1; intro _))) | ((with_reducible show wpAny _ _ (exec (Stmt.Assign _ (PySem.Expr.ListComp _ [⟨PySem.Expr.Tuple _ _ _, _, _, _⟩] _ _) _) _) _ _ _); k_dflt (refine Mine.Assign_zip (F₀ := by k_asm) (by rfl) (by with_unfolding_all rfl) (by with_unfolding_all rfl) (by decide) (by rfl) (by decide) (by rfl) (by rfl) (by decide) (by rfl) (by rfl) ?_)) | ((with_reducible show wpAny _ _ (exec (Stmt.For (PySem.Expr.Tuple _ _ _) _ _ _ _) _) _ _ _); k_dflt (refine Mine.For_pairs (by assumption) rfl rfl rfl ?_)) | ((with_reducible refine Mine.pow_nat (by omega) (by omega) ?_)) | ((with_reducible refine Mine.sub_nat (by omega) ?_)) | ((with_reducible show wpAny _ _ (call (Value.ref 247) _) _ _ _); k_dflt (refine' Mine.dots_spec ?zqB ?zqF ?zqX ?zqT ?zqhk ?zqhdp ?zqhu ?zqN ?zqhsp ?zqhyl ?zqhks ?_; (case zqB => k_asm); (case zqF => k_asm); (case zqX => k_asm); (case zqT => k_asm); (case zqhk => first | assumption | exact rfl); (case zqhdp => ((try simp only [depth_under_make, depth_under_kw, depth_in1, depth_deeper, depth_caller, units_in1, units_deeper, Around.mark_units, units_caller]); (try dsimp only [ktrTop]); omega)); (case zqhu => ((try simp only [depth_under_make, depth_under_kw, depth_in1, depth_deeper, depth_caller, units_in1, units_deeper, Around.mark_units, units_caller]); (try dsimp only [ktrTop]); omega)); (case zqN => assumption); (case zqhsp => assumption); (case zqhyl => assumption); (case zqhks => assumption); intro _ _ _ _ _)) | ((with_reducible show wpAny _ _ (call (Value.ref 240) _) _ _ _); k_dflt (refine' Mine.sent2_spec ?zqB ?zqF ?zqX ?zqT ?zqhk ?zqhdp ?zqhu ?zqG ?zqN ?zqp1 ?zqp2 ?zqo1 ?zqo2 ?zqhs ?zqhw ?zqhw4 ?zqh14 ?zqhe ?_; (case zqB => k_asm); (case zqF => k_asm); (case zqX => k_asm); (case zqT => k_asm); (case zqhk => first | assumption | exact rfl); (case zqhdp => ((try simp only [depth_under_make, depth_under_kw, depth_in1, depth_deeper, depth_caller, units_in1, units_deeper, Around.mark_units, units_caller]); (try dsimp only [ktrTop]); omega)); (case zqhu => ((try simp only [depth_under_make, depth_under_kw, depth_in1, depth_deeper, depth_caller, units_in1, units_deeper, Around.mark_units, units_caller]); (try dsimp only [ktrTop]); omega)); (case zqG => assumption); (case zqN => assumption); (case zqp1 => assumption); (case zqp2 => assumption); (case zqo1 => assumption); (case zqo2 => assumption); (case zqhs => assumption); (case zqhw => assumption); (case zqhw4 => assumption); (case zqh14 => assumption); (case zqhe => assumption); intro _ _ _ _ _ _ _ _ _ _ _ _ _ _ _ _)) | ((with_reducible show wpAny _ _ (exec (Stmt.For (PySem.Expr.Name _ _) _ _ _ _) _) _ _ _); k_dflt (refine Mine.For_led (by assumption) rfl rfl ?_)) | ((with_reducible show wpAny _ _ (subscriptTail _ _ (Value.ref _) (Value.int _ _)) _ _ _); k_dflt (refine' Mine.menu3 ?zqN ?zqhm ?zqh0 ?zqh3 ?_ ?zqhs; (case zqN => k_asm); (case zqhm => k_mem); (case zqh0 => l_fact); (case zqh3 => l_fact); (case zqhs => intro _; with_unfolding_all rfl)); intro _ _ _)) | (have ns9 : Mine.NoStop := trivial; walk1; (all_goals (try clear ns9))))) | walk1 | (dsimp only; walk1) | (leave1; walk_say "STEP leave1"; try dsimp only) | fail "no step")))
            all_goals first | exact Known.mk e0.symm | (exfalso; omega)
          · have e0 : brk rows bound (i + 1) i2 = false := by rw [hbrk]; simp [hA, hB]
            have hA' : ((i + 1 : Nat) : Int) < (rows : Int) := by omega
            have hB' : ¬ (bound : Int) < (i2 : Int) + (le : Int) := by omega
            ((repeat' (first | (k_unfold; (try dsimp only)) | (k_end; wrow_close) | ((with_reducible refine Mine.Stop.un ?_); (first | with_reducible (first | ((with_reducible refine Mine.pow_two (by omega) ?_)) | ((with_reducible rename PartMark => pm9); (with_reducible refine Mine.add_nat ?_)) | ((with_reducible show wpAny _ _ (binaryOp Operator.Add (Value.ref _) (Value.ref _)) _ _ _); (with_reducible rename Mark => mk9); k_dflt (refine' Mine.add_news ?zqF ?zqN ?zqm1 ?zqm2 ?zqhz ?_; (case zqF => k_asm); (case zqN => k_asm); (case zqm1 => k_mem); (case zqm2 => k_mem); (case zqhz => (simp only [List.length_append, List.length_replicate, List.length_map, List.length_cons, List.length_nil]; omega)); k_whole); intro _ _ _ _ l1; (try k_lt l1); (try (revert l1; intro _))) | ((with_reducible show wpAny _ _ (binaryOp Operator.Mult (Value.ref _) (Value.int (Nat.cast _) _)) _ _ _); (with_reducible rename Mark => mk9); k_dflt (refine' Mine.mul_news ?zqF ?zqN ?zqhm ?zqhk ?_; (case zqF => k_asm); (case zqN => k_asm); (case zqhm => k_mem); (case zqhk => omega); k_whole); intro _ _ _ _ l1; (try k_lt l1); (try (revert l1; intro _))) | ((with_reducible show wpAny _ _ (exec (Stmt.Assign _ (PySem.Expr.ListComp _ [⟨PySem.Expr.Tuple _ _ _, _, _, _⟩] _ _) _) _) _ _ _); k_dflt (refine Mine.Assign_zip (F₀ := by k_asm) (by rfl) (by with_unfolding_all rfl) (by with_unfolding_all rfl) (by decide) (by rfl) (by decide) (by rfl) (by rfl) (by decide) (by rfl) (by rfl) ?_)) | ((with_reducible show wpAny _ _ (exec (Stmt.For (PySem.Expr.Tuple _ _ _) _ _ _ _) _) _ _ _); k_dflt (refine Mine.For_pairs (by assumption) rfl rfl rfl ?_)) | ((with_reducible refine Mine.pow_nat (by omega) (by omega) ?_)) | ((with_reducible refine Mine.sub_nat (by omega) ?_)) | ((with_reducible show wpAny _ _ (call (Value.ref 247) _) _ _ _); k_dflt (refine' Mine.dots_spec ?zqB ?zqF ?zqX ?zqT ?zqhk ?zqhdp ?zqhu ?zqN ?zqhsp ?zqhyl ?zqhks ?_; (case zqB => k_asm); (case zqF => k_asm); (case zqX => k_asm); (case zqT => k_asm); (case zqhk => first | assumption | exact rfl); (case zqhdp => ((try simp only [depth_under_make, depth_under_kw, depth_in1, depth_deeper, depth_caller, units_in1, units_deeper, Around.mark_units, units_caller]); (try dsimp only [ktrTop]); omega)); (case zqhu => ((try simp only [depth_under_make, depth_under_kw, depth_in1, depth_deeper, depth_caller, units_in1, units_deeper, Around.mark_units, units_caller]); (try dsimp only [ktrTop]); omega)); (case zqN => assumption); (case zqhsp => assumption); (case zqhyl => assumption); (case zqhks => assumption); intro _ _ _ _ _)) | ((with_reducible show wpAny _ _ (call (Value.ref 240) _) _ _ _); k_dflt (refine' Mine.sent2_spec ?zqB ?zqF ?zqX ?zqT ?zqhk ?zqhdp ?zqhu ?zqG ?zqN ?zqp1 ?zqp2 ?zqo1 ?zqo2 ?zqhs ?zqhw ?zqhw4 ?zqh14 ?zqhe ?_; (case zqB => k_asm); (case zqF => k_asm); (case zqX => k_asm); (case zqT => k_asm); (case zqhk => first | assumption | exact rfl); (case zqhdp => ((try simp only [depth_under_make, depth_under_kw, depth_in1, depth_deeper, depth_caller, units_in1, units_deeper, Around.mark_units, units_caller]); (try dsimp only [ktrTop]); omega)); (case zqhu => ((try simp only [depth_under_make, depth_under_kw, depth_in1, depth_deeper, depth_caller, units_in1, units_deeper, Around.mark_units, units_caller]); (try dsimp only [ktrTop]); omega)); (case zqG => assumption); (case zqN => assumption); (case zqp1 => assumption); (case zqp2 => assumption); (case zqo1 => assumption); (case zqo2 => assumption); (case zqhs => assumption); (case zqhw => assumption); (case zqhw4 => assumption); (case zqh14 => assumption); (case zqhe => assumption); intro _ _ _ _ _ _ _ _ _ _ _ _ _ _ _ _)) | ((with_reducible show wpAny _ _ (exec (Stmt.For (PySem.Expr.Name _ _) _ _ _ _) _) _ _ _); k_dflt (refine Mine.For_led (by assumption) rfl rfl ?_)) | ((with_reducible show wpAny _ _ (subscriptTail _ _ (Value.ref _) (Value.int _ _)) _ _ _); k_dflt (refine' Mine.menu3 ?zqN ?zqhm ?zqh0 ?zqh3 ?_ ?zqhs; (case zqN => k_asm); (case zqhm => k_mem); (case zqh0 => l_fact); (case zqh3 => l_fact); (case zqhs => intro _; with_unfolding_all rfl)); intro _ _ _)) | (have ns9 : Mine.NoStop := trivial; walk1; (all_goals (try clear ns9))))) | walk1 | (dsimp only; walk1) | (leave1; walk_say "STEP leave1"; try dsimp only) | fail "no step")))
            all_goals first | exact Known.mk e0.symm | (exfalso; omega)
        · have e0 : brk rows bound (i + 1) i2 = false := by rw [hbrk]; simp [hA]
          have hA' : ¬ ((i + 1 : Nat) : Int) < (rows : Int) := by omega
          ((repeat' (first | (k_unfold; (try dsimp only)) | (k_end; wrow_close) | ((with_reducible refine Mine.Stop.un ?_); (first | with_reducible (first | ((with_reducible refine Mine.pow_two (by omega) ?_)) | ((with_reducible rename PartMark => pm9); (with_reducible refine Mine.add_nat ?_)) | ((with_reducible show wpAny _ _ (binaryOp Operator.Add (Value.ref _) (Value.ref _)) _ _ _); (with_reducible rename Mark => mk9); k_dflt (refine' Mine.add_news ?zqF ?zqN ?zqm1 ?zqm2 ?zqhz ?_; (case zqF => k_asm); (case zqN => k_asm); (case zqm1 => k_mem); (case zqm2 => k_mem); (case zqhz => (simp only [List.length_append, List.length_replicate, List.length_map, List.length_cons, List.length_nil]; omega)); k_whole); intro _ _ _ _ l1; (try k_lt l1); (try (revert l1; intro _))) | ((with_reducible show wpAny _ _ (binaryOp Operator.Mult (Value.ref _) (Value.int (Nat.cast _) _)) _ _ _); (with_reducible rename Mark => mk9); k_dflt (refine' Mine.mul_news ?zqF ?zqN ?zqhm ?zqhk ?_; (case zqF => k_asm); (case zqN => k_asm); (case zqhm => k_mem); (case zqhk => omega); k_whole); intro _ _ _ _ l1; (try k_lt l1); (try (revert l1; intro _))) | ((with_reducible show wpAny _ _ (exec (Stmt.Assign _ (PySem.Expr.ListComp _ [⟨PySem.Expr.Tuple _ _ _, _, _, _⟩] _ _) _) _) _ _ _); k_dflt (refine Mine.Assign_zip (F₀ := by k_asm) (by rfl) (by with_unfolding_all rfl) (by with_unfolding_all rfl) (by decide) (by rfl) (by decide) (by rfl) (by rfl) (by decide) (by rfl) (by rfl) ?_)) | ((with_reducible show wpAny _ _ (exec (Stmt.For (PySem.Expr.Tuple _ _ _) _ _ _ _) _) _ _ _); k_dflt (refine Mine.For_pairs (by assumption) rfl rfl rfl ?_)) | ((with_reducible refine Mine.pow_nat (by omega) (by omega) ?_)) | ((with_reducible refine Mine.sub_nat (by omega) ?_)) | ((with_reducible show wpAny _ _ (call (Value.ref 247) _) _ _ _); k_dflt (refine' Mine.dots_spec ?zqB ?zqF ?zqX ?zqT ?zqhk ?zqhdp ?zqhu ?zqN ?zqhsp ?zqhyl ?zqhks ?_; (case zqB => k_asm); (case zqF => k_asm); (case zqX => k_asm); (case zqT => k_asm); (case zqhk => first | assumption | exact rfl); (case zqhdp => ((try simp only [depth_under_make, depth_under_kw, depth_in1, depth_deeper, depth_caller, units_in1, units_deeper, Around.mark_units, units_caller]); (try dsimp only [ktrTop]); omega)); (case zqhu => ((try simp only [depth_under_make, depth_under_kw, depth_in1, depth_deeper, depth_caller, units_in1, units_deeper, Around.mark_units, units_caller]); (try dsimp only [ktrTop]); omega)); (case zqN => assumption); (case zqhsp => assumption); (case zqhyl => assumption); (case zqhks => assumption); intro _ _ _ _ _)) | ((with_reducible show wpAny _ _ (call (Value.ref 240) _) _ _ _); k_dflt (refine' Mine.sent2_spec ?zqB ?zqF ?zqX ?zqT ?zqhk ?zqhdp ?zqhu ?zqG ?zqN ?zqp1 ?zqp2 ?zqo1 ?zqo2 ?zqhs ?zqhw ?zqhw4 ?zqh14 ?zqhe ?_; (case zqB => k_asm); (case zqF => k_asm); (case zqX => k_asm); (case zqT => k_asm); (case zqhk => first | assumption | exact rfl); (case zqhdp => ((try simp only [depth_under_make, depth_under_kw, depth_in1, depth_deeper, depth_caller, units_in1, units_deeper, Around.mark_units, units_caller]); (try dsimp only [ktrTop]); omega)); (case zqhu => ((try simp only [depth_under_make, depth_under_kw, depth_in1, depth_deeper, depth_caller, units_in1, units_deeper, Around.mark_units, units_caller]); (try dsimp only [ktrTop]); omega)); (case zqG => assumption); (case zqN => assumption); (case zqp1 => assumption); (case zqp2 => assumption); (case zqo1 => assumption); (case zqo2 => assumption); (case zqhs => assumption); (case zqhw => assumption); (case zqhw4 => assumption); (case zqh14 => assumption); (case zqhe => assumption); intro _ _ _ _ _ _ _ _ _ _ _ _ _ _ _ _)) | ((with_reducible show wpAny _ _ (exec (Stmt.For (PySem.Expr.Name _ _) _ _ _ _) _) _ _ _); k_dflt (refine Mine.For_led (by assumption) rfl rfl ?_)) | ((with_reducible show wpAny _ _ (subscriptTail _ _ (Value.ref _) (Value.int _ _)) _ _ _); k_dflt (refine' Mine.menu3 ?zqN ?zqhm ?zqh0 ?zqh3 ?_ ?zqhs; (case zqN => k_asm); (case zqhm => k_mem); (case zqh0 => l_fact); (case zqh3 => l_fact); (case zqhs => intro _; with_unfolding_all rfl)); intro _ _ _)) | (have ns9 : Mine.NoStop := trivial; walk1; (all_goals (try clear ns9))))) | walk1 | (dsimp only; walk1) | (leave1; walk_say "STEP leave1"; try dsimp only) | fail "no step")))
          all_goals first | exact Known.mk e0.symm | (exfalso; omega)
      · intro tk5
        by_cases hbr : brk rows bound (i + 1) i2 = true
        · rw [if_pos hbr]
          ((repeat' (first | (k_unfold; (try dsimp only)) | (k_end; wrow_close) | ((with_reducible refine Mine.Stop.un ?_); (first | with_reducible (first | ((with_reducible refine Mine.pow_two (by omega) ?_)) | ((with_reducible rename PartMark => pm9); (with_reducible refine Mine.add_nat ?_)) | ((with_reducible show wpAny _ _ (binaryOp Operator.Add (Value.ref _) (Value.ref _)) _ _ _); (with_reducible rename Mark => mk9); k_dflt (refine' Mine.add_news ?zqF ?zqN ?zqm1 ?zqm2 ?zqhz ?_; (case zqF => k_asm); (case zqN => k_asm); (case zqm1 => k_mem); (case zqm2 => k_mem); (case zqhz => (simp only [List.length_append, List.length_replicate, List.length_map, List.length_cons, List.length_nil]; omega)); k_whole); intro _ _ _ _ l1; (try k_lt l1); (try (revert l1; intro _))) | ((with_reducible show wpAny _ _ (binaryOp Operator.Mult (Value.ref _) (Value.int (Nat.cast _) _)) _ _ _); (with_reducible rename Mark => mk9); k_dflt (refine' Mine.mul_news ?zqF ?zqN ?zqhm ?zqhk ?_; (case zqF => k_asm); (case zqN => k_asm); (case zqhm => k_mem); (case zqhk => omega); k_whole); intro _ _ _ _ l1; (try k_lt l1); (try (revert l1; intro _))) | ((with_reducible show wpAny _ _ (exec (Stmt.Assign _ (PySem.Expr.ListComp _ [⟨PySem.Expr.Tuple _ _ _, _, _, _⟩] _ _) _) _) _ _ _); k_dflt (refine Mine.Assign_zip (F₀ := by k_asm) (by rfl) (by with_unfolding_all rfl) (by with_unfolding_all rfl) (by decide) (by rfl) (by decide) (by rfl) (by rfl) (by decide) (by rfl) (by rfl) ?_)) | ((with_reducible show wpAny _ _ (exec (Stmt.For (PySem.Expr.Tuple _ _ _) _ _ _ _) _) _ _ _); k_dflt (refine Mine.For_pairs (by assumption) rfl rfl rfl ?_)) | ((with_reducible refine Mine.pow_nat (by omega) (by omega) ?_)) | ((with_reducible refine Mine.sub_nat (by omega) ?_)) | ((with_reducible show wpAny _ _ (call (Value.ref 247) _) _ _ _); k_dflt (refine' Mine.dots_spec ?zqB ?zqF ?zqX ?zqT ?zqhk ?zqhdp ?zqhu ?zqN ?zqhsp ?zqhyl ?zqhks ?_; (case zqB => k_asm); (case zqF => k_asm); (case zqX => k_asm); (case zqT => k_asm); (case zqhk => first | assumption | exact rfl); (case zqhdp => ((try simp only [depth_under_make, depth_under_kw, depth_in1, depth_deeper, depth_caller, units_in1, units_deeper, Around.mark_units, units_caller]); (try dsimp only [ktrTop]); omega)); (case zqhu => ((try simp only [depth_under_make, depth_under_kw, depth_in1, depth_deeper, depth_caller, units_in1, units_deeper, Around.mark_units, units_caller]); (try dsimp only [ktrTop]); omega)); (case zqN => assumption); (case zqhsp => assumption); (case zqhyl => assumption); (case zqhks => assumption); intro _ _ _ _ _)) | ((with_reducible show wpAny _ _ (call (Value.ref 240) _) _ _ _); k_dflt (refine' Mine.sent2_spec ?zqB ?zqF ?zqX ?zqT ?zqhk ?zqhdp ?zqhu ?zqG ?zqN ?zqp1 ?zqp2 ?zqo1 ?zqo2 ?zqhs ?zqhw ?zqhw4 ?zqh14 ?zqhe ?_; (case zqB => k_asm); (case zqF => k_asm); (case zqX => k_asm); (case zqT => k_asm); (case zqhk => first | assumption | exact rfl); (case zqhdp => ((try simp only [depth_under_make, depth_under_kw, depth_in1, depth_deeper, depth_caller, units_in1, units_deeper, Around.mark_units, units_caller]); (try dsimp only [ktrTop]); omega)); (case zqhu => ((try simp only [depth_under_make, depth_under_kw, depth_in1, depth_deeper, depth_caller, units_in1, units_deeper, Around.mark_units, units_caller]); (try dsimp only [ktrTop]); omega)); (case zqG => assumption); (case zqN => assumption); (case zqp1 => assumption); (case zqp2 => assumption); (case zqo1 => assumption); (case zqo2 => assumption); (case zqhs => assumption); (case zqhw => assumption); (case zqhw4 => assumption); (case zqh14 => assumption); (case zqhe => assumption); intro _ _ _ _ _ _ _ _ _ _ _ _ _ _ _ _)) | ((with_reducible show wpAny _ _ (exec (Stmt.For (PySem.Expr.Name _ _) _ _ _ _) _) _ _ _); k_dflt (refine Mine.For_led (by assumption) rfl rfl ?_)) | ((with_reducible show wpAny _ _ (subscriptTail _ _ (Value.ref _) (Value.int _ _)) _ _ _); k_dflt (refine' Mine.menu3 ?zqN ?zqhm ?zqh0 ?zqh3 ?_ ?zqhs; (case zqN => k_asm); (case zqhm => k_mem); (case zqh0 => l_fact); (case zqh3 => l_fact); (case zqhs => intro _; with_unfolding_all rfl)); intro _ _ _)) | (have ns9 : Mine.NoStop := trivial; walk1; (all_goals (try clear ns9))))) | walk1 | (dsimp only; walk1) | (leave1; walk_say "STEP leave1"; try dsimp only) | fail "no step")))
          refine PostL.brk ?_
          ((repeat' (first | (k_unfold; (try dsimp only)) | (k_end; wrow_close) | ((with_reducible refine Mine.Stop.un ?_); (first | with_reducible (first | ((with_reducible refine Mine.pow_two (by omega) ?_)) | ((with_reducible rename PartMark => pm9); (with_reducible refine Mine.add_nat ?_)) | ((with_reducible show wpAny _ _ (binaryOp Operator.Add (Value.ref _) (Value.ref _)) _ _ _); (with_reducible rename Mark => mk9); k_dflt (refine' Mine.add_news ?zqF ?zqN ?zqm1 ?zqm2 ?zqhz ?_; (case zqF => k_asm); (case zqN => k_asm); (case zqm1 => k_mem); (case zqm2 => k_mem); (case zqhz => (simp only [List.length_append, List.length_replicate, List.length_map, List.length_cons, List.length_nil]; omega)); k_whole); intro _ _ _ _ l1; (try k_lt l1); (try (revert l1; intro _))) | ((with_reducible show wpAny _ _ (binaryOp Operator.Mult (Value.ref _) (Value.int (Nat.cast _) _)) _ _ _); (with_reducible rename Mark => mk9); k_dflt (refine' Mine.mul_news ?zqF ?zqN ?zqhm ?zqhk ?_; (case zqF => k_asm); (case zqN => k_asm); (case zqhm => k_mem); (case zqhk => omega); k_whole); intro _ _ _ _ l1; (try k_lt l1); (try (revert l1; intro _))) | ((with_reducible show wpAny _ _ (exec (Stmt.Assign _ (PySem.Expr.ListComp _ [⟨PySem.Expr.Tuple _ _ _, _, _, _⟩] _ _) _) _) _ _ _); k_dflt (refine Mine.Assign_zip (F₀ := by k_asm) (by rfl) (by with_unfolding_all rfl) (by with_unfolding_all rfl) (by decide) (by rfl) (by decide) (by rfl) (by rfl) (by decide) (by rfl) (by rfl) ?_)) | ((with_reducible show wpAny _ _ (exec (Stmt.For (PySem.Expr.Tuple _ _ _) _ _ _ _) _) _ _ _); k_dflt (refine Mine.For_pairs (by assumption) rfl rfl rfl ?_)) | ((with_reducible refine Mine.pow_nat (by omega) (by omega) ?_)) | ((with_reducible refine Mine.sub_nat (by omega) ?_)) | ((with_reducible show wpAny _ _ (call (Value.ref 247) _) _ _ _); k_dflt (refine' Mine.dots_spec ?zqB ?zqF ?zqX ?zqT ?zqhk ?zqhdp ?zqhu ?zqN ?zqhsp ?zqhyl ?zqhks ?_; (case zqB => k_asm); (case zqF => k_asm); (case zqX => k_asm); (case zqT => k_asm); (case zqhk => first | assumption | exact rfl); (case zqhdp => ((try simp only [depth_under_make, depth_under_kw, depth_in1, depth_deeper, depth_caller, units_in1, units_deeper, Around.mark_units, units_caller]); (try dsimp only [ktrTop]); omega)); (case zqhu => ((try simp only [depth_under_make, depth_under_kw, depth_in1, depth_deeper, depth_caller, units_in1, units_deeper, Around.mark_units, units_caller]); (try dsimp only [ktrTop]); omega)); (case zqN => assumption); (case zqhsp => assumption); (case zqhyl => assumption); (case zqhks => assumption); intro _ _ _ _ _)) | ((with_reducible show wpAny _ _ (call (Value.ref 240) _) _ _ _); k_dflt (refine' Mine.sent2_spec ?zqB ?zqF ?zqX ?zqT ?zqhk ?zqhdp ?zqhu ?zqG ?zqN ?zqp1 ?zqp2 ?zqo1 ?zqo2 ?zqhs ?zqhw ?zqhw4 ?zqh14 ?zqhe ?_; (case zqB => k_asm); (case zqF => k_asm); (case zqX => k_asm); (case zqT => k_asm); (case zqhk => first | assumption | exact rfl); (case zqhdp => ((try simp only [depth_under_make, depth_under_kw, depth_in1, depth_deeper, depth_caller, units_in1, units_deeper, Around.mark_units, units_caller]); (try dsimp only [ktrTop]); omega)); (case zqhu => ((try simp only [depth_under_make, depth_under_kw, depth_in1, depth_deeper, depth_caller, units_in1, units_deeper, Around.mark_units, units_caller]); (try dsimp only [ktrTop]); omega)); (case zqG => assumption); (case zqN => assumption); (case zqp1 => assumption); (case zqp2 => assumption); (case zqo1 => assumption); (case zqo2 => assumption); (case zqhs => assumption); (case zqhw => assumption); (case zqhw4 => assumption); (case zqh14 => assumption); (case zqhe => assumption); intro _ _ _ _ _ _ _ _ _ _ _ _ _ _ _ _)) | ((with_reducible show wpAny _ _ (exec (Stmt.For (PySem.Expr.Name _ _) _ _ _ _) _) _ _ _); k_dflt (refine Mine.For_led (by assumption) rfl rfl ?_)) | ((with_reducible show wpAny _ _ (subscriptTail _ _ (Value.ref _) (Value.int _ _)) _ _ _); k_dflt (refine' Mine.menu3 ?zqN ?zqhm ?zqh0 ?zqh3 ?_ ?zqhs; (case zqN => k_asm); (case zqhm => k_mem); (case zqh0 => l_fact); (case zqh3 => l_fact); (case zqhs => intro _; with_unfolding_all rfl)); intro _ _ _)) | (have ns9 : Mine.NoStop := trivial; walk1; (all_goals (try clear ns9))))) | walk1 | (dsimp only; walk1) | (leave1; walk_say "STEP leave1"; try dsimp only) | fail "no step")))
          refine PostL.nxt ⟨_, (174, tabObj ps1b) :: (181, tabObj ps2b) :: (LL + 1, o1) :: (LL + 1 + 1, o2) :: (LL + 1 + 1 + 1, o3) :: tail2, by assumption, by (refine Mine.news_sub (by assumption) ?_; repeat (first | exact Mine.subs_refl | exact Mine.subs_nil | (refine Mine.subs_cons ?_ ?_; (focus k_mem)) | refine Mine.subs_skip ?_)), sep_cons lI.1.symm (sep_cons lI.2.1.symm (sep_cons lI.2.2.1.symm (sep_cons lI.2.2.2.1.symm (sep_cons lI.2.2.2.2.symm hoff2)))), (fun p hp => by cases hp), ?_⟩
          exact ⟨_, _, _, _, _, _, _, _, _, _, _, Lg, k2, es2, tail2, lmap_of rfl rfl rfl (fun y h1 h2 h3 h4 h5 h6 h7 h8 h9 h10 h11 h12 h13 h14 h15 => by (repeat with_reducible refine (if_neg (by assumption)).trans ?_); exact lmap_else h1 h2 h3 h4 h5 h6 h7 h8 h9 h10 h11 h12 h13 h14 h15), ⟨ps1b, ps2b, o1, o2, o3, t1, t2, v3, rfl, hps1, hps2, hd1, hd2, hd3, fun p hp => low2 p (.tail _ hp), G3, by rw [os3, os2]⟩, hLg, hes2, by rw [htab2, table_succ hnb (by omega) (.inr hbr)]⟩
        · rw [if_neg hbr]
          have hbf : brk rows bound (i + 1) i2 = false := by simpa using hbr
          have hc3 : ∀ p ∈ tail2, p.1 ≠ LL + 1 + 1 + 1 := fun p hp => (low2 p (.tail _ hp)).2.2.2.2
          have hI3 : I2 ≠ LL + 1 + 1 + 1 := lI2.2.2.2.2
          have hI4 : I ≠ LL + 1 + 1 + 1 := lI.2.2.2.2
          clear hbr hbrk
          ((repeat' (first | (k_unfold; (try dsimp only)) | (k_end; wrow_close) | ((with_reducible refine Mine.Stop.un ?_); (first | with_reducible (first | ((with_reducible refine Mine.pow_two (by omega) ?_)) | ((with_reducible rename PartMark => pm9); (with_reducible refine Mine.add_nat ?_)) | ((with_reducible show wpAny _ _ (binaryOp Operator.Add (Value.ref _) (Value.ref _)) _ _ _); (with_reducible rename Mark => mk9); k_dflt (refine' Mine.add_news ?zqF ?zqN ?zqm1 ?zqm2 ?zqhz ?_; (case zqF => k_asm); (case zqN => k_asm); (case zqm1 => k_mem); (case zqm2 => k_mem); (case zqhz => (simp only [List.length_append, List.length_replicate, List.length_map, List.length_cons, List.length_nil]; omega)); k_whole); intro _ _ _ _ l1; (try k_lt l1); (try (revert l1; intro _))) | ((with_reducible show wpAny _ _ (binaryOp Operator.Mult (Value.ref _) (Value.int (Nat.cast _) _)) _ _ _); (with_reducible rename Mark => mk9); k_dflt (refine' Mine.mul_news ?zqF ?zqN ?zqhm ?zqhk ?_; (case zqF => k_asm); (case zqN => k_asm); (case zqhm => k_mem); (case zqhk => omega); k_whole); intro _ _ _ _ l1; (try k_lt l1); (try (revert l1; intro _))) | ((with_reducible show wpAny _ _ (exec (Stmt.Assign _ (PySem.Expr.ListComp _ [⟨PySem.Expr.Tuple _ _ _, _, _, _⟩] _ _) _) _) _ _ _); k_dflt (refine Mine.Assign_zip (F₀ := by k_asm) (by rfl) (by with_unfolding_all rfl) (by with_unfolding_all rfl) (by decide) (by rfl) (by decide) (by rfl) (by rfl) (by decide) (by rfl) (by rfl) ?_)) | ((with_reducible show wpAny _ _ (exec (Stmt.For (PySem.Expr.Tuple _ _ _) _ _ _ _) _) _ _ _); k_dflt (refine Mine.For_pairs (by assumption) rfl rfl rfl ?_)) | ((with_reducible refine Mine.pow_nat (by omega) (by omega) ?_)) | ((with_reducible refine Mine.sub_nat (by omega) ?_)) | ((with_reducible show wpAny _ _ (call (Value.ref 247) _) _ _ _); k_dflt (refine' Mine.dots_spec ?zqB ?zqF ?zqX ?zqT ?zqhk ?zqhdp ?zqhu ?zqN ?zqhsp ?zqhyl ?zqhks ?_; (case zqB => k_asm); (case zqF => k_asm); (case zqX => k_asm); (case zqT => k_asm); (case zqhk => first | assumption | exact rfl); (case zqhdp => ((try simp only [depth_under_make, depth_under_kw, depth_in1, depth_deeper, depth_caller, units_in1, units_deeper, Around.mark_units, units_caller]); (try dsimp only [ktrTop]); omega)); (case zqhu => ((try simp only [depth_under_make, depth_under_kw, depth_in1, depth_deeper, depth_caller, units_in1, units_deeper, Around.mark_units, units_caller]); (try dsimp only [ktrTop]); omega)); (case zqN => assumption); (case zqhsp => assumption); (case zqhyl => assumption); (case zqhks => assumption); intro _ _ _ _ _)) | ((with_reducible show wpAny _ _ (call (Value.ref 240) _) _ _ _); k_dflt (refine' Mine.sent2_spec ?zqB ?zqF ?zqX ?zqT ?zqhk ?zqhdp ?zqhu ?zqG ?zqN ?zqp1 ?zqp2 ?zqo1 ?zqo2 ?zqhs ?zqhw ?zqhw4 ?zqh14 ?zqhe ?_; (case zqB => k_asm); (case zqF => k_asm); (case zqX => k_asm); (case zqT => k_asm); (case zqhk => first | assumption | exact rfl); (case zqhdp => ((try simp only [depth_under_make, depth_under_kw, depth_in1, depth_deeper, depth_caller, units_in1, units_deeper, Around.mark_units, units_caller]); (try dsimp only [ktrTop]); omega)); (case zqhu => ((try simp only [depth_under_make, depth_under_kw, depth_in1, depth_deeper, depth_caller, units_in1, units_deeper, Around.mark_units, units_caller]); (try dsimp only [ktrTop]); omega)); (case zqG => assumption); (case zqN => assumption); (case zqp1 => assumption); (case zqp2 => assumption); (case zqo1 => assumption); (case zqo2 => assumption); (case zqhs => assumption); (case zqhw => assumption); (case zqhw4 => assumption); (case zqh14 => assumption); (case zqhe => assumption); intro _ _ _ _ _ _ _ _ _ _ _ _ _ _ _ _)) | ((with_reducible show wpAny _ _ (exec (Stmt.For (PySem.Expr.Name _ _) _ _ _ _) _) _ _ _); k_dflt (refine Mine.For_led (by assumption) rfl rfl ?_)) | ((with_reducible show wpAny _ _ (subscriptTail _ _ (Value.ref _) (Value.int _ _)) _ _ _); k_dflt (refine' Mine.menu3 ?zqN ?zqhm ?zqh0 ?zqh3 ?_ ?zqhs; (case zqN => k_asm); (case zqhm => k_mem); (case zqh0 => l_fact); (case zqh3 => l_fact); (case zqhs => intro _; with_unfolding_all rfl)); intro _ _ _)) | (have ns9 : Mine.NoStop := trivial; walk1; (all_goals (try clear ns9))))) | walk1 | (dsimp only; walk1) | (leave1; walk_say "STEP leave1"; try dsimp only) | fail "no step")))
          rename_i hq3 F7 N7
          refine Halt.un ?_
          refine eval_meet F7 N7 (x := if (le - i2) % 2 = 0 then 1 else v) ?_ ?_
          · refine IfExp_ ?_
            ((repeat' (first | (k_unfold; (try dsimp only)) | (k_end; wrow_close) | ((with_reducible refine Mine.Stop.un ?_); (first | with_reducible (first | ((with_reducible refine Mine.pow_two (by omega) ?_)) | ((with_reducible rename PartMark => pm9); (with_reducible refine Mine.add_nat ?_)) | ((with_reducible show wpAny _ _ (binaryOp Operator.Add (Value.ref _) (Value.ref _)) _ _ _); (with_reducible rename Mark => mk9); k_dflt (refine' Mine.add_news ?zqF ?zqN ?zqm1 ?zqm2 ?zqhz ?_; (case zqF => k_asm); (case zqN => k_asm); (case zqm1 => k_mem); (case zqm2 => k_mem); (case zqhz => (simp only [List.length_append, List.length_replicate, List.length_map, List.length_cons, List.length_nil]; omega)); k_whole); intro _ _ _ _ l1; (try k_lt l1); (try (revert l1; intro _))) | ((with_reducible show wpAny _ _ (binaryOp Operator.Mult (Value.ref _) (Value.int (Nat.cast _) _)) _ _ _); (with_reducible rename Mark => mk9); k_dflt (refine' Mine.mul_news ?zqF ?zqN ?zqhm ?zqhk ?_; (case zqF => k_asm); (case zqN => k_asm); (case zqhm => k_mem); (case zqhk => omega); k_whole); intro _ _ _ _ l1; (try k_lt l1); (try (revert l1; intro _))) | ((with_reducible show wpAny _ _ (exec (Stmt.Assign _ (PySem.Expr.ListComp _ [⟨PySem.Expr.Tuple _ _ _, _, _, _⟩] _ _) _) _) _ _ _); k_dflt (refine Mine.Assign_zip (F₀ := by k_asm) (by rfl) (by with_unfolding_all rfl) (by with_unfolding_all rfl) (by decide) (by rfl) (by decide) (by rfl) (by rfl) (by decide) (by rfl) (by rfl) ?_)) | ((with_reducible show wpAny _ _ (exec (Stmt.For (PySem.Expr.Tuple _ _ _) _ _ _ _) _) _ _ _); k_dflt (refine Mine.For_pairs (by assumption) rfl rfl rfl ?_)) | ((with_reducible refine Mine.pow_nat (by omega) (by omega) ?_)) | ((with_reducible refine Mine.sub_nat (by omega) ?_)) | ((with_reducible show wpAny _ _ (call (Value.ref 247) _) _ _ _); k_dflt (refine' Mine.dots_spec ?zqB ?zqF ?zqX ?zqT ?zqhk ?zqhdp ?zqhu ?zqN ?zqhsp ?zqhyl ?zqhks ?_; (case zqB => k_asm); (case zqF => k_asm); (case zqX => k_asm); (case zqT => k_asm); (case zqhk => first | assumption | exact rfl); (case zqhdp => ((try simp only [depth_under_make, depth_under_kw, depth_in1, depth_deeper, depth_caller, units_in1, units_deeper, Around.mark_units, units_caller]); (try dsimp only [ktrTop]); omega)); (case zqhu => ((try simp only [depth_under_make, depth_under_kw, depth_in1, depth_deeper, depth_caller, units_in1, units_deeper, Around.mark_units, units_caller]); (try dsimp only [ktrTop]); omega)); (case zqN => assumption); (case zqhsp => assumption); (case zqhyl => assumption); (case zqhks => assumption); intro _ _ _ _ _)) | ((with_reducible show wpAny _ _ (call (Value.ref 240) _) _ _ _); k_dflt (refine' Mine.sent2_spec ?zqB ?zqF ?zqX ?zqT ?zqhk ?zqhdp ?zqhu ?zqG ?zqN ?zqp1 ?zqp2 ?zqo1 ?zqo2 ?zqhs ?zqhw ?zqhw4 ?zqh14 ?zqhe ?_; (case zqB => k_asm); (case zqF => k_asm); (case zqX => k_asm); (case zqT => k_asm); (case zqhk => first | assumption | exact rfl); (case zqhdp => ((try simp only [depth_under_make, depth_under_kw, depth_in1, depth_deeper, depth_caller, units_in1, units_deeper, Around.mark_units, units_caller]); (try dsimp only [ktrTop]); omega)); (case zqhu => ((try simp only [depth_under_make, depth_under_kw, depth_in1, depth_deeper, depth_caller, units_in1, units_deeper, Around.mark_units, units_caller]); (try dsimp only [ktrTop]); omega)); (case zqG => assumption); (case zqN => assumption); (case zqp1 => assumption); (case zqp2 => assumption); (case zqo1 => assumption); (case zqo2 => assumption); (case zqhs => assumption); (case zqhw => assumption); (case zqhw4 => assumption); (case zqh14 => assumption); (case zqhe => assumption); intro _ _ _ _ _ _ _ _ _ _ _ _ _ _ _ _)) | ((with_reducible show wpAny _ _ (exec (Stmt.For (PySem.Expr.Name _ _) _ _ _ _) _) _ _ _); k_dflt (refine Mine.For_led (by assumption) rfl rfl ?_)) | ((with_reducible show wpAny _ _ (subscriptTail _ _ (Value.ref _) (Value.int _ _)) _ _ _); k_dflt (refine' Mine.menu3 ?zqN ?zqhm ?zqh0 ?zqh3 ?_ ?zqhs; (case zqN => k_asm); (case zqhm => k_mem); (case zqh0 => l_fact); (case zqh3 => l_fact); (case zqhs => intro _; with_unfolding_all rfl)); intro _ _ _)) | (have ns9 : Mine.NoStop := trivial; walk1; (all_goals (try clear ns9))))) | walk1 | (dsimp only; walk1) | (leave1; walk_say "STEP leave1"; try dsimp only) | fail "no step")))
            · rename_i hg
              rw [fmod_pos _ (by decide)] at hg
              exact Meet.mk (by rw [if_pos (by omega)]) (by assumption) (by assumption)
            · rename_i hg
              rw [fmod_pos _ (by decide)] at hg
              exact Meet.mk (by rw [if_neg (by omega)]) (by assumption) (by assumption)
          · intro t6 h6 tk6 F6 N6
            have hw64 : Builtin.Int.intBits (u ^ (le - i2)) ≤ 64 := worth_bits1 hub (by omega)
            have hv64 : Builtin.Int.intBits (u ^ (le - i2) * (if (le - i2) % 2 = 0 then 1 else v)) ≤ 64 := worth_bits hub hvb (by omega)
            ((repeat' (first | (k_unfold; (try dsimp only)) | (k_end; wrow_close) | ((with_reducible refine Mine.Stop.un ?_); (first | with_reducible (first | ((with_reducible refine Mine.pow_two (by omega) ?_)) | ((with_reducible rename PartMark => pm9); (with_reducible refine Mine.add_nat ?_)) | ((with_reducible show wpAny _ _ (binaryOp Operator.Add (Value.ref _) (Value.ref _)) _ _ _); (with_reducible rename Mark => mk9); k_dflt (refine' Mine.add_news ?zqF ?zqN ?zqm1 ?zqm2 ?zqhz ?_; (case zqF => k_asm); (case zqN => k_asm); (case zqm1 => k_mem); (case zqm2 => k_mem); (case zqhz => (simp only [List.length_append, List.length_replicate, List.length_map, List.length_cons, List.length_nil]; omega)); k_whole); intro _ _ _ _ l1; (try k_lt l1); (try (revert l1; intro _))) | ((with_reducible show wpAny _ _ (binaryOp Operator.Mult (Value.ref _) (Value.int (Nat.cast _) _)) _ _ _); (with_reducible rename Mark => mk9); k_dflt (refine' Mine.mul_news ?zqF ?zqN ?zqhm ?zqhk ?_; (case zqF => k_asm); (case zqN => k_asm); (case zqhm => k_mem); (case zqhk => omega); k_whole); intro _ _ _ _ l1; (try k_lt l1); (try (revert l1; intro _))) | ((with_reducible show wpAny _ _ (exec (Stmt.Assign _ (PySem.Expr.ListComp _ [⟨PySem.Expr.Tuple _ _ _, _, _, _⟩] _ _) _) _) _ _ _); k_dflt (refine Mine.Assign_zip (F₀ := by k_asm) (by rfl) (by with_unfolding_all rfl) (by with_unfolding_all rfl) (by decide) (by rfl) (by decide) (by rfl) (by rfl) (by decide) (by rfl) (by rfl) ?_)) | ((with_reducible show wpAny _ _ (exec (Stmt.For (PySem.Expr.Tuple _ _ _) _ _ _ _) _) _ _ _); k_dflt (refine Mine.For_pairs (by assumption) rfl rfl rfl ?_)) | ((with_reducible refine Mine.pow_nat (by omega) (by omega) ?_)) | ((with_reducible refine Mine.sub_nat (by omega) ?_)) | ((with_reducible show wpAny _ _ (call (Value.ref 247) _) _ _ _); k_dflt (refine' Mine.dots_spec ?zqB ?zqF ?zqX ?zqT ?zqhk ?zqhdp ?zqhu ?zqN ?zqhsp ?zqhyl ?zqhks ?_; (case zqB => k_asm); (case zqF => k_asm); (case zqX => k_asm); (case zqT => k_asm); (case zqhk => first | assumption | exact rfl); (case zqhdp => ((try simp only [depth_under_make, depth_under_kw, depth_in1, depth_deeper, depth_caller, units_in1, units_deeper, Around.mark_units, units_caller]); (try dsimp only [ktrTop]); omega)); (case zqhu => ((try simp only [depth_under_make, depth_under_kw, depth_in1, depth_deeper, depth_caller, units_in1, units_deeper, Around.mark_units, units_caller]); (try dsimp only [ktrTop]); omega)); (case zqN => assumption); (case zqhsp => assumption); (case zqhyl => assumption); (case zqhks => assumption); intro _ _ _ _ _)) | ((with_reducible show wpAny _ _ (call (Value.ref 240) _) _ _ _); k_dflt (refine' Mine.sent2_spec ?zqB ?zqF ?zqX ?zqT ?zqhk ?zqhdp ?zqhu ?zqG ?zqN ?zqp1 ?zqp2 ?zqo1 ?zqo2 ?zqhs ?zqhw ?zqhw4 ?zqh14 ?zqhe ?_; (case zqB => k_asm); (case zqF => k_asm); (case zqX => k_asm); (case zqT => k_asm); (case zqhk => first | assumption | exact rfl); (case zqhdp => ((try simp only [depth_under_make, depth_under_kw, depth_in1, depth_deeper, depth_caller, units_in1, units_deeper, Around.mark_units, units_caller]); (try dsimp only [ktrTop]); omega)); (case zqhu => ((try simp only [depth_under_make, depth_under_kw, depth_in1, depth_deeper, depth_caller, units_in1, units_deeper, Around.mark_units, units_caller]); (try dsimp only [ktrTop]); omega)); (case zqG => assumption); (case zqN => assumption); (case zqp1 => assumption); (case zqp2 => assumption); (case zqo1 => assumption); (case zqo2 => assumption); (case zqhs => assumption); (case zqhw => assumption); (case zqhw4 => assumption); (case zqh14 => assumption); (case zqhe => assumption); intro _ _ _ _ _ _ _ _ _ _ _ _ _ _ _ _)) | ((with_reducible show wpAny _ _ (exec (Stmt.For (PySem.Expr.Name _ _) _ _ _ _) _) _ _ _); k_dflt (refine Mine.For_led (by assumption) rfl rfl ?_)) | ((with_reducible show wpAny _ _ (subscriptTail _ _ (Value.ref _) (Value.int _ _)) _ _ _); k_dflt (refine' Mine.menu3 ?zqN ?zqhm ?zqh0 ?zqh3 ?_ ?zqhs; (case zqN => k_asm); (case zqhm => k_mem); (case zqh0 => l_fact); (case zqh3 => l_fact); (case zqhs => intro _; with_unfolding_all rfl)); intro _ _ _)) | (have ns9 : Mine.NoStop := trivial; walk1; (all_goals (try clear ns9))))) | walk1 | (dsimp only; walk1) | (leave1; walk_say "STEP leave1"; try dsimp only) | fail "no step")))
            rename_i _ o3w hdw lx _ _ S _ hS0 _ _ _ _ _ lS hq5 F5 N5
            rw [show ((bound : Int) + 1).toNat = bound + 1 by omega] at hS0 N5
            rw [flat_zero] at hS0
            obtain ⟨tw3, hdw3⟩ : ∃ t, o3w.data = .cell (some (.int (u ^ (le - i2) * (if (le - i2) % 2 = 0 then 1 else v)) t)) := ⟨_, hdw⟩
            obtain ⟨vs0, n0, hv0, N4⟩ : ∃ vs0 n0, IntsAre vs0 (List.replicate (bound + 1) 0) ∧ News gB LL hq5 ((S, listN vs0 n0) :: (174, tabObj ps1b) :: (181, tabObj ps2b) :: (LL + 1, o1) :: (LL + 1 + 1, o2) :: (LL + 1 + 1 + 1, o3w) :: (I2, io2) :: (I, io) :: tail2) := ⟨_, _, hS0, by (refine Mine.news_sub (by assumption) ?_; repeat (first | exact Mine.subs_refl | exact Mine.subs_nil | (refine Mine.subs_cons ?_ ?_; (focus k_mem)) | refine Mine.subs_skip ?_))⟩
            clear hdw hS0 N5
            refine with_map F5 (fun mB hmB F4 => ?_)
            have eB := lmap_of (m1 := m0) (m2 := mB) (rows := rows) (bound := bound) (ends := ends) (tr := tr) (tb := tb) (te := te) (by rw [hmB]; rfl) (by rw [hmB]; rfl) (by rw [hmB]; rfl) (fun y h1 h2 h3 h4 h5 h6 h7 h8 h9 h10 h11 h12 h13 h14 h15 => by rw [hmB]; (repeat with_reducible refine (if_neg (by assumption)).trans ?_); exact lmap_else h1 h2 h3 h4 h5 h6 h7 h8 h9 h10 h11 h12 h13 h14 h15)
            have ep : mB (Str.ofString "place") = some (.int ((i + 1 : Nat) : Int) t) := by rw [hmB]; rfl
            have el : mB (Str.ofString "longer") = some (.ref Lg) := by rw [hmB]; rfl
            have ez : mB (Str.ofString "size") = some (.int (i2 : Int) ts) := by rw [hmB]; rfl
            have eq : mB (Str.ofString "least") = some (.int (le : Int) tl) := by rw [hmB]; rfl
            have eu : mB (Str.ofString "sums") = some (.ref S) := by rw [hmB]; rfl
            have et : mB (Str.ofString "table") = some (.ref T) := by rw [hmB]; rfl
            rw [ep, el, ez, eq, eu, et] at eB
            clear hmB F5 ep el ez eq eu et
            generalize mB (Str.ofString "gain") = g5 at eB
            generalize mB (Str.ofString "wanted") = g7 at eB
            generalize mB (Str.ofString "old") = g8 at eB
            generalize mB (Str.ofString "found") = h1 at eB
            generalize mB (Str.ofString "asked") = h2 at eB
            generalize mB (Str.ofString "part") = h3 at eB
            obtain ⟨pr, hpr⟩ : ∃ pr : Nat → Value × Value, ∀ j e, es[j]? = some e → pr j = (.int (e.want : Nat) e.t, .ref e.la) := ⟨fun j => match es[j]? with | some e => (.int (e.want : Nat) e.t, .ref e.la) | none => (.none, .none), fun j e h => by simp [h]⟩
            have hT2 : (T, listN (refsOf es) k) ∈ tail2 := hsub _ hT
            have hes3 : ∀ e ∈ es, e.ok bound tail2 := fun e he => (hes e he).sub hsub
            refine ⟨T, k, refsOf es, (174, tabObj ps1b) :: (181, tabObj ps2b) :: (LL + 1, o1) :: (LL + 1 + 1, o2) :: (LL + 1 + 1 + 1, o3w) :: (I2, io2) :: (I, io) :: tail2,
              PairInv (fun x y z => lmap m0 rows bound ends tr tb te (some (.int ((i + 1 : Nat) : Int) t)) (some (.ref Lg)) (some (.int (i2 : Int) ts)) (some (.int (le : Int) tl)) g5 x y z (some (.ref T)) h1 h2 h3)
                ((174, tabObj ps1b) :: (181, tabObj ps2b) :: (LL + 1, o1) :: (LL + 1 + 1, o2) :: (LL + 1 + 1 + 1, o3w) :: (I2, io2) :: (I, io) :: tail2) s₁.os (sumsAt bound (i + 1) i2 u v (tabOf es)),
              mB, (S, listN vs0 n0) :: (174, tabObj ps1b) :: (181, tabObj ps2b) :: (LL + 1, o1) :: (LL + 1 + 1, o2) :: (LL + 1 + 1 + 1, o3w) :: (I2, io2) :: (I, io) :: tail2, pr, rfl, rfl, mt7 hT2, F4, N4, fun p hp => .tail _ hp, ?_, ?_, ?_, ?_, ?_⟩
            · intro h
              exact ⟨g7, g8, S, n0, vs0, eB, rfl, by rw [sumsAt_zero]; exact hv0, allLt_mem lS.2, G3, by rw [os3, os2]⟩
            · rintro j m9 n9 s9 h9 tk9 R
              exact R
            · intro j w9 hw9
              rw [List.getElem?_map] at hw9
              obtain ⟨e, he, rfl⟩ := Option.map_eq_some_iff.mp hw9
              refine ⟨e.at_, e.k, rfl, mt7 ?_⟩
              rw [hpr j e he]
              exact (hes3 e (List.mem_of_getElem? he)).tup
            · intro I3 j io3 m3 news3 s4 hj R3 off3 kk3 lt3 F N
              replace F : Fr gB LL _ _ := F
              replace N : News gB LL _ _ := N
              obtain ⟨b7', b8', S3, n3, vs3, rfl, rfl, hv3, hSb, G4, os4⟩ := R3
              obtain ⟨e, he⟩ : ∃ e, es[j]? = some e := ⟨_, List.getElem?_eq_getElem (by simpa using hj)⟩
              have hok := hes3 e (List.mem_of_getElem? he)
              rw [hpr j e he] at F
              try dsimp only at F
              replace N := pair_front N (.tail _ hok.lst)
              have hvl : vs3.length = bound + 1 := by rw [hv3.length]; exact sumsAt_len (fun q hq => by obtain ⟨e', he', rfl⟩ := List.mem_map.mp hq; exact (hes3 e' he').len) j (by simpa using Nat.le_of_lt hj)
              have hei := hok.isn
              have hel : e.vs.length = bound + 1 := by rw [hei.length]; exact hok.len
              have hsu := sumsAt_succ (bound := bound) (place := i + 1) (size := i2) (u := u) (v := v) (tab := tabOf es) (j := j) (e := (e.want, e.ns)) (by rw [List.getElem?_map, he]; rfl)
              rw [hle] at hsu
              show wpAny _ _ _ _ _ _
              k_fold
              ((repeat' (first | (k_unfold; (try dsimp only)) | (k_end; wrow_close) | ((with_reducible refine Mine.Stop.un ?_); (first | with_reducible (first | ((with_reducible refine Mine.pow_two (by omega) ?_)) | ((with_reducible rename PartMark => pm9); (with_reducible refine Mine.add_nat ?_)) | ((with_reducible show wpAny _ _ (binaryOp Operator.Add (Value.ref _) (Value.ref _)) _ _ _); (with_reducible rename Mark => mk9); k_dflt (refine' Mine.add_news ?zqF ?zqN ?zqm1 ?zqm2 ?zqhz ?_; (case zqF => k_asm); (case zqN => k_asm); (case zqm1 => k_mem); (case zqm2 => k_mem); (case zqhz => (simp only [List.length_append, List.length_replicate, List.length_map, List.length_cons, List.length_nil]; omega)); k_whole); intro _ _ _ _ l1; (try k_lt l1); (try (revert l1; intro _))) | ((with_reducible show wpAny _ _ (binaryOp Operator.Mult (Value.ref _) (Value.int (Nat.cast _) _)) _ _ _); (with_reducible rename Mark => mk9); k_dflt (refine' Mine.mul_news ?zqF ?zqN ?zqhm ?zqhk ?_; (case zqF => k_asm); (case zqN => k_asm); (case zqhm => k_mem); (case zqhk => omega); k_whole); intro _ _ _ _ l1; (try k_lt l1); (try (revert l1; intro _))) | ((with_reducible show wpAny _ _ (exec (Stmt.Assign _ (PySem.Expr.ListComp _ [⟨PySem.Expr.Tuple _ _ _, _, _, _⟩] _ _) _) _) _ _ _); k_dflt (refine Mine.Assign_zip (F₀ := by k_asm) (by rfl) (by with_unfolding_all rfl) (by with_unfolding_all rfl) (by decide) (by rfl) (by decide) (by rfl) (by rfl) (by decide) (by rfl) (by rfl) ?_)) | ((with_reducible show wpAny _ _ (exec (Stmt.For (PySem.Expr.Tuple _ _ _) _ _ _ _) _) _ _ _); k_dflt (refine Mine.For_pairs (by assumption) rfl rfl rfl ?_)) | ((with_reducible refine Mine.pow_nat (by omega) (by omega) ?_)) | ((with_reducible refine Mine.sub_nat (by omega) ?_)) | ((with_reducible show wpAny _ _ (call (Value.ref 247) _) _ _ _); k_dflt (refine' Mine.dots_spec ?zqB ?zqF ?zqX ?zqT ?zqhk ?zqhdp ?zqhu ?zqN ?zqhsp ?zqhyl ?zqhks ?_; (case zqB => k_asm); (case zqF => k_asm); (case zqX => k_asm); (case zqT => k_asm); (case zqhk => first | assumption | exact rfl); (case zqhdp => ((try simp only [depth_under_make, depth_under_kw, depth_in1, depth_deeper, depth_caller, units_in1, units_deeper, Around.mark_units, units_caller]); (try dsimp only [ktrTop]); omega)); (case zqhu => ((try simp only [depth_under_make, depth_under_kw, depth_in1, depth_deeper, depth_caller, units_in1, units_deeper, Around.mark_units, units_caller]); (try dsimp only [ktrTop]); omega)); (case zqN => assumption); (case zqhsp => assumption); (case zqhyl => assumption); (case zqhks => assumption); intro _ _ _ _ _)) | ((with_reducible show wpAny _ _ (call (Value.ref 240) _) _ _ _); k_dflt (refine' Mine.sent2_spec ?zqB ?zqF ?zqX ?zqT ?zqhk ?zqhdp ?zqhu ?zqG ?zqN ?zqp1 ?zqp2 ?zqo1 ?zqo2 ?zqhs ?zqhw ?zqhw4 ?zqh14 ?zqhe ?_; (case zqB => k_asm); (case zqF => k_asm); (case zqX => k_asm); (case zqT => k_asm); (case zqhk => first | assumption | exact rfl); (case zqhdp => ((try simp only [depth_under_make, depth_under_kw, depth_in1, depth_deeper, depth_caller, units_in1, units_deeper, Around.mark_units, units_caller]); (try dsimp only [ktrTop]); omega)); (case zqhu => ((try simp only [depth_under_make, depth_under_kw, depth_in1, depth_deeper, depth_caller, units_in1, units_deeper, Around.mark_units, units_caller]); (try dsimp only [ktrTop]); omega)); (case zqG => assumption); (case zqN => assumption); (case zqp1 => assumption); (case zqp2 => assumption); (case zqo1 => assumption); (case zqo2 => assumption); (case zqhs => assumption); (case zqhw => assumption); (case zqhw4 => assumption); (case zqh14 => assumption); (case zqhe => assumption); intro _ _ _ _ _ _ _ _ _ _ _ _ _ _ _ _)) | ((with_reducible show wpAny _ _ (exec (Stmt.For (PySem.Expr.Name _ _) _ _ _ _) _) _ _ _); k_dflt (refine Mine.For_led (by assumption) rfl rfl ?_)) | ((with_reducible show wpAny _ _ (subscriptTail _ _ (Value.ref _) (Value.int _ _)) _ _ _); k_dflt (refine' Mine.menu3 ?zqN ?zqhm ?zqh0 ?zqh3 ?_ ?zqhs; (case zqN => k_asm); (case zqhm => k_mem); (case zqh0 => l_fact); (case zqh3 => l_fact); (case zqhs => intro _; with_unfolding_all rfl)); intro _ _ _)) | (have ns9 : Mine.NoStop := trivial; walk1; (all_goals (try clear ns9))))) | walk1 | (dsimp only; walk1) | (leave1; walk_say "STEP leave1"; try dsimp only) | fail "no step")))
              · rename_i hwn lx _ Fx Nx l5 DA _ Fy Ny l6 D2 hq6 FC NC l7
                clear Fx Nx l5 Fy Ny l6
                obtain ⟨tz, Nz⟩ : ∃ tz, News gB LL hq6 ((LL + 1 + 1 + 1, o3w) :: (D2, listN (List.replicate i2 (Value.int 0 tz) ++ e.vs) 0) :: (S3, listN vs3 n3) :: (I3, io3) :: (174, tabObj ps1b) :: (181, tabObj ps2b) :: (LL + 1, o1) :: (LL + 1 + 1, o2) :: (LL + 1 + 1 + 1, o3w) :: (I2, io2) :: (I, io) :: tail2) := ⟨_, by (refine Mine.news_sub (by assumption) ?_; repeat (first | exact Mine.subs_refl | exact Mine.subs_nil | (refine Mine.subs_cons ?_ ?_; (focus k_mem)) | refine Mine.subs_skip ?_))⟩
                clear NC l7
                refine Halt.un ?_
                refine zip_src (f := fun x y => x + (u ^ (le - i2) * (if (le - i2) % 2 = 0 then 1 else v)) * y) rfl FC Nz (.tail _ (.tail _ (.head _))) (.tail _ (.head _)) hv3 ((rep_zero i2).append hei) (by omega) ?_ ?_
                · intro g
                  intro C oC m₂ h9 tk9 x y tx ty E' hC9 hx9 hy9 F9 N9
                  ((repeat' (first | (k_unfold; (try dsimp only)) | (k_end; wrow_close) | ((with_reducible refine Mine.Stop.un ?_); (first | with_reducible (first | ((with_reducible refine Mine.pow_two (by omega) ?_)) | ((with_reducible rename PartMark => pm9); (with_reducible refine Mine.add_nat ?_)) | ((with_reducible show wpAny _ _ (binaryOp Operator.Add (Value.ref _) (Value.ref _)) _ _ _); (with_reducible rename Mark => mk9); k_dflt (refine' Mine.add_news ?zqF ?zqN ?zqm1 ?zqm2 ?zqhz ?_; (case zqF => k_asm); (case zqN => k_asm); (case zqm1 => k_mem); (case zqm2 => k_mem); (case zqhz => (simp only [List.length_append, List.length_replicate, List.length_map, List.length_cons, List.length_nil]; omega)); k_whole); intro _ _ _ _ l1; (try k_lt l1); (try (revert l1; intro _))) | ((with_reducible show wpAny _ _ (binaryOp Operator.Mult (Value.ref _) (Value.int (Nat.cast _) _)) _ _ _); (with_reducible rename Mark => mk9); k_dflt (refine' Mine.mul_news ?zqF ?zqN ?zqhm ?zqhk ?_; (case zqF => k_asm); (case zqN => k_asm); (case zqhm => k_mem); (case zqhk => omega); k_whole); intro _ _ _ _ l1; (try k_lt l1); (try (revert l1; intro _))) | ((with_reducible show wpAny _ _ (exec (Stmt.Assign _ (PySem.Expr.ListComp _ [⟨PySem.Expr.Tuple _ _ _, _, _, _⟩] _ _) _) _) _ _ _); k_dflt (refine Mine.Assign_zip (F₀ := by k_asm) (by rfl) (by with_unfolding_all rfl) (by with_unfolding_all rfl) (by decide) (by rfl) (by decide) (by rfl) (by rfl) (by decide) (by rfl) (by rfl) ?_)) | ((with_reducible show wpAny _ _ (exec (Stmt.For (PySem.Expr.Tuple _ _ _) _ _ _ _) _) _ _ _); k_dflt (refine Mine.For_pairs (by assumption) rfl rfl rfl ?_)) | ((with_reducible refine Mine.pow_nat (by omega) (by omega) ?_)) | ((with_reducible refine Mine.sub_nat (by omega) ?_)) | ((with_reducible show wpAny _ _ (call (Value.ref 247) _) _ _ _); k_dflt (refine' Mine.dots_spec ?zqB ?zqF ?zqX ?zqT ?zqhk ?zqhdp ?zqhu ?zqN ?zqhsp ?zqhyl ?zqhks ?_; (case zqB => k_asm); (case zqF => k_asm); (case zqX => k_asm); (case zqT => k_asm); (case zqhk => first | assumption | exact rfl); (case zqhdp => ((try simp only [depth_under_make, depth_under_kw, depth_in1, depth_deeper, depth_caller, units_in1, units_deeper, Around.mark_units, units_caller]); (try dsimp only [ktrTop]); omega)); (case zqhu => ((try simp only [depth_under_make, depth_under_kw, depth_in1, depth_deeper, depth_caller, units_in1, units_deeper, Around.mark_units, units_caller]); (try dsimp only [ktrTop]); omega)); (case zqN => assumption); (case zqhsp => assumption); (case zqhyl => assumption); (case zqhks => assumption); intro _ _ _ _ _)) | ((with_reducible show wpAny _ _ (call (Value.ref 240) _) _ _ _); k_dflt (refine' Mine.sent2_spec ?zqB ?zqF ?zqX ?zqT ?zqhk ?zqhdp ?zqhu ?zqG ?zqN ?zqp1 ?zqp2 ?zqo1 ?zqo2 ?zqhs ?zqhw ?zqhw4 ?zqh14 ?zqhe ?_; (case zqB => k_asm); (case zqF => k_asm); (case zqX => k_asm); (case zqT => k_asm); (case zqhk => first | assumption | exact rfl); (case zqhdp => ((try simp only [depth_under_make, depth_under_kw, depth_in1, depth_deeper, depth_caller, units_in1, units_deeper, Around.mark_units, units_caller]); (try dsimp only [ktrTop]); omega)); (case zqhu => ((try simp only [depth_under_make, depth_under_kw, depth_in1, depth_deeper, depth_caller, units_in1, units_deeper, Around.mark_units, units_caller]); (try dsimp only [ktrTop]); omega)); (case zqG => assumption); (case zqN => assumption); (case zqp1 => assumption); (case zqp2 => assumption); (case zqo1 => assumption); (case zqo2 => assumption); (case zqhs => assumption); (case zqhw => assumption); (case zqhw4 => assumption); (case zqh14 => assumption); (case zqhe => assumption); intro _ _ _ _ _ _ _ _ _ _ _ _ _ _ _ _)) | ((with_reducible show wpAny _ _ (exec (Stmt.For (PySem.Expr.Name _ _) _ _ _ _) _) _ _ _); k_dflt (refine Mine.For_led (by assumption) rfl rfl ?_)) | ((with_reducible show wpAny _ _ (subscriptTail _ _ (Value.ref _) (Value.int _ _)) _ _ _); k_dflt (refine' Mine.menu3 ?zqN ?zqhm ?zqh0 ?zqh3 ?_ ?zqhs; (case zqN => k_asm); (case zqhm => k_mem); (case zqh0 => l_fact); (case zqh3 => l_fact); (case zqhs => intro _; with_unfolding_all rfl)); intro _ _ _)) | (have ns9 : Mine.NoStop := trivial; walk1; (all_goals (try clear ns9))))) | walk1 | (dsimp only; walk1) | (leave1; walk_say "STEP leave1"; try dsimp only) | fail "no step")))
                  exact EltEnd.mk _ _
                · intro g
                  intro D h9 tk9 vs9 F9 N9 lt9 hv9
                  ((repeat' (first | (k_unfold; (try dsimp only)) | (k_end; wrow_close) | ((with_reducible refine Mine.Stop.un ?_); (first | with_reducible (first | ((with_reducible refine Mine.pow_two (by omega) ?_)) | ((with_reducible rename PartMark => pm9); (with_reducible refine Mine.add_nat ?_)) | ((with_reducible show wpAny _ _ (binaryOp Operator.Add (Value.ref _) (Value.ref _)) _ _ _); (with_reducible rename Mark => mk9); k_dflt (refine' Mine.add_news ?zqF ?zqN ?zqm1 ?zqm2 ?zqhz ?_; (case zqF => k_asm); (case zqN => k_asm); (case zqm1 => k_mem); (case zqm2 => k_mem); (case zqhz => (simp only [List.length_append, List.length_replicate, List.length_map, List.length_cons, List.length_nil]; omega)); k_whole); intro _ _ _ _ l1; (try k_lt l1); (try (revert l1; intro _))) | ((with_reducible show wpAny _ _ (binaryOp Operator.Mult (Value.ref _) (Value.int (Nat.cast _) _)) _ _ _); (with_reducible rename Mark => mk9); k_dflt (refine' Mine.mul_news ?zqF ?zqN ?zqhm ?zqhk ?_; (case zqF => k_asm); (case zqN => k_asm); (case zqhm => k_mem); (case zqhk => omega); k_whole); intro _ _ _ _ l1; (try k_lt l1); (try (revert l1; intro _))) | ((with_reducible show wpAny _ _ (exec (Stmt.Assign _ (PySem.Expr.ListComp _ [⟨PySem.Expr.Tuple _ _ _, _, _, _⟩] _ _) _) _) _ _ _); k_dflt (refine Mine.Assign_zip (F₀ := by k_asm) (by rfl) (by with_unfolding_all rfl) (by with_unfolding_all rfl) (by decide) (by rfl) (by decide) (by rfl) (by rfl) (by decide) (by rfl) (by rfl) ?_)) | ((with_reducible show wpAny _ _ (exec (Stmt.For (PySem.Expr.Tuple _ _ _) _ _ _ _) _) _ _ _); k_dflt (refine Mine.For_pairs (by assumption) rfl rfl rfl ?_)) | ((with_reducible refine Mine.pow_nat (by omega) (by omega) ?_)) | ((with_reducible refine Mine.sub_nat (by omega) ?_)) | ((with_reducible show wpAny _ _ (call (Value.ref 247) _) _ _ _); k_dflt (refine' Mine.dots_spec ?zqB ?zqF ?zqX ?zqT ?zqhk ?zqhdp ?zqhu ?zqN ?zqhsp ?zqhyl ?zqhks ?_; (case zqB => k_asm); (case zqF => k_asm); (case zqX => k_asm); (case zqT => k_asm); (case zqhk => first | assumption | exact rfl); (case zqhdp => ((try simp only [depth_under_make, depth_under_kw, depth_in1, depth_deeper, depth_caller, units_in1, units_deeper, Around.mark_units, units_caller]); (try dsimp only [ktrTop]); omega)); (case zqhu => ((try simp only [depth_under_make, depth_under_kw, depth_in1, depth_deeper, depth_caller, units_in1, units_deeper, Around.mark_units, units_caller]); (try dsimp only [ktrTop]); omega)); (case zqN => assumption); (case zqhsp => assumption); (case zqhyl => assumption); (case zqhks => assumption); intro _ _ _ _ _)) | ((with_reducible show wpAny _ _ (call (Value.ref 240) _) _ _ _); k_dflt (refine' Mine.sent2_spec ?zqB ?zqF ?zqX ?zqT ?zqhk ?zqhdp ?zqhu ?zqG ?zqN ?zqp1 ?zqp2 ?zqo1 ?zqo2 ?zqhs ?zqhw ?zqhw4 ?zqh14 ?zqhe ?_; (case zqB => k_asm); (case zqF => k_asm); (case zqX => k_asm); (case zqT => k_asm); (case zqhk => first | assumption | exact rfl); (case zqhdp => ((try simp only [depth_under_make, depth_under_kw, depth_in1, depth_deeper, depth_caller, units_in1, units_deeper, Around.mark_units, units_caller]); (try dsimp only [ktrTop]); omega)); (case zqhu => ((try simp only [depth_under_make, depth_under_kw, depth_in1, depth_deeper, depth_caller, units_in1, units_deeper, Around.mark_units, units_caller]); (try dsimp only [ktrTop]); omega)); (case zqG => assumption); (case zqN => assumption); (case zqp1 => assumption); (case zqp2 => assumption); (case zqo1 => assumption); (case zqo2 => assumption); (case zqhs => assumption); (case zqhw => assumption); (case zqhw4 => assumption); (case zqh14 => assumption); (case zqhe => assumption); intro _ _ _ _ _ _ _ _ _ _ _ _ _ _ _ _)) | ((with_reducible show wpAny _ _ (exec (Stmt.For (PySem.Expr.Name _ _) _ _ _ _) _) _ _ _); k_dflt (refine Mine.For_led (by assumption) rfl rfl ?_)) | ((with_reducible show wpAny _ _ (subscriptTail _ _ (Value.ref _) (Value.int _ _)) _ _ _); k_dflt (refine' Mine.menu3 ?zqN ?zqhm ?zqh0 ?zqh3 ?_ ?zqhs; (case zqN => k_asm); (case zqhm => k_mem); (case zqh0 => l_fact); (case zqh3 => l_fact); (case zqhs => intro _; with_unfolding_all rfl)); intro _ _ _)) | (have ns9 : Mine.NoStop := trivial; walk1; (all_goals (try clear ns9))))) | walk1 | (dsimp only; walk1) | (leave1; walk_say "STEP leave1"; try dsimp only) | fail "no step")))
                  have hDI : D ≠ I3 := (Nat.ne_of_lt (lt9 (I3, io3) (.tail _ (.tail _ (.tail _ (.head _)))))).symm
                  refine PostL.nxt ⟨_, (D, listN vs9 _) :: (174, tabObj ps1b) :: (181, tabObj ps2b) :: (LL + 1, o1) :: (LL + 1 + 1, o2) :: (LL + 1 + 1 + 1, o3w) :: (I2, io2) :: (I, io) :: tail2, by assumption, by (refine Mine.news_sub (by assumption) ?_; repeat (first | exact Mine.subs_refl | exact Mine.subs_nil | (refine Mine.subs_cons ?_ ?_; (focus k_mem)) | refine Mine.subs_skip ?_)), sep_cons hDI (fun p hp => off3 p (.tail _ hp)), fun p hp => .tail _ hp, ?_⟩
                  refine ⟨_, _, D, _, vs9, lmap_of rfl rfl rfl (fun y h1 h2 h3 h4 h5 h6 h7 h8 h9 h10 h11 h12 h13 h14 h15 => by (repeat with_reducible refine (if_neg (by assumption)).trans ?_); exact lmap_else h1 h2 h3 h4 h5 h6 h7 h8 h9 h10 h11 h12 h13 h14 h15), rfl, ?_, fun p hp => lt9 p (mt4 hp), G4, os4⟩
                  rw [hsu, if_pos (by omega)]
                  exact hv9
              · rename_i hwn
                refine PostL.nxt ⟨_, (S3, listN vs3 n3) :: (174, tabObj ps1b) :: (181, tabObj ps2b) :: (LL + 1, o1) :: (LL + 1 + 1, o2) :: (LL + 1 + 1 + 1, o3w) :: (I2, io2) :: (I, io) :: tail2, by assumption, by (refine Mine.news_sub (by assumption) ?_; repeat (first | exact Mine.subs_refl | exact Mine.subs_nil | (refine Mine.subs_cons ?_ ?_; (focus k_mem)) | refine Mine.subs_skip ?_)), off3, fun p hp => .tail _ hp, ?_⟩
                refine ⟨_, _, S3, n3, vs3, lmap_of rfl rfl rfl (fun y h1 h2 h3 h4 h5 h6 h7 h8 h9 h10 h11 h12 h13 h14 h15 => by (repeat with_reducible refine (if_neg (by assumption)).trans ?_); exact lmap_else h1 h2 h3 h4 h5 h6 h7 h8 h9 h10 h11 h12 h13 h14 h15), rfl, ?_, hSb, G4, os4⟩
                rw [hsu, if_neg (by omega)]
                exact hv3
            · intro m3 news3 s4 R3 kk3 F N
              replace F : Fr gB LL _ _ := F
              replace N : News gB LL _ _ := N
              obtain ⟨b7', b8', S3, n3, vs3, rfl, rfl, hv3, hSb, G4, os4⟩ := R3

              rw [show (refsOf es).length = (tabOf es).length by simp, sumsAt_all, htab] at hv3
              have hel2 : es2.length = i2 := by have := congrArg List.length htab2; simpa using this
              have hsl : (sumsOf opsZ bound (i + 1) i2 u v (tableOf opsZ rows bound u v i)).length = bound + 1 := by
                rw [← htab, ← sumsAt_all]
                exact sumsAt_len (fun q hq => by obtain ⟨e', he', rfl⟩ := List.mem_map.mp hq; exact (hes3 e' he').len) _ (Nat.le_refl _)
              have hSI : @LT.lt Nat _ I S3 := hSb (I, io) (.tail _ (.tail _ (.tail _ (.tail _ (.tail _ (.tail _ (.head _)))))))
              have hSI2 : @LT.lt Nat _ I2 S3 := hSb (I2, io2) (.tail _ (.tail _ (.tail _ (.tail _ (.tail _ (.head _))))))
              have hSA : Apart5 LL S3 := Apart5.lt (hSb (LL + 1 + 1 + 1, o3w) (.tail _ (.tail _ (.tail _ (.tail _ (.head _)))))) l8
              have hII : I ≠ I2 := off2 (I, io) (.tail _ (.tail _ (.tail _ (.tail _ (.tail _ (.head _))))))
              replace N := news_add N (mt8 hLg)
              clear hSb
              ((repeat' (first | (k_unfold; (try dsimp only)) | (k_end; wrow_close) | ((with_reducible refine Mine.Stop.un ?_); (first | with_reducible (first | ((with_reducible refine Mine.pow_two (by omega) ?_)) | ((with_reducible rename PartMark => pm9); (with_reducible refine Mine.add_nat ?_)) | ((with_reducible show wpAny _ _ (binaryOp Operator.Add (Value.ref _) (Value.ref _)) _ _ _); (with_reducible rename Mark => mk9); k_dflt (refine' Mine.add_news ?zqF ?zqN ?zqm1 ?zqm2 ?zqhz ?_; (case zqF => k_asm); (case zqN => k_asm); (case zqm1 => k_mem); (case zqm2 => k_mem); (case zqhz => (simp only [List.length_append, List.length_replicate, List.length_map, List.length_cons, List.length_nil]; omega)); k_whole); intro _ _ _ _ l1; (try k_lt l1); (try (revert l1; intro _))) | ((with_reducible show wpAny _ _ (binaryOp Operator.Mult (Value.ref _) (Value.int (Nat.cast _) _)) _ _ _); (with_reducible rename Mark => mk9); k_dflt (refine' Mine.mul_news ?zqF ?zqN ?zqhm ?zqhk ?_; (case zqF => k_asm); (case zqN => k_asm); (case zqhm => k_mem); (case zqhk => omega); k_whole); intro _ _ _ _ l1; (try k_lt l1); (try (revert l1; intro _))) | ((with_reducible show wpAny _ _ (exec (Stmt.Assign _ (PySem.Expr.ListComp _ [⟨PySem.Expr.Tuple _ _ _, _, _, _⟩] _ _) _) _) _ _ _); k_dflt (refine Mine.Assign_zip (F₀ := by k_asm) (by rfl) (by with_unfolding_all rfl) (by with_unfolding_all rfl) (by decide) (by rfl) (by decide) (by rfl) (by rfl) (by decide) (by rfl) (by rfl) ?_)) | ((with_reducible show wpAny _ _ (exec (Stmt.For (PySem.Expr.Tuple _ _ _) _ _ _ _) _) _ _ _); k_dflt (refine Mine.For_pairs (by assumption) rfl rfl rfl ?_)) | ((with_reducible refine Mine.pow_nat (by omega) (by omega) ?_)) | ((with_reducible refine Mine.sub_nat (by omega) ?_)) | ((with_reducible show wpAny _ _ (call (Value.ref 247) _) _ _ _); k_dflt (refine' Mine.dots_spec ?zqB ?zqF ?zqX ?zqT ?zqhk ?zqhdp ?zqhu ?zqN ?zqhsp ?zqhyl ?zqhks ?_; (case zqB => k_asm); (case zqF => k_asm); (case zqX => k_asm); (case zqT => k_asm); (case zqhk => first | assumption | exact rfl); (case zqhdp => ((try simp only [depth_under_make, depth_under_kw, depth_in1, depth_deeper, depth_caller, units_in1, units_deeper, Around.mark_units, units_caller]); (try dsimp only [ktrTop]); omega)); (case zqhu => ((try simp only [depth_under_make, depth_under_kw, depth_in1, depth_deeper, depth_caller, units_in1, units_deeper, Around.mark_units, units_caller]); (try dsimp only [ktrTop]); omega)); (case zqN => assumption); (case zqhsp => assumption); (case zqhyl => assumption); (case zqhks => assumption); intro _ _ _ _ _)) | ((with_reducible show wpAny _ _ (call (Value.ref 240) _) _ _ _); k_dflt (refine' Mine.sent2_spec ?zqB ?zqF ?zqX ?zqT ?zqhk ?zqhdp ?zqhu ?zqG ?zqN ?zqp1 ?zqp2 ?zqo1 ?zqo2 ?zqhs ?zqhw ?zqhw4 ?zqh14 ?zqhe ?_; (case zqB => k_asm); (case zqF => k_asm); (case zqX => k_asm); (case zqT => k_asm); (case zqhk => first | assumption | exact rfl); (case zqhdp => ((try simp only [depth_under_make, depth_under_kw, depth_in1, depth_deeper, depth_caller, units_in1, units_deeper, Around.mark_units, units_caller]); (try dsimp only [ktrTop]); omega)); (case zqhu => ((try simp only [depth_under_make, depth_under_kw, depth_in1, depth_deeper, depth_caller, units_in1, units_deeper, Around.mark_units, units_caller]); (try dsimp only [ktrTop]); omega)); (case zqG => assumption); (case zqN => assumption); (case zqp1 => assumption); (case zqp2 => assumption); (case zqo1 => assumption); (case zqo2 => assumption); (case zqhs => assumption); (case zqhw => assumption); (case zqhw4 => assumption); (case zqh14 => assumption); (case zqhe => assumption); intro _ _ _ _ _ _ _ _ _ _ _ _ _ _ _ _)) | ((with_reducible show wpAny _ _ (exec (Stmt.For (PySem.Expr.Name _ _) _ _ _ _) _) _ _ _); k_dflt (refine Mine.For_led (by assumption) rfl rfl ?_)) | ((with_reducible show wpAny _ _ (subscriptTail _ _ (Value.ref _) (Value.int _ _)) _ _ _); k_dflt (refine' Mine.menu3 ?zqN ?zqhm ?zqh0 ?zqh3 ?_ ?zqhs; (case zqN => k_asm); (case zqhm => k_mem); (case zqh0 => l_fact); (case zqh3 => l_fact); (case zqhs => intro _; with_unfolding_all rfl)); intro _ _ _)) | (have ns9 : Mine.NoStop := trivial; walk1; (all_goals (try clear ns9))))) | walk1 | (dsimp only; walk1) | (leave1; walk_say "STEP leave1"; try dsimp only) | fail "no step")))
              rename_i Dt2 _ ld1 lx2 _ lx3 Dl _ ld3 _ FE NE
              clear lx3
              have dI : @LT.lt Nat _ I Dt2 := by omega
              have dI2 : @LT.lt Nat _ I2 Dt2 := by omega
              have eI : @LT.lt Nat _ I Dl := by omega
              have eI2 : @LT.lt Nat _ I2 Dl := by omega
              refine PostL.nxt ⟨_, (174, tabObj ps1b) :: (181, tabObj ps2b) :: (LL + 1, o1) :: (LL + 1 + 1, o2) :: (LL + 1 + 1 + 1, o3w) :: (I, io) :: (Dl, listN (refsOf es2 ++ [.ref Dt2]) 0) :: (Dt2, { cls := .type "tuple", data := .seq #[.int (le : Int) tl, .ref S3] }) :: (S3, listN vs3 n3) :: tail2, FE, by (refine Mine.news_sub (by assumption) ?_; repeat (first | exact Mine.subs_refl | exact Mine.subs_nil | (refine Mine.subs_cons ?_ ?_; (focus k_mem)) | refine Mine.subs_skip ?_)),
                sep_cons lI2.1.symm (sep_cons lI2.2.1.symm (sep_cons lI2.2.2.1.symm (sep_cons lI2.2.2.2.1.symm (sep_cons lI2.2.2.2.2.symm (sep_cons hII (sep_cons (Nat.ne_of_lt eI2).symm (sep_cons (Nat.ne_of_lt dI2).symm (sep_cons (Nat.ne_of_lt hSI2).symm fun p hp => off2 p (mt6 hp))))))))), (fun p hp => by cases hp), ?_⟩
              refine ⟨_, _, _, _, _, _, _, _, _, Dl, 0, es2 ++ [⟨Dt2, S3, le, tl, 0, n3, vs3, sumsOf opsZ bound (i + 1) i2 u v (tableOf opsZ rows bound u v i)⟩], (Dl, listN (refsOf es2 ++ [.ref Dt2]) 0) :: (Dt2, { cls := .type "tuple", data := .seq #[.int (le : Int) tl, .ref S3] }) :: (S3, listN vs3 n3) :: tail2, lmap_of rfl rfl rfl (fun y h1 h2 h3 h4 h5 h6 h7 h8 h9 h10 h11 h12 h13 h14 h15 => by (repeat with_reducible refine (if_neg (by assumption)).trans ?_); exact lmap_else h1 h2 h3 h4 h5 h6 h7 h8 h9 h10 h11 h12 h13 h14 h15),
                ⟨ps1b, ps2b, o1, o2, o3w, t1, t2, _, rfl, hps1, hps2, hd1, hd2, hdw3, apart_cons lI (apart_cons (Apart5.lt (by omega) l8) (apart_cons (Apart5.lt (by omega) l8) (apart_cons hSA fun p hp => low2 p (.tail _ hp)))), G4, os4⟩,
                fun p hp => .tail _ (.tail _ (.tail _ (hsub p hp))), sep_cons (Nat.ne_of_lt eI).symm (sep_cons (Nat.ne_of_lt dI).symm (sep_cons (Nat.ne_of_lt hSI).symm hoff2)), ?_, ?_, ?_, ?_⟩
              · rw [show refsOf (es2 ++ [⟨Dt2, S3, le, tl, 0, n3, vs3, sumsOf opsZ bound (i + 1) i2 u v (tableOf opsZ rows bound u v i)⟩]) = refsOf es2 ++ [.ref Dt2] by simp]
                exact .head _
              · intro e' he'
                rcases List.mem_append.mp he' with h | h
                · exact (hes2 e' h).sub fun p hp => .tail _ (.tail _ (.tail _ hp))
                · rw [List.mem_singleton.mp h]
                  exact ⟨.tail _ (.head _), .tail _ (.tail _ (.head _)), hv3, hsl⟩
              · rw [List.range_succ, List.map_append, ← htab2]
                show List.map _ (es2 ++ [_]) = _
                rw [List.map_append]
                unfold rowF
                simp only [List.map_cons, List.map_nil, hle]
              · intro j hj
                rcases Nat.lt_succ_iff_lt_or_eq.mp hj with h | rfl
                · exact hnb j h
                · exact hbf
    case done2 =>
      clear hr8 F7 N7 eA
      intro m2 news2 s2 R2 kk2 F N
      replace F : Fr gB LL _ _ := F
      replace N : News gB LL _ _ := N
      obtain ⟨a3, a4, a5, a6, a7, a8, f1, f2, f3, Lg, k2, es2, tail2, rfl, ⟨ps1, ps2, o1, o2, o3, t1, t2, v3, rfl, p1, p2, hd1, hd2, hd3, low2, G2, os2⟩, hsub, hoff2, hLg, hes2, htab2, hnb⟩ := R2

      ((repeat' (first | (k_unfold; (try dsimp only)) | (k_end; wrow_close) | ((with_reducible refine Mine.Stop.un ?_); (first | with_reducible (first | ((with_reducible refine Mine.pow_two (by omega) ?_)) | ((with_reducible rename PartMark => pm9); (with_reducible refine Mine.add_nat ?_)) | ((with_reducible show wpAny _ _ (binaryOp Operator.Add (Value.ref _) (Value.ref _)) _ _ _); (with_reducible rename Mark => mk9); k_dflt (refine' Mine.add_news ?zqF ?zqN ?zqm1 ?zqm2 ?zqhz ?_; (case zqF => k_asm); (case zqN => k_asm); (case zqm1 => k_mem); (case zqm2 => k_mem); (case zqhz => (simp only [List.length_append, List.length_replicate, List.length_map, List.length_cons, List.length_nil]; omega)); k_whole); intro _ _ _ _ l1; (try k_lt l1); (try (revert l1; intro _))) | ((with_reducible show wpAny _ _ (binaryOp Operator.Mult (Value.ref _) (Value.int (Nat.cast _) _)) _ _ _); (with_reducible rename Mark => mk9); k_dflt (refine' Mine.mul_news ?zqF ?zqN ?zqhm ?zqhk ?_; (case zqF => k_asm); (case zqN => k_asm); (case zqhm => k_mem); (case zqhk => omega); k_whole); intro _ _ _ _ l1; (try k_lt l1); (try (revert l1; intro _))) | ((with_reducible show wpAny _ _ (exec (Stmt.Assign _ (PySem.Expr.ListComp _ [⟨PySem.Expr.Tuple _ _ _, _, _, _⟩] _ _) _) _) _ _ _); k_dflt (refine Mine.Assign_zip (F₀ := by k_asm) (by rfl) (by with_unfolding_all rfl) (by with_unfolding_all rfl) (by decide) (by rfl) (by decide) (by rfl) (by rfl) (by decide) (by rfl) (by rfl) ?_)) | ((with_reducible show wpAny _ _ (exec (Stmt.For (PySem.Expr.Tuple _ _ _) _ _ _ _) _) _ _ _); k_dflt (refine Mine.For_pairs (by assumption) rfl rfl rfl ?_)) | ((with_reducible refine Mine.pow_nat (by omega) (by omega) ?_)) | ((with_reducible refine Mine.sub_nat (by omega) ?_)) | ((with_reducible show wpAny _ _ (call (Value.ref 247) _) _ _ _); k_dflt (refine' Mine.dots_spec ?zqB ?zqF ?zqX ?zqT ?zqhk ?zqhdp ?zqhu ?zqN ?zqhsp ?zqhyl ?zqhks ?_; (case zqB => k_asm); (case zqF => k_asm); (case zqX => k_asm); (case zqT => k_asm); (case zqhk => first | assumption | exact rfl); (case zqhdp => ((try simp only [depth_under_make, depth_under_kw, depth_in1, depth_deeper, depth_caller, units_in1, units_deeper, Around.mark_units, units_caller]); (try dsimp only [ktrTop]); omega)); (case zqhu => ((try simp only [depth_under_make, depth_under_kw, depth_in1, depth_deeper, depth_caller, units_in1, units_deeper, Around.mark_units, units_caller]); (try dsimp only [ktrTop]); omega)); (case zqN => assumption); (case zqhsp => assumption); (case zqhyl => assumption); (case zqhks => assumption); intro _ _ _ _ _)) | ((with_reducible show wpAny _ _ (call (Value.ref 240) _) _ _ _); k_dflt (refine' Mine.sent2_spec ?zqB ?zqF ?zqX ?zqT ?zqhk ?zqhdp ?zqhu ?zqG ?zqN ?zqp1 ?zqp2 ?zqo1 ?zqo2 ?zqhs ?zqhw ?zqhw4 ?zqh14 ?zqhe ?_; (case zqB => k_asm); (case zqF => k_asm); (case zqX => k_asm); (case zqT => k_asm); (case zqhk => first | assumption | exact rfl); (case zqhdp => ((try simp only [depth_under_make, depth_under_kw, depth_in1, depth_deeper, depth_caller, units_in1, units_deeper, Around.mark_units, units_caller]); (try dsimp only [ktrTop]); omega)); (case zqhu => ((try simp only [depth_under_make, depth_under_kw, depth_in1, depth_deeper, depth_caller, units_in1, units_deeper, Around.mark_units, units_caller]); (try dsimp only [ktrTop]); omega)); (case zqG => assumption); (case zqN => assumption); (case zqp1 => assumption); (case zqp2 => assumption); (case zqo1 => assumption); (case zqo2 => assumption); (case zqhs => assumption); (case zqhw => assumption); (case zqhw4 => assumption); (case zqh14 => assumption); (case zqhe => assumption); intro _ _ _ _ _ _ _ _ _ _ _ _ _ _ _ _)) | ((with_reducible show wpAny _ _ (exec (Stmt.For (PySem.Expr.Name _ _) _ _ _ _) _) _ _ _); k_dflt (refine Mine.For_led (by assumption) rfl rfl ?_)) | ((with_reducible show wpAny _ _ (subscriptTail _ _ (Value.ref _) (Value.int _ _)) _ _ _); k_dflt (refine' Mine.menu3 ?zqN ?zqhm ?zqh0 ?zqh3 ?_ ?zqhs; (case zqN => k_asm); (case zqhm => k_mem); (case zqh0 => l_fact); (case zqh3 => l_fact); (case zqhs => intro _; with_unfolding_all rfl)); intro _ _ _)) | (have ns9 : Mine.NoStop := trivial; walk1; (all_goals (try clear ns9))))) | walk1 | (dsimp only; walk1) | (leave1; walk_say "STEP leave1"; try dsimp only) | fail "no step")))
      refine PostL.nxt ⟨_, (174, tabObj ps1) :: (181, tabObj ps2) :: (LL + 1, o1) :: (LL + 1 + 1, o2) :: (LL + 1 + 1 + 1, o3) :: tail2, by assumption, by (refine Mine.news_sub (by assumption) ?_; repeat (first | exact Mine.subs_refl | exact Mine.subs_nil | (refine Mine.subs_cons ?_ ?_; (focus k_mem)) | refine Mine.subs_skip ?_)), sep_cons lI.1.symm (sep_cons lI.2.1.symm (sep_cons lI.2.2.1.symm (sep_cons lI.2.2.2.1.symm (sep_cons lI.2.2.2.2.symm hoff2)))), (fun p hp => by cases hp), ?_⟩
      exact ⟨_, _, _, _, _, _, _, _, _, _, _, Lg, k2, es2, tail2, lmap_of rfl rfl rfl (fun y h1 h2 h3 h4 h5 h6 h7 h8 h9 h10 h11 h12 h13 h14 h15 => by (repeat with_reducible refine (if_neg (by assumption)).trans ?_); exact lmap_else h1 h2 h3 h4 h5 h6 h7 h8 h9 h10 h11 h12 h13 h14 h15), ⟨ps1, ps2, o1, o2, o3, t1, t2, v3, rfl, p1, p2, hd1, hd2, hd3, fun p hp => low2 p (.tail _ hp), G2, os2⟩, hLg, hes2, by rw [htab2, table_succ hnb (by omega) (.inl rfl)]⟩
  case done =>
    clear hr9 F10 N10 hi hn et hd1' hd2' dc3 hws er eb ee p1 p2
    intro m1 news1 s1 R kk F N
    replace F : Fr gB LL _ _ := F
    replace N : News gB LL _ _ := N
    obtain ⟨a1, a2, a3, a4, a5, a6, a7, a8, f1, f2, f3, T, k, es, tail, rfl, ⟨ps1, ps2, o1, o2, o3, t1, t2, v3, rfl, p1, p2, hd1, hd2, hd3, low, G1, os1⟩, hT, hes, htab⟩ := R

    ((repeat' (first | (k_unfold; (try dsimp only)) | (k_end; wrow_close) | ((with_reducible refine Mine.Stop.un ?_); (first | with_reducible (first | ((with_reducible refine Mine.pow_two (by omega) ?_)) | ((with_reducible rename PartMark => pm9); (with_reducible refine Mine.add_nat ?_)) | ((with_reducible show wpAny _ _ (binaryOp Operator.Add (Value.ref _) (Value.ref _)) _ _ _); (with_reducible rename Mark => mk9); k_dflt (refine' Mine.add_news ?zqF ?zqN ?zqm1 ?zqm2 ?zqhz ?_; (case zqF => k_asm); (case zqN => k_asm); (case zqm1 => k_mem); (case zqm2 => k_mem); (case zqhz => (simp only [List.length_append, List.length_replicate, List.length_map, List.length_cons, List.length_nil]; omega)); k_whole); intro _ _ _ _ l1; (try k_lt l1); (try (revert l1; intro _))) | ((with_reducible show wpAny _ _ (binaryOp Operator.Mult (Value.ref _) (Value.int (Nat.cast _) _)) _ _ _); (with_reducible rename Mark => mk9); k_dflt (refine' Mine.mul_news ?zqF ?zqN ?zqhm ?zqhk ?_; (case zqF => k_asm); (case zqN => k_asm); (case zqhm => k_mem); (case zqhk => omega); k_whole); intro _ _ _ _ l1; (try k_lt l1); (try (revert l1; intro _))) | ((with_reducible show wpAny _ _ (exec (Stmt.Assign _ (PySem.Expr.ListComp _ [⟨PySem.Expr.Tuple _ _ _, _, _, _⟩] _ _) _) _) _ _ _); k_dflt (refine Mine.Assign_zip (F₀ := by k_asm) (by rfl) (by with_unfolding_all rfl) (by with_unfolding_all rfl) (by decide) (by rfl) (by decide) (by rfl) (by rfl) (by decide) (by rfl) (by rfl) ?_)) | ((with_reducible show wpAny _ _ (exec (Stmt.For (PySem.Expr.Tuple _ _ _) _ _ _ _) _) _ _ _); k_dflt (refine Mine.For_pairs (by assumption) rfl rfl rfl ?_)) | ((with_reducible refine Mine.pow_nat (by omega) (by omega) ?_)) | ((with_reducible refine Mine.sub_nat (by omega) ?_)) | ((with_reducible show wpAny _ _ (call (Value.ref 247) _) _ _ _); k_dflt (refine' Mine.dots_spec ?zqB ?zqF ?zqX ?zqT ?zqhk ?zqhdp ?zqhu ?zqN ?zqhsp ?zqhyl ?zqhks ?_; (case zqB => k_asm); (case zqF => k_asm); (case zqX => k_asm); (case zqT => k_asm); (case zqhk => first | assumption | exact rfl); (case zqhdp => ((try simp only [depth_under_make, depth_under_kw, depth_in1, depth_deeper, depth_caller, units_in1, units_deeper, Around.mark_units, units_caller]); (try dsimp only [ktrTop]); omega)); (case zqhu => ((try simp only [depth_under_make, depth_under_kw, depth_in1, depth_deeper, depth_caller, units_in1, units_deeper, Around.mark_units, units_caller]); (try dsimp only [ktrTop]); omega)); (case zqN => assumption); (case zqhsp => assumption); (case zqhyl => assumption); (case zqhks => assumption); intro _ _ _ _ _)) | ((with_reducible show wpAny _ _ (call (Value.ref 240) _) _ _ _); k_dflt (refine' Mine.sent2_spec ?zqB ?zqF ?zqX ?zqT ?zqhk ?zqhdp ?zqhu ?zqG ?zqN ?zqp1 ?zqp2 ?zqo1 ?zqo2 ?zqhs ?zqhw ?zqhw4 ?zqh14 ?zqhe ?_; (case zqB => k_asm); (case zqF => k_asm); (case zqX => k_asm); (case zqT => k_asm); (case zqhk => first | assumption | exact rfl); (case zqhdp => ((try simp only [depth_under_make, depth_under_kw, depth_in1, depth_deeper, depth_caller, units_in1, units_deeper, Around.mark_units, units_caller]); (try dsimp only [ktrTop]); omega)); (case zqhu => ((try simp only [depth_under_make, depth_under_kw, depth_in1, depth_deeper, depth_caller, units_in1, units_deeper, Around.mark_units, units_caller]); (try dsimp only [ktrTop]); omega)); (case zqG => assumption); (case zqN => assumption); (case zqp1 => assumption); (case zqp2 => assumption); (case zqo1 => assumption); (case zqo2 => assumption); (case zqhs => assumption); (case zqhw => assumption); (case zqhw4 => assumption); (case zqh14 => assumption); (case zqhe => assumption); intro _ _ _ _ _ _ _ _ _ _ _ _ _ _ _ _)) | ((with_reducible show wpAny _ _ (exec (Stmt.For (PySem.Expr.Name _ _) _ _ _ _) _) _ _ _); k_dflt (refine Mine.For_led (by assumption) rfl rfl ?_)) | ((with_reducible show wpAny _ _ (subscriptTail _ _ (Value.ref _) (Value.int _ _)) _ _ _); k_dflt (refine' Mine.menu3 ?zqN ?zqhm ?zqh0 ?zqh3 ?_ ?zqhs; (case zqN => k_asm); (case zqhm => k_mem); (case zqh0 => l_fact); (case zqh3 => l_fact); (case zqhs => intro _; with_unfolding_all rfl)); intro _ _ _)) | (have ns9 : Mine.NoStop := trivial; walk1; (all_goals (try clear ns9))))) | walk1 | (dsimp only; walk1) | (leave1; walk_say "STEP leave1"; try dsimp only) | fail "no step")))
    rename_i Fd _ hS0 _ _ _ _ _ _ _ _ y1 _ _ y2 _ _ y3 Ad _ y4 _ _ y5 _ _ hq F5 N5
    clear y1 y2 y3 y4 y5
    rw [show ((bound : Int) + 1).toNat = bound + 1 by omega] at hS0 N5
    rw [flat_zero] at hS0
    have h7 := b7
    have h10 := b10
    obtain ⟨vf, nf, va, na, hvf, hva, N4⟩ : ∃ vf nf va na, IntsAre vf (List.replicate (bound + 1) 0) ∧ IntsAre va ([1] ++ List.replicate bound 0) ∧ News gB LL hq ((Fd, listN vf nf) :: (Ad, listN va na) :: (174, tabObj ps1) :: (181, tabObj ps2) :: (LL + 1, o1) :: (LL + 1 + 1, o2) :: (LL + 1 + 1 + 1, o3) :: tail) := ⟨_, _, _, _, hS0, (IntsAre.cons 1 _ .nil).append (rep_zero bound), by (refine Mine.news_sub (by assumption) ?_; repeat (first | exact Mine.subs_refl | exact Mine.subs_nil | (refine Mine.subs_cons ?_ ?_; (focus k_mem)) | refine Mine.subs_skip ?_))⟩
    clear hS0 N5
    refine with_map F5 (fun mA hmA F4 => ?_)
    have eA := lmap_of (m1 := m0) (m2 := mA) (rows := rows) (bound := bound) (ends := ends) (tr := tr) (tb := tb) (te := te) (by rw [hmA]; rfl) (by rw [hmA]; rfl) (by rw [hmA]; rfl) (fun y h1 h2 h3 h4 h5 h6 h7 h8 h9 h10 h11 h12 h13 h14 h15 => by rw [hmA]; (repeat with_reducible refine (if_neg (by assumption)).trans ?_); exact lmap_else h1 h2 h3 h4 h5 h6 h7 h8 h9 h10 h11 h12 h13 h14 h15)
    have et : mA (Str.ofString "table") = some (.ref T) := by rw [hmA]; rfl
    have ef : mA (Str.ofString "found") = some (.ref Fd) := by rw [hmA]; rfl
    have ea : mA (Str.ofString "asked") = some (.ref Ad) := by rw [hmA]; rfl
    rw [et, ef, ea] at eA
    clear hmA F5 et ef ea
    generalize mA (Str.ofString "place") = b1 at eA
    generalize mA (Str.ofString "longer") = b2 at eA
    generalize mA (Str.ofString "size") = b3 at eA
    generalize mA (Str.ofString "least") = b4 at eA
    generalize mA (Str.ofString "gain") = b5 at eA
    generalize mA (Str.ofString "sums") = b6 at eA
    generalize mA (Str.ofString "wanted") = b7 at eA
    generalize mA (Str.ofString "old") = b8 at eA
    generalize mA (Str.ofString "part") = b12 at eA
    obtain ⟨pr, hpr⟩ : ∃ pr : Nat → Value × Value, ∀ j e, es[j]? = some e → pr j = (.int (e.want : Nat) e.t, .ref e.la) := ⟨fun j => match es[j]? with | some e => (.int (e.want : Nat) e.t, .ref e.la) | none => (.none, .none), fun j e h => by simp [h]⟩
    refine ⟨T, k, refsOf es, (Ad, listN va na) :: (174, tabObj ps1) :: (181, tabObj ps2) :: (LL + 1, o1) :: (LL + 1 + 1, o2) :: (LL + 1 + 1 + 1, o3) :: tail,
      PairInv2 (fun x y z => lmap m0 rows bound ends tr tb te b1 b2 b3 b4 b5 b6 y z (some (.ref T)) x (some (.ref Ad)) b12) ((Ad, listN va na) :: (174, tabObj ps1) :: (181, tabObj ps2) :: (LL + 1, o1) :: (LL + 1 + 1, o2) :: (LL + 1 + 1 + 1, o3) :: tail) s₁.os (foundAtP bound (tabOf es)) (bound + 1),
      mA, (Fd, listN vf nf) :: (Ad, listN va na) :: (174, tabObj ps1) :: (181, tabObj ps2) :: (LL + 1, o1) :: (LL + 1 + 1, o2) :: (LL + 1 + 1 + 1, o3) :: tail, pr, rfl, rfl, mt6 hT, F4, N4, fun p hp => .tail _ hp, ?_, ?_, ?_, ?_, ?_⟩
    · intro h
      exact ⟨b7, b8, Fd, nf, vf, eA, rfl, hvf, by rw [hvf.length]; simp, G1, os1⟩
    · rintro j m9 n9 s9 h9 tk9 R
      exact R
    · intro j w9 hw9
      rw [List.getElem?_map] at hw9
      obtain ⟨e, he, rfl⟩ := Option.map_eq_some_iff.mp hw9
      refine ⟨e.at_, e.k, rfl, mt6 ?_⟩
      rw [hpr j e he]
      exact (hes e (List.mem_of_getElem? he)).tup
    · intro I3 j io3 m3 news3 s4 hj R3 off3 kk3 lt3 F N
      replace F : Fr gB LL _ _ := F
      replace N : News gB LL _ _ := N
      obtain ⟨b7', b8', S3, n3, vs3, rfl, rfl, hv3, hvl, G4, os4⟩ := R3
      obtain ⟨e, he⟩ : ∃ e, es[j]? = some e := ⟨_, List.getElem?_eq_getElem (by simpa using hj)⟩
      have hok := hes e (List.mem_of_getElem? he)
      rw [hpr j e he] at F
      try dsimp only at F
      replace N := pair_front N hok.lst
      have hei := hok.isn
      show wpAny _ _ _ _ _ _
      k_fold
      ((repeat' (first | (k_unfold; (try dsimp only)) | (k_end; wrow_close) | ((with_reducible refine Mine.Stop.un ?_); (first | with_reducible (first | ((with_reducible refine Mine.pow_two (by omega) ?_)) | ((with_reducible rename PartMark => pm9); (with_reducible refine Mine.add_nat ?_)) | ((with_reducible show wpAny _ _ (binaryOp Operator.Add (Value.ref _) (Value.ref _)) _ _ _); (with_reducible rename Mark => mk9); k_dflt (refine' Mine.add_news ?zqF ?zqN ?zqm1 ?zqm2 ?zqhz ?_; (case zqF => k_asm); (case zqN => k_asm); (case zqm1 => k_mem); (case zqm2 => k_mem); (case zqhz => (simp only [List.length_append, List.length_replicate, List.length_map, List.length_cons, List.length_nil]; omega)); k_whole); intro _ _ _ _ l1; (try k_lt l1); (try (revert l1; intro _))) | ((with_reducible show wpAny _ _ (binaryOp Operator.Mult (Value.ref _) (Value.int (Nat.cast _) _)) _ _ _); (with_reducible rename Mark => mk9); k_dflt (refine' Mine.mul_news ?zqF ?zqN ?zqhm ?zqhk ?_; (case zqF => k_asm); (case zqN => k_asm); (case zqhm => k_mem); (case zqhk => omega); k_whole); intro _ _ _ _ l1; (try k_lt l1); (try (revert l1; intro _))) | ((with_reducible show wpAny _ _ (exec (Stmt.Assign _ (PySem.Expr.ListComp _ [⟨PySem.Expr.Tuple _ _ _, _, _, _⟩] _ _) _) _) _ _ _); k_dflt (refine Mine.Assign_zip (F₀ := by k_asm) (by rfl) (by with_unfolding_all rfl) (by with_unfolding_all rfl) (by decide) (by rfl) (by decide) (by rfl) (by rfl) (by decide) (by rfl) (by rfl) ?_)) | ((with_reducible show wpAny _ _ (exec (Stmt.For (PySem.Expr.Tuple _ _ _) _ _ _ _) _) _ _ _); k_dflt (refine Mine.For_pairs (by assumption) rfl rfl rfl ?_)) | ((with_reducible refine Mine.pow_nat (by omega) (by omega) ?_)) | ((with_reducible refine Mine.sub_nat (by omega) ?_)) | ((with_reducible show wpAny _ _ (call (Value.ref 247) _) _ _ _); k_dflt (refine' Mine.dots_spec ?zqB ?zqF ?zqX ?zqT ?zqhk ?zqhdp ?zqhu ?zqN ?zqhsp ?zqhyl ?zqhks ?_; (case zqB => k_asm); (case zqF => k_asm); (case zqX => k_asm); (case zqT => k_asm); (case zqhk => first | assumption | exact rfl); (case zqhdp => ((try simp only [depth_under_make, depth_under_kw, depth_in1, depth_deeper, depth_caller, units_in1, units_deeper, Around.mark_units, units_caller]); (try dsimp only [ktrTop]); omega)); (case zqhu => ((try simp only [depth_under_make, depth_under_kw, depth_in1, depth_deeper, depth_caller, units_in1, units_deeper, Around.mark_units, units_caller]); (try dsimp only [ktrTop]); omega)); (case zqN => assumption); (case zqhsp => assumption); (case zqhyl => assumption); (case zqhks => assumption); intro _ _ _ _ _)) | ((with_reducible show wpAny _ _ (call (Value.ref 240) _) _ _ _); k_dflt (refine' Mine.sent2_spec ?zqB ?zqF ?zqX ?zqT ?zqhk ?zqhdp ?zqhu ?zqG ?zqN ?zqp1 ?zqp2 ?zqo1 ?zqo2 ?zqhs ?zqhw ?zqhw4 ?zqh14 ?zqhe ?_; (case zqB => k_asm); (case zqF => k_asm); (case zqX => k_asm); (case zqT => k_asm); (case zqhk => first | assumption | exact rfl); (case zqhdp => ((try simp only [depth_under_make, depth_under_kw, depth_in1, depth_deeper, depth_caller, units_in1, units_deeper, Around.mark_units, units_caller]); (try dsimp only [ktrTop]); omega)); (case zqhu => ((try simp only [depth_under_make, depth_under_kw, depth_in1, depth_deeper, depth_caller, units_in1, units_deeper, Around.mark_units, units_caller]); (try dsimp only [ktrTop]); omega)); (case zqG => assumption); (case zqN => assumption); (case zqp1 => assumption); (case zqp2 => assumption); (case zqo1 => assumption); (case zqo2 => assumption); (case zqhs => assumption); (case zqhw => assumption); (case zqhw4 => assumption); (case zqh14 => assumption); (case zqhe => assumption); intro _ _ _ _ _ _ _ _ _ _ _ _ _ _ _ _)) | ((with_reducible show wpAny _ _ (exec (Stmt.For (PySem.Expr.Name _ _) _ _ _ _) _) _ _ _); k_dflt (refine Mine.For_led (by assumption) rfl rfl ?_)) | ((with_reducible show wpAny _ _ (subscriptTail _ _ (Value.ref _) (Value.int _ _)) _ _ _); k_dflt (refine' Mine.menu3 ?zqN ?zqhm ?zqh0 ?zqh3 ?_ ?zqhs; (case zqN => k_asm); (case zqhm => k_mem); (case zqh0 => l_fact); (case zqh3 => l_fact); (case zqhs => intro _; with_unfolding_all rfl)); intro _ _ _)) | (have ns9 : Mine.NoStop := trivial; walk1; (all_goals (try clear ns9))))) | walk1 | (dsimp only; walk1) | (leave1; walk_say "STEP leave1"; try dsimp only) | fail "no step")))
      refine Halt.un ?_
      refine zip_src (f := fun x y => x + y) rfl (by assumption) N (.tail _ (.tail _ (.head _))) (.head _) hv3 hei (by omega) ?_ ?_
      · intro g
        intro C oC m₂ h9 tk9 x y tx ty E' hC9 hx9 hy9 F9 N9
        ((repeat' (first | (k_unfold; (try dsimp only)) | (k_end; wrow_close) | ((with_reducible refine Mine.Stop.un ?_); (first | with_reducible (first | ((with_reducible refine Mine.pow_two (by omega) ?_)) | ((with_reducible rename PartMark => pm9); (with_reducible refine Mine.add_nat ?_)) | ((with_reducible show wpAny _ _ (binaryOp Operator.Add (Value.ref _) (Value.ref _)) _ _ _); (with_reducible rename Mark => mk9); k_dflt (refine' Mine.add_news ?zqF ?zqN ?zqm1 ?zqm2 ?zqhz ?_; (case zqF => k_asm); (case zqN => k_asm); (case zqm1 => k_mem); (case zqm2 => k_mem); (case zqhz => (simp only [List.length_append, List.length_replicate, List.length_map, List.length_cons, List.length_nil]; omega)); k_whole); intro _ _ _ _ l1; (try k_lt l1); (try (revert l1; intro _))) | ((with_reducible show wpAny _ _ (binaryOp Operator.Mult (Value.ref _) (Value.int (Nat.cast _) _)) _ _ _); (with_reducible rename Mark => mk9); k_dflt (refine' Mine.mul_news ?zqF ?zqN ?zqhm ?zqhk ?_; (case zqF => k_asm); (case zqN => k_asm); (case zqhm => k_mem); (case zqhk => omega); k_whole); intro _ _ _ _ l1; (try k_lt l1); (try (revert l1; intro _))) | ((with_reducible show wpAny _ _ (exec (Stmt.Assign _ (PySem.Expr.ListComp _ [⟨PySem.Expr.Tuple _ _ _, _, _, _⟩] _ _) _) _) _ _ _); k_dflt (refine Mine.Assign_zip (F₀ := by k_asm) (by rfl) (by with_unfolding_all rfl) (by with_unfolding_all rfl) (by decide) (by rfl) (by decide) (by rfl) (by rfl) (by decide) (by rfl) (by rfl) ?_)) | ((with_reducible show wpAny _ _ (exec (Stmt.For (PySem.Expr.Tuple _ _ _) _ _ _ _) _) _ _ _); k_dflt (refine Mine.For_pairs (by assumption) rfl rfl rfl ?_)) | ((with_reducible refine Mine.pow_nat (by omega) (by omega) ?_)) | ((with_reducible refine Mine.sub_nat (by omega) ?_)) | ((with_reducible show wpAny _ _ (call (Value.ref 247) _) _ _ _); k_dflt (refine' Mine.dots_spec ?zqB ?zqF ?zqX ?zqT ?zqhk ?zqhdp ?zqhu ?zqN ?zqhsp ?zqhyl ?zqhks ?_; (case zqB => k_asm); (case zqF => k_asm); (case zqX => k_asm); (case zqT => k_asm); (case zqhk => first | assumption | exact rfl); (case zqhdp => ((try simp only [depth_under_make, depth_under_kw, depth_in1, depth_deeper, depth_caller, units_in1, units_deeper, Around.mark_units, units_caller]); (try dsimp only [ktrTop]); omega)); (case zqhu => ((try simp only [depth_under_make, depth_under_kw, depth_in1, depth_deeper, depth_caller, units_in1, units_deeper, Around.mark_units, units_caller]); (try dsimp only [ktrTop]); omega)); (case zqN => assumption); (case zqhsp => assumption); (case zqhyl => assumption); (case zqhks => assumption); intro _ _ _ _ _)) | ((with_reducible show wpAny _ _ (call (Value.ref 240) _) _ _ _); k_dflt (refine' Mine.sent2_spec ?zqB ?zqF ?zqX ?zqT ?zqhk ?zqhdp ?zqhu ?zqG ?zqN ?zqp1 ?zqp2 ?zqo1 ?zqo2 ?zqhs ?zqhw ?zqhw4 ?zqh14 ?zqhe ?_; (case zqB => k_asm); (case zqF => k_asm); (case zqX => k_asm); (case zqT => k_asm); (case zqhk => first | assumption | exact rfl); (case zqhdp => ((try simp only [depth_under_make, depth_under_kw, depth_in1, depth_deeper, depth_caller, units_in1, units_deeper, Around.mark_units, units_caller]); (try dsimp only [ktrTop]); omega)); (case zqhu => ((try simp only [depth_under_make, depth_under_kw, depth_in1, depth_deeper, depth_caller, units_in1, units_deeper, Around.mark_units, units_caller]); (try dsimp only [ktrTop]); omega)); (case zqG => assumption); (case zqN => assumption); (case zqp1 => assumption); (case zqp2 => assumption); (case zqo1 => assumption); (case zqo2 => assumption); (case zqhs => assumption); (case zqhw => assumption); (case zqhw4 => assumption); (case zqh14 => assumption); (case zqhe => assumption); intro _ _ _ _ _ _ _ _ _ _ _ _ _ _ _ _)) | ((with_reducible show wpAny _ _ (exec (Stmt.For (PySem.Expr.Name _ _) _ _ _ _) _) _ _ _); k_dflt (refine Mine.For_led (by assumption) rfl rfl ?_)) | ((with_reducible show wpAny _ _ (subscriptTail _ _ (Value.ref _) (Value.int _ _)) _ _ _); k_dflt (refine' Mine.menu3 ?zqN ?zqhm ?zqh0 ?zqh3 ?_ ?zqhs; (case zqN => k_asm); (case zqhm => k_mem); (case zqh0 => l_fact); (case zqh3 => l_fact); (case zqhs => intro _; with_unfolding_all rfl)); intro _ _ _)) | (have ns9 : Mine.NoStop := trivial; walk1; (all_goals (try clear ns9))))) | walk1 | (dsimp only; walk1) | (leave1; walk_say "STEP leave1"; try dsimp only) | fail "no step")))
        exact EltEnd.mk _ _
      · intro g
        intro D h9 tk9 vs9 F9 N9 lt9 hv9
        ((repeat' (first | (k_unfold; (try dsimp only)) | (k_end; wrow_close) | ((with_reducible refine Mine.Stop.un ?_); (first | with_reducible (first | ((with_reducible refine Mine.pow_two (by omega) ?_)) | ((with_reducible rename PartMark => pm9); (with_reducible refine Mine.add_nat ?_)) | ((with_reducible show wpAny _ _ (binaryOp Operator.Add (Value.ref _) (Value.ref _)) _ _ _); (with_reducible rename Mark => mk9); k_dflt (refine' Mine.add_news ?zqF ?zqN ?zqm1 ?zqm2 ?zqhz ?_; (case zqF => k_asm); (case zqN => k_asm); (case zqm1 => k_mem); (case zqm2 => k_mem); (case zqhz => (simp only [List.length_append, List.length_replicate, List.length_map, List.length_cons, List.length_nil]; omega)); k_whole); intro _ _ _ _ l1; (try k_lt l1); (try (revert l1; intro _))) | ((with_reducible show wpAny _ _ (binaryOp Operator.Mult (Value.ref _) (Value.int (Nat.cast _) _)) _ _ _); (with_reducible rename Mark => mk9); k_dflt (refine' Mine.mul_news ?zqF ?zqN ?zqhm ?zqhk ?_; (case zqF => k_asm); (case zqN => k_asm); (case zqhm => k_mem); (case zqhk => omega); k_whole); intro _ _ _ _ l1; (try k_lt l1); (try (revert l1; intro _))) | ((with_reducible show wpAny _ _ (exec (Stmt.Assign _ (PySem.Expr.ListComp _ [⟨PySem.Expr.Tuple _ _ _, _, _, _⟩] _ _) _) _) _ _ _); k_dflt (refine Mine.Assign_zip (F₀ := by k_asm) (by rfl) (by with_unfolding_all rfl) (by with_unfolding_all rfl) (by decide) (by rfl) (by decide) (by rfl) (by rfl) (by decide) (by rfl) (by rfl) ?_)) | ((with_reducible show wpAny _ _ (exec (Stmt.For (PySem.Expr.Tuple _ _ _) _ _ _ _) _) _ _ _); k_dflt (refine Mine.For_pairs (by assumption) rfl rfl rfl ?_)) | ((with_reducible refine Mine.pow_nat (by omega) (by omega) ?_)) | ((with_reducible refine Mine.sub_nat (by omega) ?_)) | ((with_reducible show wpAny _ _ (call (Value.ref 247) _) _ _ _); k_dflt (refine' Mine.dots_spec ?zqB ?zqF ?zqX ?zqT ?zqhk ?zqhdp ?zqhu ?zqN ?zqhsp ?zqhyl ?zqhks ?_; (case zqB => k_asm); (case zqF => k_asm); (case zqX => k_asm); (case zqT => k_asm); (case zqhk => first | assumption | exact rfl); (case zqhdp => ((try simp only [depth_under_make, depth_under_kw, depth_in1, depth_deeper, depth_caller, units_in1, units_deeper, Around.mark_units, units_caller]); (try dsimp only [ktrTop]); omega)); (case zqhu => ((try simp only [depth_under_make, depth_under_kw, depth_in1, depth_deeper, depth_caller, units_in1, units_deeper, Around.mark_units, units_caller]); (try dsimp only [ktrTop]); omega)); (case zqN => assumption); (case zqhsp => assumption); (case zqhyl => assumption); (case zqhks => assumption); intro _ _ _ _ _)) | ((with_reducible show wpAny _ _ (call (Value.ref 240) _) _ _ _); k_dflt (refine' Mine.sent2_spec ?zqB ?zqF ?zqX ?zqT ?zqhk ?zqhdp ?zqhu ?zqG ?zqN ?zqp1 ?zqp2 ?zqo1 ?zqo2 ?zqhs ?zqhw ?zqhw4 ?zqh14 ?zqhe ?_; (case zqB => k_asm); (case zqF => k_asm); (case zqX => k_asm); (case zqT => k_asm); (case zqhk => first | assumption | exact rfl); (case zqhdp => ((try simp only [depth_under_make, depth_under_kw, depth_in1, depth_deeper, depth_caller, units_in1, units_deeper, Around.mark_units, units_caller]); (try dsimp only [ktrTop]); omega)); (case zqhu => ((try simp only [depth_under_make, depth_under_kw, depth_in1, depth_deeper, depth_caller, units_in1, units_deeper, Around.mark_units, units_caller]); (try dsimp only [ktrTop]); omega)); (case zqG => assumption); (case zqN => assumption); (case zqp1 => assumption); (case zqp2 => assumption); (case zqo1 => assumption); (case zqo2 => assumption); (case zqhs => assumption); (case zqhw => assumption); (case zqhw4 => assumption); (case zqh14 => assumption); (case zqhe => assumption); intro _ _ _ _ _ _ _ _ _ _ _ _ _ _ _ _)) | ((with_reducible show wpAny _ _ (exec (Stmt.For (PySem.Expr.Name _ _) _ _ _ _) _) _ _ _); k_dflt (refine Mine.For_led (by assumption) rfl rfl ?_)) | ((with_reducible show wpAny _ _ (subscriptTail _ _ (Value.ref _) (Value.int _ _)) _ _ _); k_dflt (refine' Mine.menu3 ?zqN ?zqhm ?zqh0 ?zqh3 ?_ ?zqhs; (case zqN => k_asm); (case zqhm => k_mem); (case zqh0 => l_fact); (case zqh3 => l_fact); (case zqhs => intro _; with_unfolding_all rfl)); intro _ _ _)) | (have ns9 : Mine.NoStop := trivial; walk1; (all_goals (try clear ns9))))) | walk1 | (dsimp only; walk1) | (leave1; walk_say "STEP leave1"; try dsimp only) | fail "no step")))
        have hDI : D ≠ I3 := (Nat.ne_of_lt (lt9 (I3, io3) (.tail _ (.head _)))).symm
        refine PostL.nxt ⟨_, (D, listN vs9 _) :: (Ad, listN va na) :: (174, tabObj ps1) :: (181, tabObj ps2) :: (LL + 1, o1) :: (LL + 1 + 1, o2) :: (LL + 1 + 1 + 1, o3) :: tail, by assumption, by (refine Mine.news_sub (by assumption) ?_; repeat (first | exact Mine.subs_refl | exact Mine.subs_nil | (refine Mine.subs_cons ?_ ?_; (focus k_mem)) | refine Mine.subs_skip ?_)), sep_cons hDI (fun p hp => off3 p (.tail _ hp)), fun p hp => .tail _ hp, ?_⟩
        refine ⟨_, _, D, _, vs9, lmap_of rfl rfl rfl (fun y h1 h2 h3 h4 h5 h6 h7 h8 h9 h10 h11 h12 h13 h14 h15 => by (repeat with_reducible refine (if_neg (by assumption)).trans ?_); exact lmap_else h1 h2 h3 h4 h5 h6 h7 h8 h9 h10 h11 h12 h13 h14 h15), rfl, ?_, zip_length hv9 (by rw [← hv3.length, hvl]) (by rw [hok.len]; exact Nat.le_refl _), G4, os4⟩
        rw [foundAtP_succ (e := (e.want, e.ns)) (by rw [List.getElem?_map, he]; rfl)]
        exact hv9
    · intro m3 news3 s4 R3 kk3 F N
      replace F : Fr gB LL _ _ := F
      replace N : News gB LL _ _ := N
      clear F4 N4 hvf eA
      obtain ⟨b7', b8', S3, n3, vs3, rfl, rfl, hv3, hvl, G4, os4⟩ := R3

      rw [show (refsOf es).length = (tabOf es).length by simp, htab, foundAtP_all] at hv3
      have hal : va.length = bound + 1 := by rw [hva.length]; simp
      have pm : PartMark := trivial
      ((repeat' (first | (k_unfold; (try dsimp only)) | (k_end; wrow_close) | ((with_reducible refine Mine.Stop.un ?_); (first | with_reducible (first | ((with_reducible refine Mine.pow_two (by omega) ?_)) | ((with_reducible rename PartMark => pm9); (with_reducible refine Mine.add_nat ?_)) | ((with_reducible show wpAny _ _ (binaryOp Operator.Add (Value.ref _) (Value.ref _)) _ _ _); (with_reducible rename Mark => mk9); k_dflt (refine' Mine.add_news ?zqF ?zqN ?zqm1 ?zqm2 ?zqhz ?_; (case zqF => k_asm); (case zqN => k_asm); (case zqm1 => k_mem); (case zqm2 => k_mem); (case zqhz => (simp only [List.length_append, List.length_replicate, List.length_map, List.length_cons, List.length_nil]; omega)); k_whole); intro _ _ _ _ l1; (try k_lt l1); (try (revert l1; intro _))) | ((with_reducible show wpAny _ _ (binaryOp Operator.Mult (Value.ref _) (Value.int (Nat.cast _) _)) _ _ _); (with_reducible rename Mark => mk9); k_dflt (refine' Mine.mul_news ?zqF ?zqN ?zqhm ?zqhk ?_; (case zqF => k_asm); (case zqN => k_asm); (case zqhm => k_mem); (case zqhk => omega); k_whole); intro _ _ _ _ l1; (try k_lt l1); (try (revert l1; intro _))) | ((with_reducible show wpAny _ _ (exec (Stmt.Assign _ (PySem.Expr.ListComp _ [⟨PySem.Expr.Tuple _ _ _, _, _, _⟩] _ _) _) _) _ _ _); k_dflt (refine Mine.Assign_zip (F₀ := by k_asm) (by rfl) (by with_unfolding_all rfl) (by with_unfolding_all rfl) (by decide) (by rfl) (by decide) (by rfl) (by rfl) (by decide) (by rfl) (by rfl) ?_)) | ((with_reducible show wpAny _ _ (exec (Stmt.For (PySem.Expr.Tuple _ _ _) _ _ _ _) _) _ _ _); k_dflt (refine Mine.For_pairs (by assumption) rfl rfl rfl ?_)) | ((with_reducible refine Mine.pow_nat (by omega) (by omega) ?_)) | ((with_reducible refine Mine.sub_nat (by omega) ?_)) | ((with_reducible show wpAny _ _ (call (Value.ref 247) _) _ _ _); k_dflt (refine' Mine.dots_spec ?zqB ?zqF ?zqX ?zqT ?zqhk ?zqhdp ?zqhu ?zqN ?zqhsp ?zqhyl ?zqhks ?_; (case zqB => k_asm); (case zqF => k_asm); (case zqX => k_asm); (case zqT => k_asm); (case zqhk => first | assumption | exact rfl); (case zqhdp => ((try simp only [depth_under_make, depth_under_kw, depth_in1, depth_deeper, depth_caller, units_in1, units_deeper, Around.mark_units, units_caller]); (try dsimp only [ktrTop]); omega)); (case zqhu => ((try simp only [depth_under_make, depth_under_kw, depth_in1, depth_deeper, depth_caller, units_in1, units_deeper, Around.mark_units, units_caller]); (try dsimp only [ktrTop]); omega)); (case zqN => assumption); (case zqhsp => assumption); (case zqhyl => assumption); (case zqhks => assumption); intro _ _ _ _ _)) | ((with_reducible show wpAny _ _ (call (Value.ref 240) _) _ _ _); k_dflt (refine' Mine.sent2_spec ?zqB ?zqF ?zqX ?zqT ?zqhk ?zqhdp ?zqhu ?zqG ?zqN ?zqp1 ?zqp2 ?zqo1 ?zqo2 ?zqhs ?zqhw ?zqhw4 ?zqh14 ?zqhe ?_; (case zqB => k_asm); (case zqF => k_asm); (case zqX => k_asm); (case zqT => k_asm); (case zqhk => first | assumption | exact rfl); (case zqhdp => ((try simp only [depth_under_make, depth_under_kw, depth_in1, depth_deeper, depth_caller, units_in1, units_deeper, Around.mark_units, units_caller]); (try dsimp only [ktrTop]); omega)); (case zqhu => ((try simp only [depth_under_make, depth_under_kw, depth_in1, depth_deeper, depth_caller, units_in1, units_deeper, Around.mark_units, units_caller]); (try dsimp only [ktrTop]); omega)); (case zqG => assumption); (case zqN => assumption); (case zqp1 => assumption); (case zqp2 => assumption); (case zqo1 => assumption); (case zqo2 => assumption); (case zqhs => assumption); (case zqhw => assumption); (case zqhw4 => assumption); (case zqh14 => assumption); (case zqhe => assumption); intro _ _ _ _ _ _ _ _ _ _ _ _ _ _ _ _)) | ((with_reducible show wpAny _ _ (exec (Stmt.For (PySem.Expr.Name _ _) _ _ _ _) _) _ _ _); k_dflt (refine Mine.For_led (by assumption) rfl rfl ?_)) | ((with_reducible show wpAny _ _ (subscriptTail _ _ (Value.ref _) (Value.int _ _)) _ _ _); k_dflt (refine' Mine.menu3 ?zqN ?zqhm ?zqh0 ?zqh3 ?_ ?zqhs; (case zqN => k_asm); (case zqhm => k_mem); (case zqh0 => l_fact); (case zqh3 => l_fact); (case zqhs => intro _; with_unfolding_all rfl)); intro _ _ _)) | (have ns9 : Mine.NoStop := trivial; walk1; (all_goals (try clear ns9))))) | walk1 | (dsimp only; walk1) | (leave1; walk_say "STEP leave1"; try dsimp only) | fail "no step")))
      rename_i _ ez hbz hq _ _ _ _ hr8 F8 N8 x8
      clear x8
      have hv3 : IntsAre vs3 (foundN opsZ rows bound u v 0) := by assumption
      refine with_map F8 (fun mB hmB F7 => ?_)
      have eB := lmap_of (m1 := m0) (m2 := mB) (rows := rows) (bound := bound) (ends := ends) (tr := tr) (tb := tb) (te := te) (by rw [hmB]; rfl) (by rw [hmB]; rfl) (by rw [hmB]; rfl) (fun y h1 h2 h3 h4 h5 h6 h7 h8 h9 h10 h11 h12 h13 h14 h15 => by rw [hmB]; (repeat with_reducible refine (if_neg (by assumption)).trans ?_); exact lmap_else h1 h2 h3 h4 h5 h6 h7 h8 h9 h10 h11 h12 h13 h14 h15)
      have et : mB (Str.ofString "table") = some (.ref T) := by rw [hmB]; rfl
      have ef : mB (Str.ofString "found") = some (.ref S3) := by rw [hmB]; rfl
      have ea : mB (Str.ofString "asked") = some (.ref Ad) := by rw [hmB]; rfl
      rw [et, ef, ea] at eB
      clear hmB F8 et ef ea
      generalize mB (Str.ofString "place") = c1 at eB
      generalize mB (Str.ofString "longer") = c2 at eB
      generalize mB (Str.ofString "size") = c3 at eB
      generalize mB (Str.ofString "least") = c4 at eB
      generalize mB (Str.ofString "gain") = c5 at eB
      generalize mB (Str.ofString "sums") = c6 at eB
      generalize mB (Str.ofString "wanted") = c7 at eB
      generalize mB (Str.ofString "old") = c8 at eB
      generalize mB (Str.ofString "part") = c12 at eB
      have N7 : News gB LL hq ((S3, listN vs3 n3) :: (Ad, listN va na) :: (174, tabObj ps1) :: (181, tabObj ps2) :: (LL + 1, o1) :: (LL + 1 + 1, o2) :: (LL + 1 + 1 + 1, o3) :: tail) := N8
      clear N8
      have hu1 : Builtin.Int.intBits u ≤ 64 := bits64 (Nat.lt_of_le_of_lt hub (by decide))
      have hv1 : Builtin.Int.intBits v ≤ 64 := bits64 (Nat.lt_of_le_of_lt hvb (by decide))
      have hu2 : Builtin.Int.intBits (u ^ 2) ≤ 64 := worth_bits1 hub (by omega)
      have huv : Builtin.Int.intBits (u * v) ≤ 64 := bits64 (by rw [Int.natAbs_mul]; exact Nat.lt_of_le_of_lt (Nat.mul_le_mul hub hvb) (by decide))
      refine iter_rangeL (n := rows) (Rr := PartInv (fun x y z => lmap m0 rows bound ends tr tb te c1 c2 c3 c4 c5 c6 c7 c8 (some (.ref T)) x y z) ((174, tabObj ps1) :: (181, tabObj ps2) :: (LL + 1, o1) :: (LL + 1 + 1, o2) :: (LL + 1 + 1 + 1, o3) :: tail) s₁.os (foundN opsZ rows bound u v) (askedN opsZ bound u v) (bound + 1)) (kl := []) rfl hr8 ?hsm3 ?hsz3 F7 N7 ?hk3 ?h03 ?hRs3 ?turn3 ?done3
      case hsm3 => exact r1_small (by omega)
      case hsz3 => exact r1_size
      case hk3 => intro p hp; cases hp
      case h03 =>
        intro h
        exact ⟨_, S3, Ad, n3, na, vs3, va, eB, rfl, hv3, hva, hvl, hal, G4, os4⟩
      case hRs3 =>
        rintro i m9 n9 s9 h9 tk9 R
        exact R
      case turn3 =>
        clear hr8 F7 N7 eB hv3 hva hvl hal G4 os4
        intro I i t io m4 news4 s5 hi R off kk lt F N
        replace F : Fr gB LL _ _ := F
        replace N : News gB LL _ _ := N
        obtain ⟨a9, Fd, Ad, nf, na, vf, va, rfl, rfl, hvf, hva, hvl, hal, G5, os5⟩ := R
        rw [show (1 + (i : Int) * 1) = ((i + 1 : Nat) : Int) by omega] at F
        try dsimp only at F
        have hfl : (foundN opsZ rows bound u v i).length = bound + 1 := by rw [← hvf.length, hvl]
        have hal2 : (askedN opsZ bound u v i).length = bound + 1 := by rw [← hva.length, hal]
        show wpAny _ _ _ _ _ _
        k_fold
        ((repeat' (first | (k_unfold; (try dsimp only)) | (k_end; wrow_close) | ((with_reducible refine Mine.Stop.un ?_); (first | with_reducible (first | ((with_reducible refine Mine.pow_two (by omega) ?_)) | ((with_reducible rename PartMark => pm9); (with_reducible refine Mine.add_nat ?_)) | ((with_reducible show wpAny _ _ (binaryOp Operator.Add (Value.ref _) (Value.ref _)) _ _ _); (with_reducible rename Mark => mk9); k_dflt (refine' Mine.add_news ?zqF ?zqN ?zqm1 ?zqm2 ?zqhz ?_; (case zqF => k_asm); (case zqN => k_asm); (case zqm1 => k_mem); (case zqm2 => k_mem); (case zqhz => (simp only [List.length_append, List.length_replicate, List.length_map, List.length_cons, List.length_nil]; omega)); k_whole); intro _ _ _ _ l1; (try k_lt l1); (try (revert l1; intro _))) | ((with_reducible show wpAny _ _ (binaryOp Operator.Mult (Value.ref _) (Value.int (Nat.cast _) _)) _ _ _); (with_reducible rename Mark => mk9); k_dflt (refine' Mine.mul_news ?zqF ?zqN ?zqhm ?zqhk ?_; (case zqF => k_asm); (case zqN => k_asm); (case zqhm => k_mem); (case zqhk => omega); k_whole); intro _ _ _ _ l1; (try k_lt l1); (try (revert l1; intro _))) | ((with_reducible show wpAny _ _ (exec (Stmt.Assign _ (PySem.Expr.ListComp _ [⟨PySem.Expr.Tuple _ _ _, _, _, _⟩] _ _) _) _) _ _ _); k_dflt (refine Mine.Assign_zip (F₀ := by k_asm) (by rfl) (by with_unfolding_all rfl) (by with_unfolding_all rfl) (by decide) (by rfl) (by decide) (by rfl) (by rfl) (by decide) (by rfl) (by rfl) ?_)) | ((with_reducible show wpAny _ _ (exec (Stmt.For (PySem.Expr.Tuple _ _ _) _ _ _ _) _) _ _ _); k_dflt (refine Mine.For_pairs (by assumption) rfl rfl rfl ?_)) | ((with_reducible refine Mine.pow_nat (by omega) (by omega) ?_)) | ((with_reducible refine Mine.sub_nat (by omega) ?_)) | ((with_reducible show wpAny _ _ (call (Value.ref 247) _) _ _ _); k_dflt (refine' Mine.dots_spec ?zqB ?zqF ?zqX ?zqT ?zqhk ?zqhdp ?zqhu ?zqN ?zqhsp ?zqhyl ?zqhks ?_; (case zqB => k_asm); (case zqF => k_asm); (case zqX => k_asm); (case zqT => k_asm); (case zqhk => first | assumption | exact rfl); (case zqhdp => ((try simp only [depth_under_make, depth_under_kw, depth_in1, depth_deeper, depth_caller, units_in1, units_deeper, Around.mark_units, units_caller]); (try dsimp only [ktrTop]); omega)); (case zqhu => ((try simp only [depth_under_make, depth_under_kw, depth_in1, depth_deeper, depth_caller, units_in1, units_deeper, Around.mark_units, units_caller]); (try dsimp only [ktrTop]); omega)); (case zqN => assumption); (case zqhsp => assumption); (case zqhyl => assumption); (case zqhks => assumption); intro _ _ _ _ _)) | ((with_reducible show wpAny _ _ (call (Value.ref 240) _) _ _ _); k_dflt (refine' Mine.sent2_spec ?zqB ?zqF ?zqX ?zqT ?zqhk ?zqhdp ?zqhu ?zqG ?zqN ?zqp1 ?zqp2 ?zqo1 ?zqo2 ?zqhs ?zqhw ?zqhw4 ?zqh14 ?zqhe ?_; (case zqB => k_asm); (case zqF => k_asm); (case zqX => k_asm); (case zqT => k_asm); (case zqhk => first | assumption | exact rfl); (case zqhdp => ((try simp only [depth_under_make, depth_under_kw, depth_in1, depth_deeper, depth_caller, units_in1, units_deeper, Around.mark_units, units_caller]); (try dsimp only [ktrTop]); omega)); (case zqhu => ((try simp only [depth_under_make, depth_under_kw, depth_in1, depth_deeper, depth_caller, units_in1, units_deeper, Around.mark_units, units_caller]); (try dsimp only [ktrTop]); omega)); (case zqG => assumption); (case zqN => assumption); (case zqp1 => assumption); (case zqp2 => assumption); (case zqo1 => assumption); (case zqo2 => assumption); (case zqhs => assumption); (case zqhw => assumption); (case zqhw4 => assumption); (case zqh14 => assumption); (case zqhe => assumption); intro _ _ _ _ _ _ _ _ _ _ _ _ _ _ _ _)) | ((with_reducible show wpAny _ _ (exec (Stmt.For (PySem.Expr.Name _ _) _ _ _ _) _) _ _ _); k_dflt (refine Mine.For_led (by assumption) rfl rfl ?_)) | ((with_reducible show wpAny _ _ (subscriptTail _ _ (Value.ref _) (Value.int _ _)) _ _ _); k_dflt (refine' Mine.menu3 ?zqN ?zqhm ?zqh0 ?zqh3 ?_ ?zqhs; (case zqN => k_asm); (case zqhm => k_mem); (case zqh0 => l_fact); (case zqh3 => l_fact); (case zqhs => intro _; with_unfolding_all rfl)); intro _ _ _)) | (have ns9 : Mine.NoStop := trivial; walk1; (all_goals (try clear ns9))))) | walk1 | (dsimp only; walk1) | (leave1; walk_say "STEP leave1"; try dsimp only) | fail "no step")))
        rename_i lx _ Fx Nx l5 DA _ Fy Ny l6 D2 hq6 FC NC l7
        clear Fx Nx l5 Fy Ny l6
        obtain ⟨tz, Nz⟩ : ∃ tz, News gB LL hq6 ((LL + 1, o1) :: (D2, listN (List.replicate (rows + (i + 1)) (Value.int 0 tz) ++ vf) 0) :: (Fd, listN vf nf) :: (Ad, listN va na) :: (I, io) :: (174, tabObj ps1) :: (181, tabObj ps2) :: (LL + 1, o1) :: (LL + 1 + 1, o2) :: (LL + 1 + 1 + 1, o3) :: tail) := ⟨_, by (refine Mine.news_sub (by assumption) ?_; repeat (first | exact Mine.subs_refl | exact Mine.subs_nil | (refine Mine.subs_cons ?_ ?_; (focus k_mem)) | refine Mine.subs_skip ?_))⟩
        clear NC l7
        refine Halt.un ?_
        refine zip_src (f := fun x y => x - u ^ 2 * y) rfl FC Nz (.tail _ (.tail _ (.head _))) (.tail _ (.head _)) hvf ((rep_zero _).append hvf) (by omega) ?_ ?_
        · intro g
          intro C oC m₂ h9 tk9 x y tx ty E' hC9 hx9 hy9 F9 N9
          ((repeat' (first | (k_unfold; (try dsimp only)) | (k_end; wrow_close) | ((with_reducible refine Mine.Stop.un ?_); (first | with_reducible (first | ((with_reducible refine Mine.pow_two (by omega) ?_)) | ((with_reducible rename PartMark => pm9); (with_reducible refine Mine.add_nat ?_)) | ((with_reducible show wpAny _ _ (binaryOp Operator.Add (Value.ref _) (Value.ref _)) _ _ _); (with_reducible rename Mark => mk9); k_dflt (refine' Mine.add_news ?zqF ?zqN ?zqm1 ?zqm2 ?zqhz ?_; (case zqF => k_asm); (case zqN => k_asm); (case zqm1 => k_mem); (case zqm2 => k_mem); (case zqhz => (simp only [List.length_append, List.length_replicate, List.length_map, List.length_cons, List.length_nil]; omega)); k_whole); intro _ _ _ _ l1; (try k_lt l1); (try (revert l1; intro _))) | ((with_reducible show wpAny _ _ (binaryOp Operator.Mult (Value.ref _) (Value.int (Nat.cast _) _)) _ _ _); (with_reducible rename Mark => mk9); k_dflt (refine' Mine.mul_news ?zqF ?zqN ?zqhm ?zqhk ?_; (case zqF => k_asm); (case zqN => k_asm); (case zqhm => k_mem); (case zqhk => omega); k_whole); intro _ _ _ _ l1; (try k_lt l1); (try (revert l1; intro _))) | ((with_reducible show wpAny _ _ (exec (Stmt.Assign _ (PySem.Expr.ListComp _ [⟨PySem.Expr.Tuple _ _ _, _, _, _⟩] _ _) _) _) _ _ _); k_dflt (refine Mine.Assign_zip (F₀ := by k_asm) (by rfl) (by with_unfolding_all rfl) (by with_unfolding_all rfl) (by decide) (by rfl) (by decide) (by rfl) (by rfl) (by decide) (by rfl) (by rfl) ?_)) | ((with_reducible show wpAny _ _ (exec (Stmt.For (PySem.Expr.Tuple _ _ _) _ _ _ _) _) _ _ _); k_dflt (refine Mine.For_pairs (by assumption) rfl rfl rfl ?_)) | ((with_reducible refine Mine.pow_nat (by omega) (by omega) ?_)) | ((with_reducible refine Mine.sub_nat (by omega) ?_)) | ((with_reducible show wpAny _ _ (call (Value.ref 247) _) _ _ _); k_dflt (refine' Mine.dots_spec ?zqB ?zqF ?zqX ?zqT ?zqhk ?zqhdp ?zqhu ?zqN ?zqhsp ?zqhyl ?zqhks ?_; (case zqB => k_asm); (case zqF => k_asm); (case zqX => k_asm); (case zqT => k_asm); (case zqhk => first | assumption | exact rfl); (case zqhdp => ((try simp only [depth_under_make, depth_under_kw, depth_in1, depth_deeper, depth_caller, units_in1, units_deeper, Around.mark_units, units_caller]); (try dsimp only [ktrTop]); omega)); (case zqhu => ((try simp only [depth_under_make, depth_under_kw, depth_in1, depth_deeper, depth_caller, units_in1, units_deeper, Around.mark_units, units_caller]); (try dsimp only [ktrTop]); omega)); (case zqN => assumption); (case zqhsp => assumption); (case zqhyl => assumption); (case zqhks => assumption); intro _ _ _ _ _)) | ((with_reducible show wpAny _ _ (call (Value.ref 240) _) _ _ _); k_dflt (refine' Mine.sent2_spec ?zqB ?zqF ?zqX ?zqT ?zqhk ?zqhdp ?zqhu ?zqG ?zqN ?zqp1 ?zqp2 ?zqo1 ?zqo2 ?zqhs ?zqhw ?zqhw4 ?zqh14 ?zqhe ?_; (case zqB => k_asm); (case zqF => k_asm); (case zqX => k_asm); (case zqT => k_asm); (case zqhk => first | assumption | exact rfl); (case zqhdp => ((try simp only [depth_under_make, depth_under_kw, depth_in1, depth_deeper, depth_caller, units_in1, units_deeper, Around.mark_units, units_caller]); (try dsimp only [ktrTop]); omega)); (case zqhu => ((try simp only [depth_under_make, depth_under_kw, depth_in1, depth_deeper, depth_caller, units_in1, units_deeper, Around.mark_units, units_caller]); (try dsimp only [ktrTop]); omega)); (case zqG => assumption); (case zqN => assumption); (case zqp1 => assumption); (case zqp2 => assumption); (case zqo1 => assumption); (case zqo2 => assumption); (case zqhs => assumption); (case zqhw => assumption); (case zqhw4 => assumption); (case zqh14 => assumption); (case zqhe => assumption); intro _ _ _ _ _ _ _ _ _ _ _ _ _ _ _ _)) | ((with_reducible show wpAny _ _ (exec (Stmt.For (PySem.Expr.Name _ _) _ _ _ _) _) _ _ _); k_dflt (refine Mine.For_led (by assumption) rfl rfl ?_)) | ((with_reducible show wpAny _ _ (subscriptTail _ _ (Value.ref _) (Value.int _ _)) _ _ _); k_dflt (refine' Mine.menu3 ?zqN ?zqhm ?zqh0 ?zqh3 ?_ ?zqhs; (case zqN => k_asm); (case zqhm => k_mem); (case zqh0 => l_fact); (case zqh3 => l_fact); (case zqhs => intro _; with_unfolding_all rfl)); intro _ _ _)) | (have ns9 : Mine.NoStop := trivial; walk1; (all_goals (try clear ns9))))) | walk1 | (dsimp only; walk1) | (leave1; walk_say "STEP leave1"; try dsimp only) | fail "no step")))
          exact EltEnd.mk _ _
        · intro g
          intro D h9 tk9 vs9 F9 N9 lt9 hv9
          have hD9 : vs9.length = bound + 1 := zip_length hv9 hfl (by rw [List.length_append, hfl]; omega)
          have hDI : D ≠ I := (Nat.ne_of_lt (lt9 (I, io) (.tail _ (.tail _ (.tail _ (.tail _ (.head _))))))).symm
          clear FC Nz
          ((repeat' (first | (k_unfold; (try dsimp only)) | (k_end; wrow_close) | ((with_reducible refine Mine.Stop.un ?_); (first | with_reducible (first | ((with_reducible refine Mine.pow_two (by omega) ?_)) | ((with_reducible rename PartMark => pm9); (with_reducible refine Mine.add_nat ?_)) | ((with_reducible show wpAny _ _ (binaryOp Operator.Add (Value.ref _) (Value.ref _)) _ _ _); (with_reducible rename Mark => mk9); k_dflt (refine' Mine.add_news ?zqF ?zqN ?zqm1 ?zqm2 ?zqhz ?_; (case zqF => k_asm); (case zqN => k_asm); (case zqm1 => k_mem); (case zqm2 => k_mem); (case zqhz => (simp only [List.length_append, List.length_replicate, List.length_map, List.length_cons, List.length_nil]; omega)); k_whole); intro _ _ _ _ l1; (try k_lt l1); (try (revert l1; intro _))) | ((with_reducible show wpAny _ _ (binaryOp Operator.Mult (Value.ref _) (Value.int (Nat.cast _) _)) _ _ _); (with_reducible rename Mark => mk9); k_dflt (refine' Mine.mul_news ?zqF ?zqN ?zqhm ?zqhk ?_; (case zqF => k_asm); (case zqN => k_asm); (case zqhm => k_mem); (case zqhk => omega); k_whole); intro _ _ _ _ l1; (try k_lt l1); (try (revert l1; intro _))) | ((with_reducible show wpAny _ _ (exec (Stmt.Assign _ (PySem.Expr.ListComp _ [⟨PySem.Expr.Tuple _ _ _, _, _, _⟩] _ _) _) _) _ _ _); k_dflt (refine Mine.Assign_zip (F₀ := by k_asm) (by rfl) (by with_unfolding_all rfl) (by with_unfolding_all rfl) (by decide) (by rfl) (by decide) (by rfl) (by rfl) (by decide) (by rfl) (by rfl) ?_)) | ((with_reducible show wpAny _ _ (exec (Stmt.For (PySem.Expr.Tuple _ _ _) _ _ _ _) _) _ _ _); k_dflt (refine Mine.For_pairs (by assumption) rfl rfl rfl ?_)) | ((with_reducible refine Mine.pow_nat (by omega) (by omega) ?_)) | ((with_reducible refine Mine.sub_nat (by omega) ?_)) | ((with_reducible show wpAny _ _ (call (Value.ref 247) _) _ _ _); k_dflt (refine' Mine.dots_spec ?zqB ?zqF ?zqX ?zqT ?zqhk ?zqhdp ?zqhu ?zqN ?zqhsp ?zqhyl ?zqhks ?_; (case zqB => k_asm); (case zqF => k_asm); (case zqX => k_asm); (case zqT => k_asm); (case zqhk => first | assumption | exact rfl); (case zqhdp => ((try simp only [depth_under_make, depth_under_kw, depth_in1, depth_deeper, depth_caller, units_in1, units_deeper, Around.mark_units, units_caller]); (try dsimp only [ktrTop]); omega)); (case zqhu => ((try simp only [depth_under_make, depth_under_kw, depth_in1, depth_deeper, depth_caller, units_in1, units_deeper, Around.mark_units, units_caller]); (try dsimp only [ktrTop]); omega)); (case zqN => assumption); (case zqhsp => assumption); (case zqhyl => assumption); (case zqhks => assumption); intro _ _ _ _ _)) | ((with_reducible show wpAny _ _ (call (Value.ref 240) _) _ _ _); k_dflt (refine' Mine.sent2_spec ?zqB ?zqF ?zqX ?zqT ?zqhk ?zqhdp ?zqhu ?zqG ?zqN ?zqp1 ?zqp2 ?zqo1 ?zqo2 ?zqhs ?zqhw ?zqhw4 ?zqh14 ?zqhe ?_; (case zqB => k_asm); (case zqF => k_asm); (case zqX => k_asm); (case zqT => k_asm); (case zqhk => first | assumption | exact rfl); (case zqhdp => ((try simp only [depth_under_make, depth_under_kw, depth_in1, depth_deeper, depth_caller, units_in1, units_deeper, Around.mark_units, units_caller]); (try dsimp only [ktrTop]); omega)); (case zqhu => ((try simp only [depth_under_make, depth_under_kw, depth_in1, depth_deeper, depth_caller, units_in1, units_deeper, Around.mark_units, units_caller]); (try dsimp only [ktrTop]); omega)); (case zqG => assumption); (case zqN => assumption); (case zqp1 => assumption); (case zqp2 => assumption); (case zqo1 => assumption); (case zqo2 => assumption); (case zqhs => assumption); (case zqhw => assumption); (case zqhw4 => assumption); (case zqh14 => assumption); (case zqhe => assumption); intro _ _ _ _ _ _ _ _ _ _ _ _ _ _ _ _)) | ((with_reducible show wpAny _ _ (exec (Stmt.For (PySem.Expr.Name _ _) _ _ _ _) _) _ _ _); k_dflt (refine Mine.For_led (by assumption) rfl rfl ?_)) | ((with_reducible show wpAny _ _ (subscriptTail _ _ (Value.ref _) (Value.int _ _)) _ _ _); k_dflt (refine' Mine.menu3 ?zqN ?zqhm ?zqh0 ?zqh3 ?_ ?zqhs; (case zqN => k_asm); (case zqhm => k_mem); (case zqh0 => l_fact); (case zqh3 => l_fact); (case zqhs => intro _; with_unfolding_all rfl)); intro _ _ _)) | (have ns9 : Mine.NoStop := trivial; walk1; (all_goals (try clear ns9))))) | walk1 | (dsimp only; walk1) | (leave1; walk_say "STEP leave1"; try dsimp only) | fail "no step")))
          rename_i lx2 _ Fx Nx l5 DA2 _ Fy Ny l6 D3 hq7 FC NC l7
          clear Fx Nx l5 Fy Ny l6
          obtain ⟨tz3, n9, Nz⟩ : ∃ tz3 n9, News gB LL hq7 ((LL + 1, o1) :: (LL + 1 + 1, o2) :: (D3, listN (List.replicate (i + 1) (Value.int 0 tz3) ++ va) 0) :: (D, listN vs9 n9) :: (Ad, listN va na) :: (I, io) :: (174, tabObj ps1) :: (181, tabObj ps2) :: (LL + 1, o1) :: (LL + 1 + 1, o2) :: (LL + 1 + 1 + 1, o3) :: tail) := ⟨_, _, by (refine Mine.news_sub (by assumption) ?_; repeat (first | exact Mine.subs_refl | exact Mine.subs_nil | (refine Mine.subs_cons ?_ ?_; (focus k_mem)) | refine Mine.subs_skip ?_))⟩
          clear NC l7
          refine Halt.un ?_
          refine zip_src (f := fun x y => x + u * v * y) rfl FC Nz (.tail _ (.tail _ (.tail _ (.tail _ (.head _))))) (.tail _ (.tail _ (.head _))) hva ((rep_zero _).append hva) (by omega) ?_ ?_
          · intro g
            intro C oC m₂ h9 tk9 x y tx ty E' hC9 hx9 hy9 F9 N9
            ((repeat' (first | (k_unfold; (try dsimp only)) | (k_end; wrow_close) | ((with_reducible refine Mine.Stop.un ?_); (first | with_reducible (first | ((with_reducible refine Mine.pow_two (by omega) ?_)) | ((with_reducible rename PartMark => pm9); (with_reducible refine Mine.add_nat ?_)) | ((with_reducible show wpAny _ _ (binaryOp Operator.Add (Value.ref _) (Value.ref _)) _ _ _); (with_reducible rename Mark => mk9); k_dflt (refine' Mine.add_news ?zqF ?zqN ?zqm1 ?zqm2 ?zqhz ?_; (case zqF => k_asm); (case zqN => k_asm); (case zqm1 => k_mem); (case zqm2 => k_mem); (case zqhz => (simp only [List.length_append, List.length_replicate, List.length_map, List.length_cons, List.length_nil]; omega)); k_whole); intro _ _ _ _ l1; (try k_lt l1); (try (revert l1; intro _))) | ((with_reducible show wpAny _ _ (binaryOp Operator.Mult (Value.ref _) (Value.int (Nat.cast _) _)) _ _ _); (with_reducible rename Mark => mk9); k_dflt (refine' Mine.mul_news ?zqF ?zqN ?zqhm ?zqhk ?_; (case zqF => k_asm); (case zqN => k_asm); (case zqhm => k_mem); (case zqhk => omega); k_whole); intro _ _ _ _ l1; (try k_lt l1); (try (revert l1; intro _))) | ((with_reducible show wpAny _ _ (exec (Stmt.Assign _ (PySem.Expr.ListComp _ [⟨PySem.Expr.Tuple _ _ _, _, _, _⟩] _ _) _) _) _ _ _); k_dflt (refine Mine.Assign_zip (F₀ := by k_asm) (by rfl) (by with_unfolding_all rfl) (by with_unfolding_all rfl) (by decide) (by rfl) (by decide) (by rfl) (by rfl) (by decide) (by rfl) (by rfl) ?_)) | ((with_reducible show wpAny _ _ (exec (Stmt.For (PySem.Expr.Tuple _ _ _) _ _ _ _) _) _ _ _); k_dflt (refine Mine.For_pairs (by assumption) rfl rfl rfl ?_)) | ((with_reducible refine Mine.pow_nat (by omega) (by omega) ?_)) | ((with_reducible refine Mine.sub_nat (by omega) ?_)) | ((with_reducible show wpAny _ _ (call (Value.ref 247) _) _ _ _); k_dflt (refine' Mine.dots_spec ?zqB ?zqF ?zqX ?zqT ?zqhk ?zqhdp ?zqhu ?zqN ?zqhsp ?zqhyl ?zqhks ?_; (case zqB => k_asm); (case zqF => k_asm); (case zqX => k_asm); (case zqT => k_asm); (case zqhk => first | assumption | exact rfl); (case zqhdp => ((try simp only [depth_under_make, depth_under_kw, depth_in1, depth_deeper, depth_caller, units_in1, units_deeper, Around.mark_units, units_caller]); (try dsimp only [ktrTop]); omega)); (case zqhu => ((try simp only [depth_under_make, depth_under_kw, depth_in1, depth_deeper, depth_caller, units_in1, units_deeper, Around.mark_units, units_caller]); (try dsimp only [ktrTop]); omega)); (case zqN => assumption); (case zqhsp => assumption); (case zqhyl => assumption); (case zqhks => assumption); intro _ _ _ _ _)) | ((with_reducible show wpAny _ _ (call (Value.ref 240) _) _ _ _); k_dflt (refine' Mine.sent2_spec ?zqB ?zqF ?zqX ?zqT ?zqhk ?zqhdp ?zqhu ?zqG ?zqN ?zqp1 ?zqp2 ?zqo1 ?zqo2 ?zqhs ?zqhw ?zqhw4 ?zqh14 ?zqhe ?_; (case zqB => k_asm); (case zqF => k_asm); (case zqX => k_asm); (case zqT => k_asm); (case zqhk => first | assumption | exact rfl); (case zqhdp => ((try simp only [depth_under_make, depth_under_kw, depth_in1, depth_deeper, depth_caller, units_in1, units_deeper, Around.mark_units, units_caller]); (try dsimp only [ktrTop]); omega)); (case zqhu => ((try simp only [depth_under_make, depth_under_kw, depth_in1, depth_deeper, depth_caller, units_in1, units_deeper, Around.mark_units, units_caller]); (try dsimp only [ktrTop]); omega)); (case zqG => assumption); (case zqN => assumption); (case zqp1 => assumption); (case zqp2 => assumption); (case zqo1 => assumption); (case zqo2 => assumption); (case zqhs => assumption); (case zqhw => assumption); (case zqhw4 => assumption); (case zqh14 => assumption); (case zqhe => assumption); intro _ _ _ _ _ _ _ _ _ _ _ _ _ _ _ _)) | ((with_reducible show wpAny _ _ (exec (Stmt.For (PySem.Expr.Name _ _) _ _ _ _) _) _ _ _); k_dflt (refine Mine.For_led (by assumption) rfl rfl ?_)) | ((with_reducible show wpAny _ _ (subscriptTail _ _ (Value.ref _) (Value.int _ _)) _ _ _); k_dflt (refine' Mine.menu3 ?zqN ?zqhm ?zqh0 ?zqh3 ?_ ?zqhs; (case zqN => k_asm); (case zqhm => k_mem); (case zqh0 => l_fact); (case zqh3 => l_fact); (case zqhs => intro _; with_unfolding_all rfl)); intro _ _ _)) | (have ns9 : Mine.NoStop := trivial; walk1; (all_goals (try clear ns9))))) | walk1 | (dsimp only; walk1) | (leave1; walk_say "STEP leave1"; try dsimp only) | fail "no step")))
            exact EltEnd.mk _ _
          · intro g
            intro D4 h10 tk10 vs10 F10 N10 lt10 hv10
            have hDI4 : D4 ≠ I := (Nat.ne_of_lt (lt10 (I, io) (.tail _ (.tail _ (.tail _ (.tail _ (.tail _ (.head _)))))))).symm
            ((repeat' (first | (k_unfold; (try dsimp only)) | (k_end; wrow_close) | ((with_reducible refine Mine.Stop.un ?_); (first | with_reducible (first | ((with_reducible refine Mine.pow_two (by omega) ?_)) | ((with_reducible rename PartMark => pm9); (with_reducible refine Mine.add_nat ?_)) | ((with_reducible show wpAny _ _ (binaryOp Operator.Add (Value.ref _) (Value.ref _)) _ _ _); (with_reducible rename Mark => mk9); k_dflt (refine' Mine.add_news ?zqF ?zqN ?zqm1 ?zqm2 ?zqhz ?_; (case zqF => k_asm); (case zqN => k_asm); (case zqm1 => k_mem); (case zqm2 => k_mem); (case zqhz => (simp only [List.length_append, List.length_replicate, List.length_map, List.length_cons, List.length_nil]; omega)); k_whole); intro _ _ _ _ l1; (try k_lt l1); (try (revert l1; intro _))) | ((with_reducible show wpAny _ _ (binaryOp Operator.Mult (Value.ref _) (Value.int (Nat.cast _) _)) _ _ _); (with_reducible rename Mark => mk9); k_dflt (refine' Mine.mul_news ?zqF ?zqN ?zqhm ?zqhk ?_; (case zqF => k_asm); (case zqN => k_asm); (case zqhm => k_mem); (case zqhk => omega); k_whole); intro _ _ _ _ l1; (try k_lt l1); (try (revert l1; intro _))) | ((with_reducible show wpAny _ _ (exec (Stmt.Assign _ (PySem.Expr.ListComp _ [⟨PySem.Expr.Tuple _ _ _, _, _, _⟩] _ _) _) _) _ _ _); k_dflt (refine Mine.Assign_zip (F₀ := by k_asm) (by rfl) (by with_unfolding_all rfl) (by with_unfolding_all rfl) (by decide) (by rfl) (by decide) (by rfl) (by rfl) (by decide) (by rfl) (by rfl) ?_)) | ((with_reducible show wpAny _ _ (exec (Stmt.For (PySem.Expr.Tuple _ _ _) _ _ _ _) _) _ _ _); k_dflt (refine Mine.For_pairs (by assumption) rfl rfl rfl ?_)) | ((with_reducible refine Mine.pow_nat (by omega) (by omega) ?_)) | ((with_reducible refine Mine.sub_nat (by omega) ?_)) | ((with_reducible show wpAny _ _ (call (Value.ref 247) _) _ _ _); k_dflt (refine' Mine.dots_spec ?zqB ?zqF ?zqX ?zqT ?zqhk ?zqhdp ?zqhu ?zqN ?zqhsp ?zqhyl ?zqhks ?_; (case zqB => k_asm); (case zqF => k_asm); (case zqX => k_asm); (case zqT => k_asm); (case zqhk => first | assumption | exact rfl); (case zqhdp => ((try simp only [depth_under_make, depth_under_kw, depth_in1, depth_deeper, depth_caller, units_in1, units_deeper, Around.mark_units, units_caller]); (try dsimp only [ktrTop]); omega)); (case zqhu => ((try simp only [depth_under_make, depth_under_kw, depth_in1, depth_deeper, depth_caller, units_in1, units_deeper, Around.mark_units, units_caller]); (try dsimp only [ktrTop]); omega)); (case zqN => assumption); (case zqhsp => assumption); (case zqhyl => assumption); (case zqhks => assumption); intro _ _ _ _ _)) | ((with_reducible show wpAny _ _ (call (Value.ref 240) _) _ _ _); k_dflt (refine' Mine.sent2_spec ?zqB ?zqF ?zqX ?zqT ?zqhk ?zqhdp ?zqhu ?zqG ?zqN ?zqp1 ?zqp2 ?zqo1 ?zqo2 ?zqhs ?zqhw ?zqhw4 ?zqh14 ?zqhe ?_; (case zqB => k_asm); (case zqF => k_asm); (case zqX => k_asm); (case zqT => k_asm); (case zqhk => first | assumption | exact rfl); (case zqhdp => ((try simp only [depth_under_make, depth_under_kw, depth_in1, depth_deeper, depth_caller, units_in1, units_deeper, Around.mark_units, units_caller]); (try dsimp only [ktrTop]); omega)); (case zqhu => ((try simp only [depth_under_make, depth_under_kw, depth_in1, depth_deeper, depth_caller, units_in1, units_deeper, Around.mark_units, units_caller]); (try dsimp only [ktrTop]); omega)); (case zqG => assumption); (case zqN => assumption); (case zqp1 => assumption); (case zqp2 => assumption); (case zqo1 => assumption); (case zqo2 => assumption); (case zqhs => assumption); (case zqhw => assumption); (case zqhw4 => assumption); (case zqh14 => assumption); (case zqhe => assumption); intro _ _ _ _ _ _ _ _ _ _ _ _ _ _ _ _)) | ((with_reducible show wpAny _ _ (exec (Stmt.For (PySem.Expr.Name _ _) _ _ _ _) _) _ _ _); k_dflt (refine Mine.For_led (by assumption) rfl rfl ?_)) | ((with_reducible show wpAny _ _ (subscriptTail _ _ (Value.ref _) (Value.int _ _)) _ _ _); k_dflt (refine' Mine.menu3 ?zqN ?zqhm ?zqh0 ?zqh3 ?_ ?zqhs; (case zqN => k_asm); (case zqhm => k_mem); (case zqh0 => l_fact); (case zqh3 => l_fact); (case zqhs => intro _; with_unfolding_all rfl)); intro _ _ _)) | (have ns9 : Mine.NoStop := trivial; walk1; (all_goals (try clear ns9))))) | walk1 | (dsimp only; walk1) | (leave1; walk_say "STEP leave1"; try dsimp only) | fail "no step")))
            refine PostL.nxt ⟨_, (D, listN vs9 _) :: (D4, listN vs10 _) :: (174, tabObj ps1) :: (181, tabObj ps2) :: (LL + 1, o1) :: (LL + 1 + 1, o2) :: (LL + 1 + 1 + 1, o3) :: tail, by assumption, by (refine Mine.news_sub (by assumption) ?_; repeat (first | exact Mine.subs_refl | exact Mine.subs_nil | (refine Mine.subs_cons ?_ ?_; (focus k_mem)) | refine Mine.subs_skip ?_)), sep_cons hDI (sep_cons hDI4 (fun p hp => off p (.tail _ (.tail _ hp)))), (fun p hp => by cases hp), ?_⟩
            refine ⟨_, D, D4, _, _, vs9, vs10, lmap_of rfl rfl rfl (fun y h1 h2 h3 h4 h5 h6 h7 h8 h9 h10 h11 h12 h13 h14 h15 => by (repeat with_reducible refine (if_neg (by assumption)).trans ?_); exact lmap_else h1 h2 h3 h4 h5 h6 h7 h8 h9 h10 h11 h12 h13 h14 h15), rfl, ?_, ?_, hD9, zip_length hv10 hal2 (by rw [List.length_append, hal2]; omega), G5, os5⟩
            · rw [foundN_succ]; exact hv9
            · rw [askedN_succ]; exact hv10
      case done3 =>
        clear hr8 F7 N7 eB hv3 hva hvl hal G4 os4
        intro m4 news4 s5 R kk F N
        replace F : Fr gB LL _ _ := F
        replace N : News gB LL _ _ := N
        obtain ⟨a9, Fd, Ad, nf, na, vf, va, rfl, rfl, hvf, hva, hvl, hal, G5, os5⟩ := R

        rw [plain_law u v r2 r4 h7 h10] at hvf
        ((repeat' (first | (k_unfold; (try dsimp only)) | (k_end; wrow_close) | ((with_reducible refine Mine.Stop.un ?_); (first | with_reducible (first | ((with_reducible refine Mine.pow_two (by omega) ?_)) | ((with_reducible rename PartMark => pm9); (with_reducible refine Mine.add_nat ?_)) | ((with_reducible show wpAny _ _ (binaryOp Operator.Add (Value.ref _) (Value.ref _)) _ _ _); (with_reducible rename Mark => mk9); k_dflt (refine' Mine.add_news ?zqF ?zqN ?zqm1 ?zqm2 ?zqhz ?_; (case zqF => k_asm); (case zqN => k_asm); (case zqm1 => k_mem); (case zqm2 => k_mem); (case zqhz => (simp only [List.length_append, List.length_replicate, List.length_map, List.length_cons, List.length_nil]; omega)); k_whole); intro _ _ _ _ l1; (try k_lt l1); (try (revert l1; intro _))) | ((with_reducible show wpAny _ _ (binaryOp Operator.Mult (Value.ref _) (Value.int (Nat.cast _) _)) _ _ _); (with_reducible rename Mark => mk9); k_dflt (refine' Mine.mul_news ?zqF ?zqN ?zqhm ?zqhk ?_; (case zqF => k_asm); (case zqN => k_asm); (case zqhm => k_mem); (case zqhk => omega); k_whole); intro _ _ _ _ l1; (try k_lt l1); (try (revert l1; intro _))) | ((with_reducible show wpAny _ _ (exec (Stmt.Assign _ (PySem.Expr.ListComp _ [⟨PySem.Expr.Tuple _ _ _, _, _, _⟩] _ _) _) _) _ _ _); k_dflt (refine Mine.Assign_zip (F₀ := by k_asm) (by rfl) (by with_unfolding_all rfl) (by with_unfolding_all rfl) (by decide) (by rfl) (by decide) (by rfl) (by rfl) (by decide) (by rfl) (by rfl) ?_)) | ((with_reducible show wpAny _ _ (exec (Stmt.For (PySem.Expr.Tuple _ _ _) _ _ _ _) _) _ _ _); k_dflt (refine Mine.For_pairs (by assumption) rfl rfl rfl ?_)) | ((with_reducible refine Mine.pow_nat (by omega) (by omega) ?_)) | ((with_reducible refine Mine.sub_nat (by omega) ?_)) | ((with_reducible show wpAny _ _ (call (Value.ref 247) _) _ _ _); k_dflt (refine' Mine.dots_spec ?zqB ?zqF ?zqX ?zqT ?zqhk ?zqhdp ?zqhu ?zqN ?zqhsp ?zqhyl ?zqhks ?_; (case zqB => k_asm); (case zqF => k_asm); (case zqX => k_asm); (case zqT => k_asm); (case zqhk => first | assumption | exact rfl); (case zqhdp => ((try simp only [depth_under_make, depth_under_kw, depth_in1, depth_deeper, depth_caller, units_in1, units_deeper, Around.mark_units, units_caller]); (try dsimp only [ktrTop]); omega)); (case zqhu => ((try simp only [depth_under_make, depth_under_kw, depth_in1, depth_deeper, depth_caller, units_in1, units_deeper, Around.mark_units, units_caller]); (try dsimp only [ktrTop]); omega)); (case zqN => assumption); (case zqhsp => assumption); (case zqhyl => assumption); (case zqhks => assumption); intro _ _ _ _ _)) | ((with_reducible show wpAny _ _ (call (Value.ref 240) _) _ _ _); k_dflt (refine' Mine.sent2_spec ?zqB ?zqF ?zqX ?zqT ?zqhk ?zqhdp ?zqhu ?zqG ?zqN ?zqp1 ?zqp2 ?zqo1 ?zqo2 ?zqhs ?zqhw ?zqhw4 ?zqh14 ?zqhe ?_; (case zqB => k_asm); (case zqF => k_asm); (case zqX => k_asm); (case zqT => k_asm); (case zqhk => first | assumption | exact rfl); (case zqhdp => ((try simp only [depth_under_make, depth_under_kw, depth_in1, depth_deeper, depth_caller, units_in1, units_deeper, Around.mark_units, units_caller]); (try dsimp only [ktrTop]); omega)); (case zqhu => ((try simp only [depth_under_make, depth_under_kw, depth_in1, depth_deeper, depth_caller, units_in1, units_deeper, Around.mark_units, units_caller]); (try dsimp only [ktrTop]); omega)); (case zqG => assumption); (case zqN => assumption); (case zqp1 => assumption); (case zqp2 => assumption); (case zqo1 => assumption); (case zqo2 => assumption); (case zqhs => assumption); (case zqhw => assumption); (case zqhw4 => assumption); (case zqh14 => assumption); (case zqhe => assumption); intro _ _ _ _ _ _ _ _ _ _ _ _ _ _ _ _)) | ((with_reducible show wpAny _ _ (exec (Stmt.For (PySem.Expr.Name _ _) _ _ _ _) _) _ _ _); k_dflt (refine Mine.For_led (by assumption) rfl rfl ?_)) | ((with_reducible show wpAny _ _ (subscriptTail _ _ (Value.ref _) (Value.int _ _)) _ _ _); k_dflt (refine' Mine.menu3 ?zqN ?zqhm ?zqh0 ?zqh3 ?_ ?zqhs; (case zqN => k_asm); (case zqhm => k_mem); (case zqh0 => l_fact); (case zqh3 => l_fact); (case zqhs => intro _; with_unfolding_all rfl)); intro _ _ _)) | (have ns9 : Mine.NoStop := trivial; walk1; (all_goals (try clear ns9))))) | walk1 | (dsimp only; walk1) | (leave1; walk_say "STEP leave1"; try dsimp only) | fail "no step")))
        refine ⟨rfl, F.keep, os5, G5, GrownAt.of N (.tail _ (.tail _ (.head _))), GrownAt.of N (.tail _ (.tail _ (.tail _ (.head _)))), trivial⟩
end
end
end Mine
theorem PySem.Challenge.cw_tc0050_01_holds : PySem.Challenge.rw_tc0050_01.Holds :=
  Mine.law_holds
