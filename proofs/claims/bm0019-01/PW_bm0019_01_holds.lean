import PyProof.Rows.All
import Wide.All
import OpenK.AllK
import Wide.FinOn
import PySem.Challenge.RW_bm0019_01
set_option Elab.async false
set_option rowWalk.seconds 0
set_option linter.unusedVariables false
section
open PySem PySem.W PySem.Calls PyProof.Rows Builtin
set_option maxRecDepth 100000
set_option maxHeartbeats 4000000
namespace Mine
abbrev domObj (C dx : Addr) (items : Array Value) (n : Nat) : Obj := { cls := .ref C, dict := some dx, data := .seq items n }
def makesL (K : Frag) (C : Addr) : Bool := match K.lookup C with
  | some ⟨_, _, .cls cd, sl⟩ => !cd.hasDel && (sl.toList[4]?).join == some (.builtin "list.__new__") && !cd.mro.isEmpty && cd.mro.contains (.ref C) && cd.mro.contains (.type "list") &&
      specialIn K (.ref C) "__call__" == some (some (.builtin "type.__call__")) && instIn K (.ref C) (.type "type") == some true
  | _ => false
structure MakesL (M : Model) (h : Heap) (C : Addr) : Prop where
  obj : ∃ oc od cd sl, h.get? C = some ⟨oc, od, .cls cd, sl⟩ ∧ cd.hasDel = false ∧ cd.mro.isEmpty = false
  made : Looks M h (Bind.madeBy (.ref C)) (some "list.__new__")
  base : Looks M h (Bind.staticBase (.ref C)) (.ref C)
  self : Looks M h (isSubtype (.ref C) (.ref C)) true
  top : Looks M h (isSubtype (.ref C) (.type "list")) true
  call : Looks M h (specialOf (.ref C) "__call__") (some (.builtin "type.__call__"))
  typ : Looks M h (isInstance (.ref C) (.type "type")) true
theorem makesL_of {K : Frag} {M : Model} {h : Heap} (X : K.In h) {C : Addr} (e : makesL K C = true) : MakesL M h C := by
  unfold makesL at e
  split at e
  · rename_i oc od cd sl ho
    simp only [Bool.and_eq_true, Bool.not_eq_true', beq_iff_eq] at e
    obtain ⟨⟨⟨⟨⟨⟨e2, e3⟩, e4⟩, e5⟩, e6⟩, e7⟩, e8⟩ := e
    have hc : clsIn K C = some cd := by unfold clsIn; rw [ho]
    have hm : Looks M h (mroOf (.ref C)) cd.mro := (looks_clsIn X hc).andThen .now
    obtain ⟨c, l, hl⟩ : ∃ c l, cd.mro = c :: l := by cases q : cd.mro with | nil => rw [q] at e4; cases e4 | cons c l => exact ⟨c, l, rfl⟩
    have made : Looks M h (Bind.madeBy (.ref C)) (some "list.__new__") := by
      intro A Q E s k q
      unfold Bind.madeBy
      refine wpAny_bind (hm A _ E s k ?_)
      rw [hl, List.forIn_cons]
      refine wpAny_bind (wpAny_bind (wpAny_bind (wpAny_bind (wpAny_loadPart (k _ _ (X _ _ ho)) (wpAny_pure ?_)))))
      dsimp only
      rw [← Array.getElem?_toList, e3]
      exact wpAny_pure (wpAny_pure (wpAny_pure q))
    refine ⟨⟨oc, od, cd, sl, X _ _ ho, e2, e4⟩, made, ?_, looks_mroIn X ?_, looks_mroIn X ?_, looks_specialIn X e7, looks_instIn X e8⟩
    · intro A Q E s k q
      unfold Bind.staticBase
      refine wpAny_bind (hm A _ E s k ?_)
      rw [hl, List.forIn_cons]
      exact wpAny_bind (wpAny_bind (wpAny_bind (made A _ E s k (wpAny_pure (wpAny_pure (wpAny_pure q))))))
    · unfold mroIn; rw [hc, Option.bind_some, if_neg (by rw [e4]; decide), e5]
    · unfold mroIn; rw [hc, Option.bind_some, if_neg (by rw [e4]; decide), e6]
  · cases e
theorem ln_split : splitId "list.__new__" = some ("list", "__new__") := by decide +kernel
theorem ln_kind : builtinKind "list.__new__" = some .builtinFn := by decide +kernel
theorem ln_row : Manifest.signature? "list.__new__" = some ⟨.any, "list", "list", .cls, [⟨"args", .varPos, false⟩, ⟨"kwargs", .varKw, false⟩]⟩ := by kernel_rfl
theorem ln_canon : Manifest.canonical "list.__new__" = "list.__new__" := by decide +kernel
theorem ln_quiet : ("list.__new__").startsWith "lifetime." = false := by decide +kernel
section
variable {prog : Program} {w : World} {A : Around} {K : Frag} {C : Addr} {R : Result → Shared → Prop} {h : Heap} {g : Array GenState} {d : Drawn} {t : Nat} {os : OsState}
set_option maxRecDepth 1000000 in
theorem newL_K {rest : List Value} (Y : MakesL (model prog w) h C)
    (hq : R (.ok (.ret (.ref (h.objs.size + 1)))) ⟨(h.push emptyDict).push (domObj C h.objs.size #[] 0), g, d, t, os⟩) :
    codeAny (model prog w) A (.call (.builtin "list.__new__") ⟨.ref C :: rest, []⟩) R ⟨h, g, d, t, os⟩ := by
  obtain ⟨⟨oc, od, cd, sl, hC, e2, e4⟩, made, base, self, top, call, typ⟩ := Y
  refine codeAny_call_builtin_code (Code.quiet_builtin _ ln_quiet) ?_
  simp only [checkBuiltinCall, ln_kind, ln_split, ln_row]
  have args : Bind.checkArgs "list.__new__" ⟨.any, "list", "list", .cls, [⟨"args", .varPos, false⟩, ⟨"kwargs", .varKw, false⟩]⟩ ⟨.ref C :: rest, []⟩ = pure () := by kernel_rfl
  rw [args]
  repeat (first | simp only [bne_self_eq_false, Bool.false_eq_true, if_false] | lk)
  refine codeAny_builtin_stack F.entry_list_new rfl fun p st => ?_
  rw [Around.under_plainId F.plain_list_new _]
  have hown := owner_list_new
  simp only [hown]
  have hC' := Heap.get?_push_of_some (domObj C h.objs.size #[] 0) (Heap.get?_push_of_some emptyDict hC)
  repeat (first | simp only [Bool.not_true, Bool.false_eq_true, if_false] | lk)
  simp only [e2, Bool.false_eq_true, if_false]
  refine wpAny_pure (wpAny_pure ?_)
  show R _ _
  rw [Heap.size_push]
  exact hq
theorem makeL_core {rest : List Value} {init : Value} (Y : MakesL (model prog w) h C) (hi : Looks (model prog w) h (typeLookup (.ref C) "__init__") (some init))
    (hb : ∀ self, Looks (model prog w) h (bindSpecial init self) (init, [self]))
    (hq : codeAny (model prog w) (A.under (.builtin "type.__call__" ⟨.ref C :: rest, []⟩)) (.call init ⟨.ref (h.objs.size + 1) :: rest, []⟩) (InitBack (h.objs.size + 1) R) ⟨(h.push emptyDict).push (domObj C h.objs.size #[] 0), g, d, t, os⟩) :
    codeAny (model prog w) A (.call (.ref C) ⟨rest, []⟩) R ⟨h, g, d, t, os⟩ := by
  have Y' := Y
  obtain ⟨⟨oc, od, cd, sl, hC, e2, e4⟩, made, base, self, top, call, typ⟩ := Y
  refine codeAny_of_tree ?_
  show wpAny _ _ (callAny (.ref C) _) _ _ _
  refine nd_load hC ?_
  show wpAny _ _ (callAny.viaDunder (.ref C) _) _ _ _
  unfold callAny.viaDunder
  refine wpAny_bind (call.at ?_)
  dsimp only
  rw [tc_bind]
  refine wpAny_bind (wpAny_pure (wpAny_bind (wpAny_pure ?_)))
  refine wpAny_pure (a := Fin.again (.call (.builtin "type.__call__") ⟨.ref C :: rest, []⟩)) (And.intro rfl ?_)
  refine codeAny_call_builtin_at (Code.quiet_builtin _ (by decide +kernel)) entry_typeCall (check_slot tc_kind tc_split typ (tc_args _ _ _) ?_)
  unfold Builtin.«type.__call__»
  have hm : Looks (model prog w) h (mroOf (.ref C)) cd.mro := ((Looks.ld (part := none) hC).andThen .now).andThen .now
  repeat (first | simp only [e4, Bool.false_eq_true, if_false] | with_reducible refine wpAny_call ?_ | lk)
  refine newL_K Y' ?_
  have k : ∀ b o, h.get? b = some o → ((h.push emptyDict).push (domObj C h.objs.size #[] 0)).get? b = some o := fun b o e => Heap.get?_push_of_some _ (Heap.get?_push_of_some _ e)
  have hx : ((h.push emptyDict).push (domObj C h.objs.size #[] 0)).get? (h.objs.size + 1) = some (domObj C h.objs.size #[] 0) := by heap_get
  have t1 : Looks (model prog w) ((h.push emptyDict).push (domObj C h.objs.size #[] 0)) (typeOf (.ref (h.objs.size + 1))) (.ref C) := (Looks.ld hx).andThen .now
  have s1 := self.keeps k
  have i1 := hi.keeps k
  have b1 := (hb (.ref (h.objs.size + 1))).keeps k
  unfold isInstance callSpecial? specialOf
  repeat (first | with_reducible refine wpAny_call ?_ | lk)
  refine codeAny_mono hq fun r s' z => ?_
  rcases r with e | (v | _ | _ | _) <;> first | exact z | exact z.elim | skip
  obtain ⟨rfl, z⟩ := z
  exact wpAny_pure (wpAny_pure z)
end
section
variable {prog : Program} {w : World} {A : Around} {K : Frag} {C x : Addr} {s : Shared} {h₀ : Heap} {L : Addr} {m : Str → Option Value} {news : List (Addr × Obj)} {R : Result → Shared → Prop} {E : Value → Shared → Prop} {Q : Value → Shared → Prop}
theorem call_clsL {pos : List Value} {fI : Addr} (F : Fr h₀ L s.heap m) (X₀ : K.In h₀) (N : News h₀ L s.heap news) (hm : makesL K C = true) (hi : findIn K (.ref C) "__init__" = some (some (.ref fI))) (hf : isFn K (.ref fI) = true)
    (h : ∀ x dx h', Fr h₀ L h' m → News h₀ L h' ((x, domObj C dx #[] 0) :: (dx, dictOf [] 0) :: news) → (∀ p ∈ news, p.1 < dx) → dx < x →
      codeAny (model prog w) (A.under (.builtin "type.__call__" ⟨.ref C :: pos, []⟩)) (.call (.ref fI) ⟨.ref x :: pos, []⟩) (InitBack x fun r s' => match r with | .ok (.ret v) => Q v s' | .ok _ => False | .error e => E e s') { s with heap := h' }) :
    wpAny (model prog w) A (call (.ref C) pos []) Q E s := by
  have X := X₀.keeps F.keep
  refine wpAny_call ?_
  obtain ⟨hh, g, d, t, os⟩ := s
  refine makeL_core (makesL_of X hm) (looks_findIn X hi) (fun self => bind_fn X self (beq_iff_eq.mp hf)) (h _ hh.objs.size _ ((F.push _).push _) ?_ (fun p hp => Heap.lt_size (N p hp).1) (Nat.lt_succ_self _))
  have := (N.push F emptyDict).push (F.push _) (domObj C hh.objs.size #[] 0)
  rwa [Heap.size_push] at this
end
end Mine
end
section
open PySem PySem.W PySem.Calls PyProof.Rows Builtin Builtin.ObjectAttr
set_option maxRecDepth 100000
set_option maxHeartbeats 4000000
namespace Mine
theorem InstAt.of_seq {h₀ h : Heap} {L x C dx : Addr} {news : List (Addr × Obj)} {od : Obj} {its : Array Value} {n : Nat} (N : News h₀ L h news) (h1 : (x, domObj C dx its n) ∈ news) (h2 : (dx, od) ∈ news) :
    InstAt h x (domObj C dx its n) C (some od) := ⟨(N _ h1).1, rfl, rfl, (N _ h2).1⟩
theorem check_meth {M : Model} {A : Around} {E : Value → Shared → Prop} {s : Shared} {i owner n : String} {self : Value} {rest : List Value} {Q : Unit → Shared → Prop}
    (hk : builtinKind i = some .method) (hs : splitId i = some (owner, n)) (hi : Looks M s.heap (isInstance self (.type owner)) true) (ha : argsOk i ⟨self :: rest, []⟩) (q : Q () s) :
    wpAny M A (checkBuiltinCall i ⟨self :: rest, []⟩) Q E s := by
  simp only [checkBuiltinCall, hk, hs]
  refine wpAny_bind (hi.here ?_)
  simp only [Bool.not_true, Bool.false_eq_true, if_false]
  cases hsig : Manifest.signature? i with
  | none => exact wpAny_pure q
  | some sig =>
    simp only [argsOk, hsig] at ha
    have h2 : Bind.checkArgs i sig ⟨self :: rest, []⟩ = pure () := ha
    show wpAny M A (Bind.checkArgs i sig ⟨self :: rest, []⟩) Q E s
    rw [h2]; exact wpAny_pure q
section
variable {prog : Program} {w : World} {A : Around} {K : Frag} {C x dx L : Addr} {s : Shared} {h₀ : Heap} {m : Str → Option Value} {news news' : List (Addr × Obj)} {R : Result → Shared → Prop} {E : Value → Shared → Prop}
  {ox od : Obj} {es es' : List DictEntry} {n n' : Nat} {name : Str} {v : Value}
/-- a built-in of the base called on an object of it -/
theorem call_onSub {i owner nm : String} {b : Builtin} {rest : List Value} {Q : Value → Shared → Prop} {odd : Option Obj} (X : K.In s.heap) (I : InstAt s.heap x ox C odd) (hsub : subIn K (.ref C) (.type owner) = some true)
    (hk : builtinKind i = some .method ∨ builtinKind i = some .slot) (hs : splitId i = some (owner, nm)) (hp : plainId i = true) (he : entryFor table i = some b) (ha : argsOk i ⟨.ref x :: rest, []⟩)
    (h : wpAny (model prog w) A.in1 (b ⟨.ref x :: rest, []⟩)
      (fun fin s' => match fin with | .done f => (match (Except.ok f : Result) with | .ok (.ret v) => Q v s' | .ok _ => False | .error e => E e s') | .again c' => c'.quiet = true ∧ codeAny (model prog w) A c' (fun r s' => match r with | .ok (.ret v) => Q v s' | .ok _ => False | .error e => E e s') s')
      (fun e s' => E e s') s) : wpAny (model prog w) A (call (.builtin i) (.ref x :: rest)) Q E s := by
  have L0 : Looks (model prog w) s.heap (isInstance (.ref x) (.type owner)) true := I.type.andThen (looks_subIn X hsub)
  refine wpAny_call (codeAny_call_builtin hp he ?_)
  rcases hk with hk | hk
  · exact check_meth hk hs L0 ha h
  · exact check_slot hk hs L0 ha h
theorem canon_lga : Manifest.canonical "list.__getattribute__" = "object.__getattribute__" := by decide +kernel
/-- the method form of a call: a built-in method of the base, or a def of the class -/
theorem method_L {pl : Sem Bool} {Q : Value × List Value → Shared → Prop} {f : Value} (F : Fr h₀ L s.heap m) (X₀ : K.In h₀) (I : InstAt s.heap x ox C (some (dictOf es n)))
    (hga : findIn K (.ref C) "__getattribute__" = some (some (.builtin "list.__getattribute__"))) (hk : findIn K (.ref C) "__getattr__" = some none)
    (hf : findIn K (.ref C) name = some (some f)) (ht : typeIn K f = some (.type "function") ∨ typeIn K f = some (.type "method_descriptor")) (hl : getL name es = some none) (hdx : ox.dict = some dx)
    (h : Q (f, [.ref x]) s) : wpAny (model prog w) A (getMethod (.ref x) name pl) Q E s := by
  have X := X₀.keeps F.keep
  unfold getMethod specialOf
  refine wpAny_bind (wpAny_bind (I.type.here ((looks_findIn X hga).here ?_)))
  dsimp only
  rw [canon_lga, if_neg (by decide)]
  refine wpAny_bind (wpAny_bind (I.type.here ((looks_findIn X hk).here ?_)))
  refine wpAny_bind (wpAny_bind (I.type.here ((looks_findIn X hf).here ?_)))
  have hd := I.dict
  rcases ht with ht | ht <;>
  · refine wpAny_bind ((looks_typeIn X ht).here ?_)
    rw [if_neg (by decide +kernel)]
    refine wpAny_bind (wpAny_loadPart I.at_ ?_)
    rw [hdx] at hd ⊢
    refine wpAny_bind (wpAny_bind (wpAny_loadPart hd ?_))
    rw [nsLook_of (show lookIn name (dictOf es n) = some none from by rw [lookIn_dict, hl])]
    refine wpAny_pure ?_
    exact wpAny_bind (wpAny_rule (wpAny_pure h))
theorem entry_lga : entryFor table "list.__getattribute__" = some Builtin.«object.__getattribute__» := by
  unfold entryFor
  rw [show table "list.__getattribute__" = none from by rw [table_eq_fast]; kernel_rfl]
  kernel_rfl
theorem lga_kind : builtinKind "list.__getattribute__" = some .slot := by decide +kernel
theorem lga_split : splitId "list.__getattribute__" = some ("list", "__getattribute__") := by decide +kernel
theorem lga_plain : plainId "list.__getattribute__" = true := by decide +kernel
theorem lga_args (a b : Value) : argsOk "list.__getattribute__" ⟨[a, b], []⟩ := by unfold argsOk; kernel_rfl
theorem lga_bind (self : Value) : bindSpecial (.builtin "list.__getattribute__") self = pure (.builtin "list.__getattribute__", [self]) := by
  have hop : withoutEnding? "list.__getattribute__" "#opaque" = none := by decide +kernel
  have hdat : withoutEnding? "list.__getattribute__" "#data" = none := by decide +kernel
  simp only [bindSpecial, typeOf, builtinType, hop, hdat, lga_kind]; rfl
theorem getA_own {expr : Bool} {Q : Value → Shared → Prop} {attr : Option Value} (F : Fr h₀ L s.heap m) (X₀ : K.In h₀) (I : InstAt s.heap x ox C (some (dictOf es n)))
    (hga : findIn K (.ref C) "__getattribute__" = some (some (.builtin "list.__getattribute__"))) (hk : findIn K (.ref C) "__getattr__" = some none) (hsub : subIn K (.ref C) (.type "list") = some true) (hh : hasDictIn K C = true)
    (ha : findIn K (.ref C) name = some attr) (hn : noGet K attr = true) (hl : getL name es = some (some v)) (hv : handedIn v = true) (h : Q v { s with toks := s.toks + 1 }) :
    wpAny (model prog w) A (getAttr (.ref x) name expr) Q E s := by
  have X := X₀.keeps F.keep
  obtain ⟨hp, g, d, t, os⟩ := s
  have L0 := I.type (M := model prog w)
  have L1 := looks_findIn (M := model prog w) X hga
  have L2 := looks_findIn (M := model prog w) X hk
  have L3 := looks_find (M := model prog w) X I (findObj_own hh ha hn hl)
  unfold getAttr getAttrBy
  refine wpAny_bind (wpAny_mkText (wpAny_holding (wpAny_bind (L0.at (wpAny_bind (L1.at ?_))))))
  dsimp only
  rw [if_neg (by simp)]
  unfold getAttrByItsOwn
  refine wpAny_bind (L2.at (wpAny_bind ?_))
  refine wpAny_attempt (wpAny_holding ?_)
  show wpAny _ _ (if (expr && onTheHeap (.builtin "list.__getattribute__")) = true then _ else boundAndCalled _ _ _) _ _ _
  rw [if_neg (by simp [onTheHeap])]
  unfold boundAndCalled
  rw [lga_bind]
  refine wpAny_bind (wpAny_pure ?_)
  refine call_onSub (s := ⟨hp, g, d, t + 1, os⟩) X I hsub (.inr lga_kind) lga_split lga_plain entry_lga (lga_args _ _) ?_
  unfold Builtin.«object.__getattribute__»
  refine wpAny_bind (wpAny_pure (wpAny_bind (wpAny_pure (wpAny_bind (L0.at (wpAny_bind (L3.at ?_)))))))
  refine wpAny_pure ?_
  show wpAny _ _ (handedOut v) _ _ _
  rw [handedOut_of hv]; exact wpAny_pure h
end
end Mine
end
section
open PySem PySem.W PySem.Calls PyProof.Rows Builtin Builtin.ObjectAttr Builtin.List
set_option maxRecDepth 100000
set_option maxHeartbeats 4000000
namespace Mine
theorem refuse_list (self : Value) (C : Addr) : refuseLoop self "__setattr__" [.ref C, .type "list", .type "object"] = pure () := by
  rw [refuseLoop_ref]
  unfold refuseLoop
  simp only [List.forIn_cons, List.forIn_nil]
  have h1 : classOwn (.type "list") ("__setattr__" : Str) = pure none := by
    show (pure (builtinOwn "list" "__setattr__") : Sem (Option Value)) = _
    rw [builtinOwn_eq_fast]; kernel_rfl
  rw [h1, PySem.F.own_object_setattr]
  rfl
section
variable {prog : Program} {w : World} {A : Around} {K : Frag} {C x dx L : Addr} {s : Shared} {h₀ : Heap} {m : Str → Option Value} {news news' : List (Addr × Obj)} {R : Result → Shared → Prop} {E : Value → Shared → Prop}
  {ox od : Obj} {es es' : List DictEntry} {n n' : Nat} {name : Str} {v : Value}
def listOver (K : Frag) (C : Addr) : Bool := (clsIn K C).any fun cd => cd.mro == [.ref C, .type "list", .type "object"]
theorem osa_openL {od : Option Obj} {tk : Tok} (X : K.In s.heap) (I : InstAt s.heap x ox C od) (hp : listOver K C = true) (ht : takerIn K C name = some none)
    (h : ∀ b, wpAny (model prog w) A.in1 (storeInOwnDict (.ref x) (.ref C) (.str name tk) name v b)
      (fun fin s' => match fin with | .done f => R (.ok f) s' | .again c' => c'.quiet = true ∧ codeAny (model prog w) A c' R s') (fun e s' => R (.error e) s') s) :
    codeAny (model prog w) A (.call (.builtin "object.__setattr__") ⟨[.ref x, .str name tk, v], []⟩) R s := by
  have SF := PySem.F.store_object
  obtain ⟨cd, hc, ho⟩ := any_some hp
  have ho : cd.mro = [.ref C, .type "list", .type "object"] := beq_iff_eq.mp ho
  have sub : Looks (model prog w) s.heap (isInstance (.ref x) (.type "object")) true := I.type.andThen (looks_mroIn X (by unfold mroIn; rw [hc, Option.bind_some, ho]; simp))
  refine codeAny_call_builtin SF.slot.plain SF.entry (@check_slot (model prog w) _ _ s "object.__setattr__" "object" "__setattr__" (.ref x) [.str name tk, v] [] _ SF.kind SF.split sub (SF.args (.ref x) (.str name tk) v) ?_)
  obtain ⟨attr, ha, hr⟩ := Option.bind_eq_some_iff.mp ht
  have hm : Looks (model prog w) s.heap (mroOf (.ref C)) cd.mro := (looks_clsIn X hc).andThen .now
  have L3 : Looks (model prog w) s.heap (storeTaker? attr) none := by
    cases attr with
    | none => exact .now
    | some a =>
      obtain ⟨b, hb, he⟩ := Option.map_eq_some_iff.mp hr
      refine (looks_takesIn X hb).andThen ?_
      cases b with
      | true => cases he
      | false => exact .now
  rw [osa_eq, refuse_eq]
  refine wpAny_bind (wpAny_bind (I.type.here (wpAny_bind (hm.here ?_))))
  rw [ho, refuse_list]
  refine wpAny_pure (wpAny_bind (I.type.here (wpAny_bind ((looks_findIn X ha).here (wpAny_bind (L3.here ?_))))))
  exact h _
theorem osa_dictL {od od' : Obj} {tk : Tok} {pre post : List (Addr × Obj)} (F : Fr h₀ L s.heap m) (N : News h₀ L s.heap (pre ++ (dx, od) :: post)) (X : K.In s.heap)
    (I : InstAt s.heap x ox C (some od)) (hd : ox.dict = some dx) (hp : listOver K C = true) (ht : takerIn K C name = some none) (hh : (clsIn K C).any (·.hasDict) = true)
    (hl : (lookIn name od).isSome = true) (h1 : ∀ p ∈ pre, p.1 ≠ dx) (h2 : ∀ p ∈ post, p.1 ≠ dx)
    (e : Obj.putName name (PyData.keyHash w.params name) (.str name s.toks) v od = od') (e' : od'.data = .dict es.toArray n) (hz : es.length ≤ 1000)
    (h : ∀ h', Fr h₀ L h' m → News h₀ L h' (pre ++ (dx, od') :: post) → R (.ok (.ret .none)) { s with heap := h', toks := s.toks + 1 }) :
    codeAny (model prog w) A (.call (.builtin "object.__setattr__") ⟨[.ref x, .str name tk, v], []⟩) R s := by
  refine osa_openL X I hp ht fun b => ?_
  obtain ⟨cd, hc, hd'⟩ := any_some hh
  obtain ⟨U1, U2⟩ := news_upd (f := Obj.putName name (PyData.keyHash w.params name) (.str name s.toks) v) F N h1 h2 e (by obtain ⟨_, _, dd, _⟩ := od'; cases e'; rfl)
  have D := (N (dx, od) (by simp)).1
  have D' := (U2 (dx, od') (by simp)).1
  obtain ⟨hx, hcl, hn, -⟩ := I
  obtain ⟨oc, odi, oda, osl⟩ := ox
  dsimp only at hcl hd
  subst hcl hd
  refine wpAny_bind (wpAny_pure (wpAny_bind (wpAny_bind (wpAny_loadPart hx (wpAny_bind ((looks_clsIn X hc).here ?_))))))
  rw [hd']
  refine wpAny_pure (a := some dx) (wpAny_bind (wpAny_pure (wpAny_bind ?_)))
  unfold nsSet
  refine wpAny_bind (wpAny_bind (wpAny_askSetting (wpAny_pure (wpAny_bind (wpAny_mkText (wpAny_bind (wpAny_loadPart D ?_)))))))
  unfold lookIn at hl
  split at hl
  · rename_i es₀ n₀ q
    rw [q]
    dsimp only
    have c : (!es₀.any (·.key.isStr name) && es₀.any (·.refKey)) = false := by
      rw [← Array.any_toList, ← Array.any_toList]
      split at hl
      · rename_i en he
        rw [List.any_eq_true.mpr ⟨en, List.mem_of_find?_eq_some he, List.find?_some he⟩]; rfl
      · split at hl
        · cases hl
        · rename_i z; rw [Bool.not_eq_true] at z; rw [z, Bool.and_false]
    rw [aRefKeyMayBeTheName_at, c]
    refine wpAny_updatePart D ?_
    refine wpAny_bind (wpAny_lookBehind D' (by rw [e']; exact pastItsLine_dict (by rw [List.size_toArray, sizeLine_eq]; omega)) ?_)
    exact wpAny_pure (h _ U1 U2)
  · cases hl
theorem set_dictL {Q : Unit → Shared → Prop} (F : Fr h₀ L s.heap m) (X₀ : K.In h₀) (N : News h₀ L s.heap news) (I : InstAt s.heap x ox C (some (dictOf es n))) (hd : ox.dict = some dx)
    (hs : findIn K (.ref C) "__setattr__" = some (some (.builtin "object.__setattr__"))) (hp : listOver K C = true) (ht : takerIn K C name = some none) (hh : hasDictIn K C = true) (hl : (getL name es).isSome = true)
    (e : (putL name (PyData.keyHash w.params name) (.str name (s.toks + 1)) v es, putN name es n) = (es', n')) (U : Upd dx (dictOf es n) (dictOf es' n') news news') (hz : es'.length ≤ 1000)
    (h : ∀ h', Fr h₀ L h' m → News h₀ L h' news' → Q () { s with heap := h', toks := s.toks + 2 }) :
    wpAny (model prog w) A (setAttr (.ref x) name v) Q E s := by
  obtain ⟨pre, post, rfl, rfl, a, b⟩ := U.split
  obtain ⟨e1, e2⟩ := Prod.mk.inj e
  exact set_plain (X₀.keeps F.keep) I hs (osa_dictL (s := { s with toks := s.toks + 1 }) F N (X₀.keeps F.keep) I hd hp ht hh hl a b (by rw [putName_dict, e1, e2]) rfl hz fun h' F' N' => h h' F' N')
end
end Mine
end
section
open PySem PySem.W PySem.Calls PyProof.Rows Builtin Builtin.ObjectAttr Builtin.List
set_option maxRecDepth 100000
set_option maxHeartbeats 4000000
namespace Mine
theorem mapSeq_dom {C dx : Addr} {its : Array Value} {n : Nat} (f : Array Value → Array Value) : Obj.mapSeq f (domObj C dx its n) = domObj C dx (f its) (if (f its).size == its.size then n else n + 1) := rfl
theorem mapSeq_list {its : Array Value} {n : Nat} (f : Array Value → Array Value) : Obj.mapSeq f (W.listOf its n) = W.listOf (f its) (if (f its).size == its.size then n else n + 1) := rfl
theorem upd_dom {h₀ h : Heap} {L x C dx : Addr} {m : Str → Option Value} {news : List (Addr × Obj)} {g : Obj → List (Addr × Obj)} {its : Array Value} {n : Nat} (F : Fr h₀ L h m) (N : News h₀ L h news) (U : UpdF x (domObj C dx its n) news g) (f : Array Value → Array Value) :
    ∃ n', Fr h₀ L (h.update x (Obj.mapSeq f)) m ∧ News h₀ L (h.update x (Obj.mapSeq f)) (g (domObj C dx (f its) n')) := by
  obtain ⟨pre, post, rfl, hg, a, b⟩ := U.split
  have := news_upd F N a b (mapSeq_dom f) rfl
  exact ⟨_, this.1, by rw [hg]; exact this.2⟩
theorem upd_list {h₀ h : Heap} {L x : Addr} {m : Str → Option Value} {news : List (Addr × Obj)} {g : Obj → List (Addr × Obj)} {its : Array Value} {n : Nat} (F : Fr h₀ L h m) (N : News h₀ L h news) (U : UpdF x (W.listOf its n) news g) (f : Array Value → Array Value) :
    ∃ n', Fr h₀ L (h.update x (Obj.mapSeq f)) m ∧ News h₀ L (h.update x (Obj.mapSeq f)) (g (W.listOf (f its) n')) := by
  obtain ⟨pre, post, rfl, hg, a, b⟩ := U.split
  have := news_upd F N a b (mapSeq_list f) rfl
  exact ⟨_, this.1, by rw [hg]; exact this.2⟩
theorem UpdF.here {x : Addr} {o : Obj} {news : List (Addr × Obj)} {g : Obj → List (Addr × Obj)} (U : UpdF x o news g) : (x, o) ∈ news ∧ ∀ o', (x, o') ∈ g o' := by
  obtain ⟨pre, post, rfl, hg, a, b⟩ := U.split
  exact ⟨by simp, fun o' => by rw [hg]; simp⟩
/-- the same place again, behind an update -/
theorem UpdF.again {x : Addr} {o : Obj} {news : List (Addr × Obj)} {g : Obj → List (Addr × Obj)} (U : UpdF x o news g) (o' : Obj) : UpdF x o' (g o') g := by
  induction U with
  | head h => exact .head h
  | tail h _ ih => exact .tail h ih
theorem UpdF.other {x : Addr} {o : Obj} {news : List (Addr × Obj)} {g : Obj → List (Addr × Obj)} (U : UpdF x o news g) (o' : Obj) {p : Addr × Obj} (hp : p ∈ news) (hx : p.1 ≠ x) : p ∈ g o' := by
  obtain ⟨pre, post, rfl, hg, a, b⟩ := U.split
  rw [hg]
  rcases List.mem_append.mp hp with h | h
  · exact List.mem_append_left _ h
  · rcases List.mem_cons.mp h with rfl | h
    · exact absurd rfl hx
    · exact List.mem_append_right _ (.tail _ h)
theorem isList_ne {h : Heap} {l x C dx : Addr} {vs : Array Value} {its : Array Value} {n : Nat} (hl : h.IsList l vs) (hx : h.get? x = some (domObj C dx its n)) : x ≠ l := by
  rintro rfl
  obtain ⟨o, ho, hc, _⟩ := hl
  rw [hx] at ho; cases ho; cases hc
section
variable {prog : Program} {w : World} {A : Around} {K : Frag} {C x dx L l : Addr} {s : Shared} {h₀ : Heap} {m : Str → Option Value} {news news' : List (Addr × Obj)} {g : Obj → List (Addr × Obj)} {R : Result → Shared → Prop} {E : Value → Shared → Prop}
  {od : Obj} {its : Array Value} {vs : List Value} {ns : List Int} {n n' : Nat} {name : Str} {v : Value}
theorem isList_upd {h : Heap} {f : Obj → Obj} {items : Array Value} (hl : h.IsList l items) (hne : x ≠ l) : (h.update x f).IsList l items := by
  obtain ⟨o, ho, r⟩ := hl
  exact ⟨o, (Heap.get?_update_other h f hne).trans ho, r⟩
theorem list_init {Q : Value → Shared → Prop} (F : Fr h₀ L s.heap m) (X₀ : K.In h₀) (N : News h₀ L s.heap news) (U : UpdF x (domObj C dx #[] n) news g) (hdx : (dx, od) ∈ news) (hsub : subIn K (.ref C) (.type "list") = some true)
    (hl : s.heap.IsList l vs.toArray) (hz : vs.length ≤ 1000) (h : ∀ n' h', Fr h₀ L h' m → News h₀ L h' (g (domObj C dx vs.toArray n')) → Q .none { s with heap := h' }) :
    wpAny (model prog w) A (call (.builtin "list.__init__") [.ref x, .ref l]) Q E s := by
  have X := X₀.keeps F.keep
  have I := InstAt.of_seq N (UpdF.here U).1 hdx
  have hne := isList_ne hl I.at_
  refine call_onSub X I hsub (.inr (by decide +kernel)) (nm := "__init__") (by decide +kernel) (by decide +kernel) (b := Builtin.«list.__init__») (entryFor_of_tree (by kernel_rfl)) (by unfold argsOk; kernel_rfl) ?_
  obtain ⟨n1, F1, N1⟩ := upd_dom F N U (fun _ => #[])
  have U1 := UpdF.again U (domObj C dx #[] n1)
  obtain ⟨n2, F2, N2⟩ := upd_dom F1 N1 U1 (· ++ vs.toArray)
  have o1 := (N1 _ (UpdF.here U1).1).1
  have hl1 := isList_upd (f := Obj.mapSeq fun _ => #[]) hl hne
  unfold Builtin.«list.__init__»
  dsimp only
  refine wpAny_bind (listItems_at I.at_ rfl ?_)
  refine wpAny_bind (listUpdate_at I.at_ rfl ?_ (by simp) (by simp))
  refine wpAny_bind (wpAny_letGo ?_)
  show wpAny _ _ (listExtendWith _ _ _) _ _ _
  unfold listExtendWith
  obtain ⟨ol, hol, hcl, nl, hdl⟩ := hl1
  refine wpAny_bind (m := typeOf (.ref l)) (wpAny_bind (wpAny_loadPart hol (wpAny_pure ?_)))
  rw [hcl, if_pos (by simp)]
  refine wpAny_bind (listItems_at hol hdl (wpAny_bind (listItems_at o1 rfl ?_)))
  rw [if_neg (by simp)]
  refine wpAny_bind (listUpdate_at (f := (· ++ vs.toArray)) o1 rfl ?_ (Nat.zero_le _) (by show (#[] ++ vs.toArray).size ≤ _; rw [Array.size_append, List.size_toArray, sizeLine_eq]; simp; omega))
  refine wpAny_pure ?_
  refine h n2 _ F2 ?_
  simpa using N2
theorem list_extend {Q : Value → Shared → Prop} {us : List Value} (F : Fr h₀ L s.heap m) (X₀ : K.In h₀) (N : News h₀ L s.heap news) (U : UpdF x (domObj C dx us.toArray n) news g) (hdx : (dx, od) ∈ news) (hsub : subIn K (.ref C) (.type "list") = some true)
    (hl : s.heap.IsList l vs.toArray) (hz : us.length + vs.length ≤ 1000) (h : ∀ n' h', Fr h₀ L h' m → News h₀ L h' (g (domObj C dx (us ++ vs).toArray n')) → Q .none { s with heap := h' }) :
    wpAny (model prog w) A (call (.builtin "list.extend") [.ref x, .ref l]) Q E s := by
  have X := X₀.keeps F.keep
  have I := InstAt.of_seq N (UpdF.here U).1 hdx
  refine call_onSub X I hsub (.inl (by decide +kernel)) (nm := "extend") (by decide +kernel) (by decide +kernel) (b := Builtin.«list.extend») (entryFor_of_tree (by kernel_rfl)) (by unfold argsOk; kernel_rfl) ?_
  obtain ⟨n2, F2, N2⟩ := upd_dom F N U (· ++ vs.toArray)
  unfold Builtin.«list.extend»
  refine wpAny_bind (wpAny_pure ?_)
  show wpAny _ _ (listExtendWith _ _ _) _ _ _
  unfold listExtendWith
  obtain ⟨ol, hol, hcl, nl, hdl⟩ := hl
  refine wpAny_bind (m := typeOf (.ref l)) (wpAny_bind (wpAny_loadPart hol (wpAny_pure ?_)))
  rw [hcl, if_pos (by simp)]
  refine wpAny_bind (listItems_at hol hdl (wpAny_bind (listItems_at I.at_ rfl ?_)))
  rw [if_neg (by
    have : listTooLong (us.toArray.size + vs.toArray.size) = false := by
      unfold listTooLong; rw [List.size_toArray, List.size_toArray, sizeLine_eq]; simp; omega
    rw [this]; simp)]
  refine wpAny_bind (listUpdate_at (f := (· ++ vs.toArray)) I.at_ rfl ?_ (by rw [List.size_toArray, sizeLine_eq]; omega) (by show (us.toArray ++ vs.toArray).size ≤ _; rw [Array.size_append, List.size_toArray, List.size_toArray, sizeLine_eq]; omega))
  refine wpAny_pure ?_
  refine h n2 _ F2 ?_
  simpa using N2
end
end Mine
end
section
open PySem PySem.W PySem.Calls PyProof.Rows Builtin Builtin.ObjectAttr Builtin.List
set_option maxRecDepth 100000
set_option maxHeartbeats 4000000
namespace Mine
theorem IntsAre.getI {vs : List Value} {ns : List Int} (h : IntsAre vs ns) : ∀ i (hi : i < ns.length), ∃ t, vs[i]? = some (.int ns[i] t) := by
  induction h with
  | nil => intro i hi; exact absurd hi (Nat.not_lt_zero _)
  | cons n t _ ih =>
    intro i hi
    cases i with
    | zero => exact ⟨t, rfl⟩
    | succ i => exact ih i (Nat.lt_of_succ_lt_succ hi)
theorem IntsAre.len {vs : List Value} {ns : List Int} (h : IntsAre vs ns) : vs.length = ns.length := by
  induction h with
  | nil => rfl
  | cons _ _ _ ih => simp [ih]
theorem IntsAre.eraseIdx {vs : List Value} {ns : List Int} (h : IntsAre vs ns) : ∀ i, IntsAre (vs.eraseIdx i) (ns.eraseIdx i) := by
  induction h with
  | nil => intro i; exact .nil
  | cons n t h ih =>
    intro i
    cases i with
    | zero => exact h
    | succ i => exact .cons n t (ih i)
section
variable {prog : Program} {w : World} {A : Around} {K : Frag} {C x dx L l : Addr} {s : Shared} {h₀ : Heap} {m : Str → Option Value} {news news' : List (Addr × Obj)} {g : Obj → List (Addr × Obj)} {R : Result → Shared → Prop} {E : Value → Shared → Prop}
  {od : Obj} {its : Array Value} {us vs : List Value} {ks ns : List Int} {n n' : Nat} {name : Str} {v : Int} {tv : Tok}
theorem code_remove_loop (hA : A.handled = none) (ho : s.heap.get? x = some (domObj C dx us.toArray n)) (hi : IntsAre us ks) (hz : us.length ≤ 1000)
    (hf : ∀ k (hk : k < ks.length), ks[k] = v → (∀ j (hj : j < ks.length), j < k → ks[j] ≠ v) → R (.ok (.ret .none)) { s with heap := s.heap.update x (Obj.mapSeq (·.eraseIdxIfInBounds k)) })
    (hn : v ∉ ks → ∀ h' tk e, Heap.NewExc s.heap h' e "ValueError" → R (.error (.ref e)) { s with heap := h', toks := tk }) :
    ∀ d i, ks.length - i = d → i ≤ ks.length → (∀ j (hj : j < ks.length), j < i → ks[j] ≠ v) →
      codeAny (model prog w) A (.builtin "list.remove.loop" ⟨[.ref x, .int v tv, rawInt (i : Nat)], []⟩) R s := by
  intro d
  induction d with
  | zero =>
    intro i hd hle hall
    have hi' : i = ks.length := by omega
    subst hi'
    refine codeAny_builtin PySem.MeetsSeq.entry_remove_loop ?_
    rw [Around.under_plainId PySem.MeetsSeq.plain_remove_loop]
    unfold Builtin.«list.remove.loop»
    dsimp only [rawInt]
    refine wpAny_bind (listItems_at ho rfl ?_)
    rw [show ((ks.length : Nat) : Int).toNat = ks.length from Int.toNat_natCast _, show us.toArray[ks.length]? = none from by simp [← IntsAre.len hi]]
    refine wpAny_bind (wpAny_rule ?_)
    refine wpAny_raiseErrorWords plainExc_ValueError (by exact hA) fun h' tk e' he => hn ?_ h' tk e' he
    intro hm
    obtain ⟨j, hj, rfl⟩ := List.mem_iff_getElem.mp hm
    exact hall j hj hj rfl
  | succ d ih =>
    intro i hd hle hall
    have hlt : i < ks.length := by omega
    obtain ⟨t, ht⟩ := IntsAre.getI hi i hlt
    refine codeAny_builtin PySem.MeetsSeq.entry_remove_loop ?_
    rw [Around.under_plainId PySem.MeetsSeq.plain_remove_loop]
    unfold Builtin.«list.remove.loop»
    dsimp only [rawInt]
    refine wpAny_bind (listItems_at ho rfl ?_)
    rw [show ((i : Nat) : Int).toNat = i from Int.toNat_natCast _, show us.toArray[i]? = some (.int ks[i] t) from by simpa using ht]
    refine wpAny_bind (wpAny_eqBool_int ?_)
    by_cases hv : ks[i] = v
    · rw [if_pos (by simpa using hv)]
      refine wpAny_bind (listUpdate_at ho rfl ?_ (by rw [List.size_toArray, sizeLine_eq]; omega) (by
        refine Nat.le_trans (Nat.le_trans (m := us.toArray.size) ?_ (Nat.le_refl _)) (by rw [List.size_toArray, sizeLine_eq]; omega)
        unfold Array.eraseIdxIfInBounds; split
        · simp only [Array.size_eraseIdx]; omega
        · exact Nat.le_refl _))
      exact wpAny_pure (hf i hlt hv hall)
    · rw [if_neg (by simpa using hv)]
      refine wpAny_pure ⟨plainId_quiet PySem.MeetsSeq.plain_remove_loop _, ?_⟩
      have := ih (i + 1) (by omega) (by omega) (fun j hj hji => by
        rcases Nat.lt_succ_iff_lt_or_eq.mp hji with h | h
        · exact hall j hj h
        · subst h; exact hv)
      simpa [rawInt] using this
theorem eraseIB {us : List Value} {k : Nat} (h : k < us.length) : us.toArray.eraseIdxIfInBounds k = (us.eraseIdx k).toArray := by
  unfold Array.eraseIdxIfInBounds
  rw [dif_pos (by simpa using h)]
  apply Array.toList_inj.mp
  rw [Array.toList_eraseIdx]
theorem list_remove {Q : Value → Shared → Prop} (hA : A.handled = none) (F : Fr h₀ L s.heap m) (X₀ : K.In h₀) (N : News h₀ L s.heap news) (U : UpdF x (domObj C dx us.toArray n) news g) (hdx : (dx, od) ∈ news) (hsub : subIn K (.ref C) (.type "list") = some true)
    (hi : IntsAre us ks) (hz : us.length ≤ 1000)
    (hf : ∀ k (hk : k < ks.length), ks[k] = v → (∀ j (hj : j < ks.length), j < k → ks[j] ≠ v) → ∀ us' n' h', IntsAre us' (ks.eraseIdx k) → Fr h₀ L h' m → News h₀ L h' (g (domObj C dx us'.toArray n')) → Q .none { s with heap := h' })
    (hn : v ∉ ks → ∀ h' tk e, Heap.NewExc s.heap h' e "ValueError" → E (.ref e) { s with heap := h', toks := tk }) :
    wpAny (model prog w) A (call (.builtin "list.remove") [.ref x, .int v tv]) Q E s := by
  have X := X₀.keeps F.keep
  have I := InstAt.of_seq N (UpdF.here U).1 hdx
  refine call_onSub X I hsub (.inl (by decide +kernel)) (nm := "remove") (by decide +kernel) (by decide +kernel) (b := Builtin.«list.remove») PySem.F.entry_list_remove (PySem.F.args_list_remove_2 _ _) ?_
  unfold Builtin.«list.remove»
  refine wpAny_bind (wpAny_pure ?_)
  refine wpAny_pure ⟨plainId_quiet PySem.MeetsSeq.plain_remove_loop _, ?_⟩
  refine code_remove_loop (C := C) (dx := dx) (n := n) hA I.at_ hi hz (fun k hk h1 h2 => ?_) (fun h1 h' tk e he => hn h1 h' tk e he) ks.length 0 (by omega) (by omega) (fun j _ h => absurd h (Nat.not_lt_zero _))
  obtain ⟨n2, F2, N2⟩ := upd_dom F N U (·.eraseIdxIfInBounds k)
  rw [eraseIB (by rw [IntsAre.len hi]; exact hk)] at N2
  exact hf k hk h1 h2 _ n2 _ (IntsAre.eraseIdx hi k) F2 N2
end
end Mine
end
section
open PySem PySem.W PySem.Calls PyProof.Rows Builtin Builtin.ObjectAttr Builtin.List
set_option maxRecDepth 100000
set_option maxHeartbeats 4000000
namespace Mine
section
variable {prog : Program} {w : World} {A : Around} {K : Frag} {C x dx L l : Addr} {s : Shared} {h₀ : Heap} {m : Str → Option Value} {news news' : List (Addr × Obj)} {g : Obj → List (Addr × Obj)} {R : Result → Shared → Prop} {E : Value → Shared → Prop}
  {od : Obj} {its : Array Value} {us vs : List Value} {ks ns : List Int} {n n' : Nat} {name : Str} {v : Int} {tv : Tok}
theorem len_L {Q : Value → Shared → Prop} (F : Fr h₀ L s.heap m) (X₀ : K.In h₀) (N : News h₀ L s.heap news) (hx : (x, domObj C dx us.toArray n) ∈ news) (hdx : (dx, od) ∈ news) (hsub : subIn K (.ref C) (.type "list") = some true)
    (hs : findIn K (.ref C) "__len__" = some (some (.builtin "list.__len__"))) (hz : us.length ≤ 1000)
    (h : ∀ tk, Q (.int (us.length : Nat) tk) { s with toks := s.toks + 1 + 1 }) : wpAny (model prog w) A (call (.builtin "len") [.ref x]) Q E s := by
  have X := X₀.keeps F.keep
  have I := InstAt.of_seq N hx hdx
  refine Calls.call_function_entry kind_len plain_len entry_len (args_len1 _) ?_
  unfold Builtin.«len»
  refine wpAny_bind (m := oneArg "len" _) (wpAny_pure ?_)
  refine wpAny_bind (m := callSpecial? (.ref x) (Str.ofString "__len__")) ?_
  unfold callSpecial? specialOf
  refine wpAny_bind (wpAny_bind (I.type.here ((looks_findIn X hs).here ?_)))
  refine wpAny_holding (wpAny_bind ?_)
  rw [PySem.F.slot_list_len.bind]
  refine wpAny_pure (wpAny_bind ?_)
  show wpAny _ _ (call (.builtin "list.__len__") [.ref x]) _ _ _
  refine call_onSub X I hsub (.inr (by decide +kernel)) (nm := "__len__") (by decide +kernel) (by decide +kernel) (b := Builtin.«list.__len__») PySem.F.entry_list_len (PySem.F.args_list_len_1 _) ?_
  unfold Builtin.«list.__len__»
  refine wpAny_bind (wpAny_pure ?_)
  dsimp only
  unfold seqSize
  refine wpAny_bind (wpAny_bind (wpAny_loadPart I.at_ (wpAny_pure ?_)))
  refine wpAny_bind (wpAny_mkInt (wpAny_pure ?_))
  refine wpAny_pure ?_
  refine wpAny_bind (wpAny_holding (wpAny_pure ?_))
  refine wpAny_bind (wpAny_letGo ?_)
  rw [List.size_toArray]
  rw [if_neg (by omega), if_neg (by omega)]
  exact wpAny_bind (wpAny_mkInt (wpAny_pure ⟨_, rfl, h _⟩))
end
end Mine
end
section
open PySem PySem.W PySem.Calls PyProof.Rows Builtin Builtin.ObjectAttr Builtin.List
set_option maxRecDepth 100000
set_option maxHeartbeats 4000000
namespace Mine
/-- picking by a test that holds from a on -/
theorem pick_from {p : Nat → Bool} (a n : Nat) (hp : ∀ i : Nat, p i = (decide ((a : Int) ≤ (i : Int)) && decide ((i : Int) < (n : Int)) && (((i : Int) - (a : Int)) % 1 == 0))) : ∀ (xs : List Value) (i : Nat), i + xs.length ≤ n →
    ((xs.zipIdx i).filterMap fun (x, k) => if p k then none else some x) = xs.take (a - i)
  | [], i, _ => by simp
  | x :: xs, i, h => by
    rw [List.zipIdx_cons]
    simp only [List.length_cons] at h
    have ih := pick_from a n hp xs (i + 1) (by omega)
    by_cases ha : a ≤ i
    · have hs : p i = true := by
        rw [hp]
        simp only [Bool.and_eq_true, decide_eq_true_eq, beq_iff_eq]
        refine ⟨⟨by omega, by omega⟩, by omega⟩
      rw [List.filterMap_cons, show a - i = 0 by omega]
      simp only [hs, if_true]
      rw [ih, show a - (i + 1) = 0 by omega]
      simp
    · have hs : p i = false := by
        rw [hp]
        have : decide ((a : Int) ≤ (i : Int)) = false := by simp; omega
        rw [this]; simp
      rw [List.filterMap_cons]
      simp only [hs, Bool.false_eq_true, if_false]
      rw [ih, show a - i = (a - (i + 1)) + 1 by omega]
      simp
section
variable {prog : Program} {w : World} {A : Around} {K : Frag} {C x dx L l D : Addr} {s : Shared} {h₀ h : Heap} {m : Str → Option Value} {news news' : List (Addr × Obj)} {g : Obj → List (Addr × Obj)} {R : Result → Shared → Prop} {E : Value → Shared → Prop}
  {od : Obj} {its : Array Value} {us vs : List Value} {ks ns : List Int} {n n' : Nat} {name : Str} {v : Int} {tv : Tok}
/-- where a cut from the end begins -/
def cutFrom (lo : Option Int) (n : Nat) : Nat := (sliceBounds lo none none n).1.toNat
theorem cutFrom_none (n : Nat) : cutFrom none n = 0 := rfl
theorem cutFrom_neg (d : Int) (n : Nat) (h0 : 0 < d) (h1 : d ≤ n) : cutFrom (some (-d)) n = n - d.toNat := by
  unfold cutFrom sliceBounds
  simp only [Option.getD_none]
  rw [if_pos (by decide), if_pos (by omega)]
  omega
theorem delItem_cut {sl : Addr} {vl : Value} {lo : Option Int} {Q : Unit → Shared → Prop} (F : Fr h₀ L s.heap m) (N : News h₀ L s.heap news) (U : UpdF D (W.listOf us.toArray n) news g) (hs : s.heap.IsSliceOf sl vl .none .none) (pl : IsPart vl lo) (hz : us.length ≤ 1000)
    (h : ∀ n' h', Fr h₀ L h' m → News h₀ L h' (g (W.listOf (us.take (cutFrom lo us.length)).toArray n')) → Q () { s with heap := h' }) :
    wpAny (model prog w) A (delItem (.ref D) (.ref sl)) Q E s := by
  have ho := (N _ (UpdF.here U).1).1
  obtain ⟨os, hos, hcs, hds⟩ := id hs
  have hTs : s.TypeIs (.ref sl) "slice" := ⟨os, hos, hcs⟩
  have hTd : s.TypeIs (.ref D) "list" := ⟨_, ho, rfl⟩
  unfold delItem
  refine wpAny_holding ?_
  refine wpAny_bind (wpAny_sequenceKey hTd (by decide) ?_)
  refine wpAny_bind (wpAny_callSpecial?_slot (name := Str.ofString "__delitem__") hTd PySem.F.slot_list_delitem
    (wpAny_call_entry PySem.F.slot_list_delitem hTd PySem.F.entry_list_delitem ?_ (PySem.F.args_list_delitem_2 _ _)))
  unfold Builtin.«list.__delitem__»
  refine wpAny_bind (wpAny_pure ?_)
  dsimp only
  refine wpAny_bind ?_
  unfold Builtin.List.listSubscript?
  refine wpAny_bind (wpAny_specialOf hTs slice_no_index ?_)
  simp only [Option.isNone_none, if_true]
  refine wpAny_pure ?_
  refine wpAny_bind (wpAny_typeOf hTs ?_)
  rw [if_neg (by decide)]
  rw [listSliceParts_eq]
  refine wpAny_bind (wpAny_bind (wpAny_field hos hds (x := .none) rfl (wpAny_bind (wpAny_listPart .none ?_))))
  rw [if_neg (show ¬ ((rawPart none == rawInt 0) = true) from Bool.false_ne_true)]
  refine wpAny_bind (wpAny_field hos hds (x := vl) rfl (wpAny_bind (wpAny_listPart pl ?_)))
  refine wpAny_bind (wpAny_field hos hds (x := .none) rfl (wpAny_bind (wpAny_listPart .none (wpAny_pure ?_))))
  refine wpAny_bind (listItems_at ho rfl ?_)
  refine wpAny_bind (wpAny_of_eq (sliceIndices_raw lo none none us.toArray.size (by simp)) ?_)
  refine wpAny_bind (wpAny_rule ?_)
  have hb : (sliceBounds lo none none us.toArray.size).1 = ((cutFrom lo us.length : Nat) : Int) ∧ (sliceBounds lo none none us.toArray.size).2.1 = ((us.length : Nat) : Int) ∧ (sliceBounds lo none none us.toArray.size).2.2 = 1 := by
    refine ⟨?_, ?_, rfl⟩
    · rw [List.size_toArray]
      unfold cutFrom
      rw [Int.toNat_of_nonneg]
      unfold sliceBounds
      simp only [Option.getD_none]
      cases lo with
      | none => simp
      | some i => simp only [show (1 : Int) > 0 by decide, if_true]; omega
    · rw [List.size_toArray]; rfl
  rw [hb.1, hb.2.1, hb.2.2]
  have key : ∀ f : Array Value → Array Value, f us.toArray = (us.take (cutFrom lo us.length)).toArray → Q () { s with heap := s.heap.update D (Obj.mapSeq f) } := fun f hf => by
    obtain ⟨n1, F1, N1⟩ := upd_list F N U f
    rw [hf] at N1
    exact h n1 _ F1 N1
  refine wpAny_bind (listUpdate_at ho rfl ?_ (by rw [List.size_toArray, sizeLine_eq]; omega) ?_)
  · refine wpAny_bind (wpAny_letGo ?_)
    refine wpAny_pure ⟨_, rfl, ?_⟩
    refine wpAny_pure (key _ ?_)
    exact congrArg List.toArray (pick_from _ _ (fun i => rfl) us 0 (by simp))
  · refine Nat.le_trans (Nat.le_of_eq (congrArg (fun l : List Value => l.toArray.size) (pick_from (cutFrom lo us.length) us.length (fun i => rfl) us 0 (by simp)))) ?_
    simp [sizeLine_eq]; omega
theorem delItem_cutK {vl : Value} {lo : Option Int} {Q : Unit → Shared → Prop} {gs : Array GenState} {d : Drawn} {t : Nat} {os : OsState} (F : Fr h₀ L h m) (N : News h₀ L h news) (U : UpdF D (W.listOf us.toArray n) news g) (pl : IsPart vl lo) (hz : us.length ≤ 1000)
    (hq : ∀ n' h', Fr h₀ L h' m → News h₀ L h' (g (W.listOf (us.take (cutFrom lo us.length)).toArray n')) → Q () ⟨h', gs, d, t, os⟩) :
    wpAny (model prog w) A (delItem (.ref D) (.ref h.objs.size)) Q E ⟨h.push { cls := .type "slice", data := .fields #[vl, .none, .none] }, gs, d, t, os⟩ :=
  delItem_cut (s := ⟨h.push { cls := .type "slice", data := .fields #[vl, .none, .none] }, gs, d, t, os⟩) (F.push _) (fun p hp => ⟨Heap.get?_push_of_some _ (N p hp).1, (N p hp).2⟩) U (Heap.IsSliceOf.new ..) pl hz hq
end
end Mine
namespace Mine
section
variable {prog : Program} {w : World} {A : Around} {E : Value → Shared → Prop} {s : Shared} {h₀ : Heap} {L l : Addr} {m : Str → Option Value} {news : List (Addr × Obj)} {us : List Value} {n : Nat} {value slice : Expr} {vl : Value} {lo : Option Int} {Q : Value → Shared → Prop}
theorem slice_cut (F : Fr h₀ L s.heap m) (N : News h₀ L s.heap news) (hm : (l, W.listOf us.toArray n) ∈ news) (pl : IsPart vl lo) (hz : us.length ≤ 1000)
    (h : ∀ D h', Fr h₀ L h' m → News h₀ L h' ((D, W.listOf (us.drop (cutFrom lo us.length)).toArray 0) :: news) → (∀ p ∈ news, p.1 < D) → Q (.ref D) { s with heap := h' })
    (hs : subscripted slice false (.ref l) (.ref s.heap.objs.size) = operate [.ref s.heap.objs.size, .ref l] (getItem (.ref l) (.ref s.heap.objs.size))) (ht : ∀ r, letTemporaryGo value (.ref l) r = pure ()) :
    wpAny (model prog w) A (subscriptTail value slice (.ref l) (.ref s.heap.objs.size)) Q E { s with heap := s.heap.push { cls := .type "slice", data := .fields #[vl, .none, .none] } } := by
  refine kmk_slice F N ⟨_, (N _ hm).1, rfl, n, rfl⟩ pl .none (fun D h' F' N' l1 => h D h' F' ?_ l1) hs ht (by rw [List.size_toArray, sizeLine_eq]; omega)
  have e : slicePick us.toArray lo none none = (us.drop (cutFrom lo us.length)).toArray := by
    have hb : sliceBounds lo none none us.toArray.size = (((cutFrom lo us.length : Nat) : Int), ((us.length : Nat) : Int), 1) := by
      refine Prod.ext ?_ (Prod.ext ?_ rfl)
      · rw [List.size_toArray]
        unfold cutFrom
        rw [Int.toNat_of_nonneg]
        unfold sliceBounds
        simp only [Option.getD_none]
        cases lo with
        | none => simp
        | some i => simp only [show (1 : Int) > 0 by decide, if_true]; omega
      · rw [List.size_toArray]; rfl
    rw [kmk_pick_nat us.toArray hb]
    congr 1
    rw [List.take_of_length_le (by simp)]
  rw [e] at N'
  exact N'
end
end Mine
end
section
open PySem PySem.W PySem.Calls PyProof.Rows Builtin Builtin.ObjectAttr Builtin.List
set_option maxRecDepth 100000
set_option maxHeartbeats 4000000
namespace Mine
section
variable {prog : Program} {w : World} {A : Around} {E : Value → Shared → Prop} {s : Shared} {h₀ : Heap} {L D : Addr} {m : Str → Option Value} {news : List (Addr × Obj)} {us : List Value} {n : Nat} {Q : Value → Shared → Prop}
theorem pop_none (hA : A.handled = none) (N : News h₀ L s.heap news) (hm : (D, W.listOf us.toArray n) ∈ news) (he : us = [])
    (h : ∀ h' tk e, Heap.NewExc s.heap h' e "IndexError" → E (.ref e) { s with heap := h', toks := tk }) : wpAny (model prog w) A (call (.builtin "list.pop") [.ref D]) Q E s := by
  have z := N _ hm
  exact call_meets PySem.F.slot_list_pop ⟨_, z.1, rfl⟩ PySem.F.entry_list_pop (PySem.F.args_list_pop_1 _) (PySem.AutoListH.list_pop_list_0 D us.toArray n (by rw [he]; rfl)) ⟨z.1, hA, h⟩
end
end Mine
end
section
open PySem PySem.W PySem.Calls PyProof.Rows
set_option maxRecDepth 100000
set_option maxHeartbeats 4000000
namespace Mine
section
variable {prog : Program} {w : World} {A₀ A : Around} {s : Shared} {base h₀ g₀ : Heap} {env : Env} {L : Addr} {m : Str → Option Value} {news : List (Addr × Obj)} {K : Frag} {p : Program} {loose : List Str} {mean : ExcName → Option Value} {mg mb : Str → Option Value}
    {R : Result → Shared → Prop} {name qual : Str} {params : Arguments} {body : List Stmt} {scope : Scope} {dV kV doc pm cdv ct oc : Value} {an od : Option Addr} {osl : Array (Option Value)} {f : Addr} {args : Args} {binds : List (Str × Value)}
theorem oneFrame (hf : env.frame = some L) {b : Addr} (hb : b ∈ [env].filterMap (·.frame)) : b = L := by
  simp only [List.filterMap_cons, hf, List.filterMap_nil, List.mem_singleton] at hb
  exact hb
/-- entering a def whose body holds a try, from a frame that may have cells -/
theorem code_defS0E (B : Below A₀ base [] h₀) (F : Fr h₀ L s.heap m) (X₀ : K.In h₀) (N : News h₀ L s.heap news) (T : Top p loose mean mg mb h₀) (hA : A.frames = some [env]) (hf : env.frame = some L)
    (ho : K.lookup f = some ⟨oc, od, .func (fnOf name qual params body scope dV kV doc pm an cdv ct), osl⟩) (hcd : codeIn K cdv qual = true) (hroom : A.depth < recursionLimit)
    (hbind : BindsTo s (fnOf name qual params body scope dV kV doc pm an cdv ct) args binds) (hloc : ∀ y ∈ binds, scope.names.lookup y.1 = some .local)
    (h : ∀ g L' h₁, Fr h₀ L g m → Fr g L' h₁ (fun y => binds.reverse.lookup y) → News g L' h₁ news → Below A base [env] g → K.In g → Top p loose mean mg mb g → KtsDicts ([env].filterMap (·.frame)) g →
      wpAny (model prog w) (A.deeper (envOf qual scope L' f cdv)) (execs body (envOf qual scope L' f cdv))
        (fun fl s' => LeaveS0 ([env].filterMap (·.frame)) h₀ L m g R (match fl with | .ret v => v | _ => .none) s')
        (fun e s' => wpAny (model prog w) (A.deeper (envOf qual scope L' f cdv)) (leaving (envOf qual scope L' f cdv) e) (fun _ s'' => R (.error e) s'') (fun e' s'' => R (.error e') s'') s')
        { s with heap := h₁, toks := s.toks + binds.length })
    (hck : env.scope.kind = .function) (hco : scope.isCoroutine = false) (hgen : scope.isGenerator = false) (hk : scope.kind = .function)
    (hcell : ∀ x ∈ scope.names, x.2 ≠ .cell) : codeAny (model prog w) A (.call (.ref f) args) R s := by
  have X := X₀.keeps F.keep
  refine codeAny_call_def (fd := fnOf name qual params body scope dV kV doc pm an cdv ct) (body := body) (binds := binds) hroom (X _ _ ho) rfl (T.nolimit.keeps F.keep) (codeRec_of X hcd) rfl hbind hcell hloc (fun h₁ hns hk₁ => ?_) hco hgen hk
  have nm : ∀ b o, h₀.get? b = some o → b ∉ news.map (·.1) := fun b o e q => by
    obtain ⟨p, hp, rfl⟩ := List.mem_map.mp q
    rw [(N p hp).2.2] at e; cases e
  have st : h₀.StaysIn (hideAll s.heap (news.map (·.1))) := fun b o e => hideAll_get _ (F.keep b o e) (nm b o e)
  obtain ⟨oL, es, ep, hL, hLd, hLk, hLf⟩ := F.ns
  have nL : L ∉ news.map (·.1) := fun q => by
    obtain ⟨p, hp, e⟩ := List.mem_map.mp q
    exact (N p hp).2.1 e
  have hLg := hideAll_get (news.map (·.1)) hL nL
  have hN : ∀ (sl : Array (Option Value)) h', h'.get? L = some { oL with slots := sl } → Heap.Ns h' L m := fun sl h' e => ⟨_, es, ep, e, hLd, hLk, hLf⟩
  have nL₀ : h₀.get? L = none := kts_self F
  have hbn : base.get? L = none := by
    cases hq : base.get? L with
    | none => rfl
    | some o => have := B.stays L o hq; rw [nL₀] at this; cases this
  have B₂ : Below A base [env] (hideAll s.heap (news.map (·.1))) := ⟨hA, fun b o e => st b o (B.stays b o e),
    .cons (by rw [hck]; decide) hf ⟨oL, es, ep, hLg, hLd, hLk, hLf⟩ hbn trivial⟩
  refine wpAny_mono (h _ s.heap.objs.size h₁ ⟨⟨oL, es, ep, hLg, hLd, hLk, hLf⟩, st, F.above⟩ ⟨hns, fun b o e => hk₁ b o (of_hideAll _ e), Nat.le_of_eq (hideAll_size _ _)⟩
    (fun p hp => ⟨hk₁ _ _ (N p hp).1, Nat.ne_of_lt (Heap.lt_size (N p hp).1), hideAll_none _ (List.mem_map_of_mem hp)⟩) B₂ (X₀.keeps st) (T.keeps st) (fun b hb => by
      rw [oneFrame hf hb]
      exact ⟨oL, es, ep, hLg, hLd⟩)) (fun fl s' hl => ?_) fun _ _ y => y
  obtain ⟨g', L', m', news', T', F', N', k⟩ := hl
  obtain ⟨sl, hs⟩ := T'.up hLg
  refine k ⟨hN sl _ (F'.keep _ _ hs), fun b o e => F'.keep b o (T'.other b o (st b o e) (fun q => by
    rw [oneFrame hf q, nL₀] at e
    cases e)), F.above⟩ fun p hp => ⟨(N' p hp).1, fun q => ?_, ?_⟩
  · have := (N' p hp).2.2; rw [q, hs] at this; cases this
  · cases q : h₀.get? p.1 with
    | none => rfl
    | some o =>
      obtain ⟨sl', hs'⟩ := T'.up (st _ _ q)
      have := (N' p hp).2.2
      rw [hs'] at this
      cases this
end
end Mine
end
section
open PySem PySem.W PyProof.Rows
namespace Mine
set_option maxRecDepth 100000
set_option maxHeartbeats 8000000
open_top hd for PySem.Challenge.rw_bm0019_01
end Mine
end
section
open PySem PySem.W PySem.Calls PyProof.Rows
namespace Mine
local macro_rules | `(tactic| k_inst) => `(tactic| (refine' Mine.InstAt.of_seq ?N ?h1 ?h2; (case N => k_asm); (case h1 => k_mem); (case h2 => k_mem)))
local macro_rules | `(tactic| walk_at "getMethod ref") => `(tactic| (k_here; k_dflt (refine' Mine.method_L ?k1 ?k2 ?k3 ?k4 ?k5 ?k6 ?k7 ?k8 ?k9 ?_; (case k1 => k_asm); (case k2 => k_asm); (case k3 => k_inst); (case k4 => k_is); (case k5 => k_is); (case k6 => k_is); (case k7 => first | exact .inl (by k_is) | exact .inr (by k_is)); (case k8 => k_get); (case k9 => exact rfl); k_whole)))
local macro_rules | `(tactic| walk_at "getAttr ref") => `(tactic| (k_here; k_dflt (refine' Mine.getA_own ?k1 ?k2 ?k3 ?k4 ?k5 ?k6 ?k7 ?k8 ?k9 ?k10 ?k11 ?_; (case k1 => k_asm); (case k2 => k_asm); (case k3 => k_inst); (case k4 => k_is); (case k5 => k_is); (case k6 => k_is); (case k7 => k_is); (case k8 => k_is); (case k9 => k_is); (case k10 => k_get); (case k11 => k_handed); k_whole)))
local macro_rules | `(tactic| walk_at "call builtin:len") => `(tactic| (k_here; (with_reducible show wpAny _ _ (call (Value.builtin "len") [Value.ref _]) _ _ _); k_dflt (refine' Mine.len_L ?k1 ?k2 ?k3 ?k4 ?k5 ?k6 ?k7 ?k8 ?_; (case k1 => k_asm); (case k2 => k_asm); (case k3 => k_asm); (case k4 => k_mem); (case k5 => k_mem); (case k6 => k_is); (case k7 => k_is); (case k8 => walk_at "mine_len"); k_whole); intro tk'))
local macro_rules | `(tactic| walk_at "mine_len") => `(tactic| ((try simp only [List.length_append, List.length_cons, List.length_nil, List.length_map]); first | omega | ((have hx1 := Mine.IntsAre.len (by assumption)); omega)))
local macro_rules | `(tactic| walk_at "call builtin:list.extend") => `(tactic| (k_here; (with_reducible show wpAny _ _ (call (Value.builtin "list.extend") [Value.ref _, Value.ref _]) _ _ _); k_dflt (refine' Mine.list_extend ?k1 ?k2 ?k3 ?k4 ?k5 ?k6 ?k7 ?k8 ?_; (case k1 => k_asm); (case k2 => k_asm); (case k3 => k_asm); (case k4 => k_updF); (case k5 => k_mem); (case k6 => k_is); (case k7 => is_list); (case k8 => walk_at "mine_len"); k_whole); intro n' h' F' N'; (try dsimp only at N'); (try k_sweep)))
local macro_rules | `(tactic| walk_at "delItem ref ref") => `(tactic| (k_here; k_dflt (refine' Mine.delItem_cutK ?F ?N ?U ?p ?z ?_; (case F => k_asm); (case N => k_asm); (case U => k_updF); (case p => first | exact IsPart.none | exact IsPart.int _ _); (case z => walk_at "mine_len"); k_whole); intro n' h' F' N'; (try dsimp only at N'); (try k_sweep)))
local macro_rules | `(tactic| walk_at "subscriptTail Name Slice ref ref") => `(tactic| (k_here; (with_reducible show wpAny _ _ (subscriptTail _ (PySem.Expr.Slice _ none none _) (Value.ref _) (Value.ref _)) _ _ _); k_dflt (refine' Mine.slice_cut ?F ?N ?l ?p ?z ?_ ?s ?t; (case F => k_asm); (case N => k_asm); (case l => k_mem); (case p => kmk_part); (case z => walk_at "mine_len"); (case s => with_unfolding_all rfl); (case t => kmk_pure)); intro D' h' F' N' l1; (try k_lt l1); (try k_sweep)))
local macro_rules | `(tactic| walk_at "mine_len") => `(tactic| ((try simp only [List.length_append, List.length_cons, List.length_nil, List.length_map, List.length_drop, List.length_take]); first | omega | ((have hx1 := Mine.IntsAre.len (by assumption)); omega)))
local macro_rules | `(tactic| walk_at "call builtin:list.pop") => `(tactic| (k_here; (with_reducible show wpAny _ _ (call (Value.builtin _) [Value.ref _]) _ _ _); k_dflt (refine' Mine.pop_none ?a ?N ?m ?e ?_; (case a => rfl); (case N => k_asm); (case m => k_mem); (case e => assumption); k_whole); intro h' tk' e' x'))
local macro_rules | `(tactic| walk_at "call builtin:list.remove") => `(tactic| (k_here; (with_reducible show wpAny _ _ (call (Value.builtin "list.remove") [Value.ref _, Value.int _ _]) _ _ _); k_dflt (refine' Mine.list_remove ?a ?F ?X ?N ?U ?d ?s ?i ?z ?_ ?_; (case a => rfl); (case F => k_asm); (case X => k_asm); (case N => k_asm); (case U => k_updF); (case d => k_mem); (case s => k_is); (case i => l_ints); (case z => walk_at "mine_len"); all_goals k_whole); (rotate_left; (intro hno' h' tk' e' x'); rotate_right; (intro k' hk' hk1' hk2' us' n' h' hI' F' N'; (try dsimp only at N'); (try k_sweep)))))
local macro_rules | `(tactic| walk_at "call ref") => `(tactic| (k_here; (fail_if_success k_inElt); kts_any; k_dflt (refine wpAny_call ?_; refine' Mine.code_defS0E ?k1 ?k2 ?k3 ?k4 ?k5 ?kA ?kF ?k6 ?k7 ?k8 ?k9 ?kB ?_ ?cK ?c2 ?c3 ?c4 ?c5; (case kA => exact rfl); (case kF => exact rfl); (case k2 => k_asm); (case k1 => k_asm); (case k3 => k_asm); (case k4 => k_asm); (case k5 => k_asm); (case k6 => k_is); (case k7 => k_is); (case k8 => k_room); (case k9 => first | exact binds_K (by k_in) rfl (by k_is) rfl rfl rfl | exact BindsTo.of_eq rfl | fail "kts_go: no rule for these arguments"); (case kB => exact locs rfl); (case cK => exact rfl); (case c2 => exact rfl); (case c3 => exact rfl); (case c4 => exact rfl); (case c5 => decide); k_whole; intro g' L' h' FG' F' N' B' X' T' D'; (try dsimp only); (try k_lift B'); (try k_fold))))
abbrev domDict (w : World) (H S : Addr) (t1 t2 : Tok) : Obj := dictOf [⟨PyData.keyHash w.params (Str.ofString "_hidden"), .str (Str.ofString "_hidden") t1, .ref H⟩, ⟨PyData.keyHash w.params (Str.ofString "_states"), .str (Str.ofString "_states") t2, .ref S⟩] 2
def Filler (_ : OpenLaw) (_ : Params → Frag) : Prop := True
theorem filler : Filler PySem.Challenge.rw_bm0019_01 Mine.hd.heap_39 := by
  k_fill
  exact trivial
theorem cutFrom_diff (c : Int) (n k : Nat) (h0 : (k : Int) ≤ c) (h1 : c ≤ k + n) (h2 : c - (k : Int) ≠ 0) : cutFrom (some (-(c - (k : Int)))) n = n - (c - (k : Int)).toNat :=
  cutFrom_neg _ _ (by omega) (by omega)
theorem IntsAre.take {vs : List Value} {ns : List Int} (h : IntsAre vs ns) : ∀ i, IntsAre (vs.take i) (ns.take i) := by
  induction h with
  | nil => intro i; simpa using IntsAre.nil
  | cons n t h ih =>
    intro i
    cases i with
    | zero => exact .nil
    | succ i => exact .cons n t (ih i)
theorem IntsAre.drop {vs : List Value} {ns : List Int} (h : IntsAre vs ns) : ∀ i, IntsAre (vs.drop i) (ns.drop i) := by
  induction h with
  | nil => intro i; simpa using IntsAre.nil
  | cons n t h ih =>
    intro i
    cases i with
    | zero => exact .cons n t h
    | succ i => exact ih i
theorem eraseIdx_erase (v : Int) : ∀ (l : List Int) (k : Nat) (hk : k < l.length), l[k] = v → (∀ j (hj : j < l.length), j < k → l[j] ≠ v) → l.eraseIdx k = l.erase v
  | a :: l, 0, _, h, _ => by
    have h : a = v := h
    subst h; simp
  | a :: l, k + 1, hk, h, h2 => by
    have h0 : a ≠ v := h2 0 (by simp) (by omega)
    rw [List.eraseIdx_cons_succ, List.erase_cons_tail (by simpa using h0)]
    rw [eraseIdx_erase v l k (by simpa using hk) (by simpa using h) fun j hj hjk e => h2 (j + 1) (by simpa using hj) (by omega) (by simpa using e)]
set_option maxRecDepth 100000 in
set_option maxHeartbeats 8000000 in
theorem deed_push {w : World} {h₀ : Heap} {L a : Addr} {D dd H S : Nat} {s : Shared} {m mg mb : Str → Option Value} {rest : List (Addr × Obj)} {cn : Str} {nm : List (Str × NameKind)} {mr : List (Str × Const)} {cd : Value} {mean : ExcName → Option Value}
    {deed val : Int} {td tv t1 t2 : Tok} {vs hs ss : List Value} {V Hd St : List Int} {n0 n1 n2 : Nat} {Q : Value → Shared → Prop} {E : Value → Shared → Prop}
    (X₀ : (Mine.hd.heap_39 w.params).In h₀) (B : Below callerA h₀ [] h₀) (T : Top hd.view_39 (looseW hd.view_39 []) mean mg mb h₀)
    (F : Fr h₀ L s.heap m) (N : News h₀ L s.heap ((D, domObj 59 dd vs.toArray n0) :: (dd, domDict w H S t1 t2) :: (H, W.listOf hs.toArray n1) :: (S, W.listOf ss.toArray n2) :: rest))
    (hd1 : D ≠ dd) (hd2 : D ≠ H) (hd3 : D ≠ S) (hd4 : dd ≠ H) (hd5 : dd ≠ S) (hd6 : H ≠ S) (hoff : OwnOff rest [D, dd, H, S])
    (iV : IntsAre vs V) (iH : IntsAre hs Hd) (iS : IntsAre ss St) (hzv : vs.length + hs.length ≤ 20) (hzs : ss.length ≤ 100)
    (h1 : deed < 2)
    (hQ : ∀ h' tk tk' vs' hs' ss' n0' n1' n2', Fr h₀ L h' m → News h₀ L h' ((D, domObj 59 dd vs'.toArray n0') :: (dd, domDict w H S t1 t2) :: (H, W.listOf hs'.toArray n1') :: (S, W.listOf ss'.toArray n2') :: rest) → IntsAre vs' V → IntsAre hs' Hd → IntsAre ss' (St ++ [(V.length : Int)]) → Q (.str (Str.ofString "done") tk') { s with heap := h', toks := tk }) :
    wpAny (model PySem.Challenge.pw_bm0019_01 w) (callerA.deeper (envOfC cn { kind := .function, names := nm, isGenerator := false, isCoroutine := false, more := mr } L a cd)) (call (.ref 75) [.ref D, .int deed td, .int val tv]) Q E s := by
  w_top off
  k_steps
  rename News h₀ L _ _ => kN
  simp only [List.push_toArray] at kN
  exact hQ _ _ _ vs hs _ _ _ _ (by assumption) kN iV iH (PyProof.Rows.IntsAre.append iS (by rw [IntsAre.len iV]; exact .cons _ _ .nil))
set_option maxRecDepth 100000 in
set_option maxHeartbeats 8000000 in
theorem deed_popE {w : World} {h₀ : Heap} {L a : Addr} {D dd H S : Nat} {s : Shared} {m mg mb : Str → Option Value} {rest : List (Addr × Obj)} {cn : Str} {nm : List (Str × NameKind)} {mr : List (Str × Const)} {cd : Value} {mean : ExcName → Option Value}
    {deed val : Int} {td tv t1 t2 : Tok} {vs hs ss : List Value} {V Hd St : List Int} {n0 n1 n2 : Nat} {Q : Value → Shared → Prop} {E : Value → Shared → Prop}
    (X₀ : (Mine.hd.heap_39 w.params).In h₀) (B : Below callerA h₀ [] h₀) (T : Top hd.view_39 (looseW hd.view_39 []) mean mg mb h₀)
    (F : Fr h₀ L s.heap m) (N : News h₀ L s.heap ((D, domObj 59 dd vs.toArray n0) :: (dd, domDict w H S t1 t2) :: (H, W.listOf hs.toArray n1) :: (S, W.listOf ss.toArray n2) :: rest))
    (hd1 : D ≠ dd) (hd2 : D ≠ H) (hd3 : D ≠ S) (hd4 : dd ≠ H) (hd5 : dd ≠ S) (hd6 : H ≠ S) (hoff : OwnOff rest [D, dd, H, S])
    (iV : IntsAre vs V) (iH : IntsAre hs Hd) (iS : IntsAre ss St) (hzv : vs.length + hs.length ≤ 20) (hzs : ss.length ≤ 100)
    (h1 : 2 ≤ deed) (h2 : deed < 4) (h3 : ss = [])
    (hQ : ∀ h' tk tk' vs' hs' ss' n0' n1' n2', Fr h₀ L h' m → News h₀ L h' ((D, domObj 59 dd vs'.toArray n0') :: (dd, domDict w H S t1 t2) :: (H, W.listOf hs'.toArray n1') :: (S, W.listOf ss'.toArray n2') :: rest) → IntsAre vs' V → IntsAre hs' Hd → IntsAre ss' St → Q (.str (Str.ofString "not saved") tk') { s with heap := h', toks := tk }) :
    wpAny (model PySem.Challenge.pw_bm0019_01 w) (callerA.deeper (envOfC cn { kind := .function, names := nm, isGenerator := false, isCoroutine := false, more := mr } L a cd)) (call (.ref 75) [.ref D, .int deed td, .int val tv]) Q E s := by
  w_top off
  k_steps
  rename News h₀ L _ _ => kN
  exact hQ _ _ _ vs hs ss _ _ _ (by assumption) kN iV iH iS
set_option maxRecDepth 100000 in
set_option maxHeartbeats 8000000 in
theorem deed_pop {w : World} {h₀ : Heap} {L a : Addr} {D dd H S : Nat} {s : Shared} {m mg mb : Str → Option Value} {rest : List (Addr × Obj)} {cn : Str} {nm : List (Str × NameKind)} {mr : List (Str × Const)} {cd : Value} {mean : ExcName → Option Value}
    {deed val : Int} {td tv t1 t2 : Tok} {vs hs ss : List Value} {V Hd St : List Int} {n0 n1 n2 : Nat} {Q : Value → Shared → Prop} {E : Value → Shared → Prop}
    (X₀ : (Mine.hd.heap_39 w.params).In h₀) (B : Below callerA h₀ [] h₀) (T : Top hd.view_39 (looseW hd.view_39 []) mean mg mb h₀)
    (F : Fr h₀ L s.heap m) (N : News h₀ L s.heap ((D, domObj 59 dd vs.toArray n0) :: (dd, domDict w H S t1 t2) :: (H, W.listOf hs.toArray n1) :: (S, W.listOf ss.toArray n2) :: rest))
    (hd1 : D ≠ dd) (hd2 : D ≠ H) (hd3 : D ≠ S) (hd4 : dd ≠ H) (hd5 : dd ≠ S) (hd6 : H ≠ S) (hoff : OwnOff rest [D, dd, H, S])
    (iV : IntsAre vs V) (iH : IntsAre hs Hd) (iS : IntsAre ss St) (hzv : vs.length + hs.length ≤ 20) (hzs : ss.length ≤ 100)
    (h1 : 2 ≤ deed) (h2 : deed < 4) (h3 : 0 < ss.length) (h4 : (vs.length : Int) ≤ St.getLastD 0) (h5 : St.getLastD 0 ≤ vs.length + hs.length)
    (hQ : ∀ h' tk tk' vs' hs' ss' n0' n1' n2', Fr h₀ L h' m → News h₀ L h' ((D, domObj 59 dd vs'.toArray n0') :: (dd, domDict w H S t1 t2) :: (H, W.listOf hs'.toArray n1') :: (S, W.listOf ss'.toArray n2') :: rest) → IntsAre vs' (V ++ Hd.drop (Hd.length - (St.getLastD 0 - (V.length : Int)).toNat)) → IntsAre hs' (Hd.take (Hd.length - (St.getLastD 0 - (V.length : Int)).toNat)) → IntsAre ss' St.dropLast → Q (.str (Str.ofString "done") tk') { s with heap := h', toks := tk }) :
    wpAny (model PySem.Challenge.pw_bm0019_01 w) (callerA.deeper (envOfC cn { kind := .function, names := nm, isGenerator := false, isCoroutine := false, more := mr } L a cd)) (call (.ref 75) [.ref D, .int deed td, .int val tv]) Q E s := by
  w_top off
  k_steps
  · rename News h₀ L _ _ => kN
    have hc := cutFrom_diff (St.getLastD 0) hs.length vs.length h4 h5 (by omega)
    rw [hc, IntsAre.len iH, IntsAre.len iV] at kN
    exact hQ _ _ _ _ _ _ _ _ _ (by assumption) (fun p hp => kN p (.tail _ hp)) (PyProof.Rows.IntsAre.append iV (IntsAre.drop iH _)) (IntsAre.take iH _) (by assumption)
  · rename News h₀ L _ _ => kN
    have e : (St.getLastD 0 - (V.length : Int)).toNat = 0 := by rw [← IntsAre.len iV]; omega
    rw [e] at hQ
    simp only [Nat.sub_zero, List.drop_length, List.append_nil, List.take_length] at hQ
    exact hQ _ _ _ vs hs _ _ _ _ (by assumption) kN iV iH (by assumption)
set_option maxRecDepth 100000 in
set_option maxHeartbeats 8000000 in
theorem deed_rest {w : World} {h₀ : Heap} {L a : Addr} {D dd H S : Nat} {s : Shared} {m mg mb : Str → Option Value} {rest : List (Addr × Obj)} {cn : Str} {nm : List (Str × NameKind)} {mr : List (Str × Const)} {cd : Value} {mean : ExcName → Option Value}
    {deed val : Int} {td tv t1 t2 : Tok} {vs hs ss : List Value} {V Hd St : List Int} {n0 n1 n2 : Nat} {Q : Value → Shared → Prop} {E : Value → Shared → Prop}
    (X₀ : (Mine.hd.heap_39 w.params).In h₀) (B : Below callerA h₀ [] h₀) (T : Top hd.view_39 (looseW hd.view_39 []) mean mg mb h₀)
    (F : Fr h₀ L s.heap m) (N : News h₀ L s.heap ((D, domObj 59 dd vs.toArray n0) :: (dd, domDict w H S t1 t2) :: (H, W.listOf hs.toArray n1) :: (S, W.listOf ss.toArray n2) :: rest))
    (hd1 : D ≠ dd) (hd2 : D ≠ H) (hd3 : D ≠ S) (hd4 : dd ≠ H) (hd5 : dd ≠ S) (hd6 : H ≠ S) (hoff : OwnOff rest [D, dd, H, S])
    (iV : IntsAre vs V) (iH : IntsAre hs Hd) (iS : IntsAre ss St) (hzv : vs.length + hs.length ≤ 20) (hzs : ss.length ≤ 100)
    (h1 : 4 ≤ deed)
    (hQ4 : deed = 4 → ∀ h' tk tk' vs' hs' ss' n0' n1' n2', Fr h₀ L h' m → News h₀ L h' ((D, domObj 59 dd vs'.toArray n0') :: (dd, domDict w H S t1 t2) :: (H, W.listOf hs'.toArray n1') :: (S, W.listOf ss'.toArray n2') :: rest) → IntsAre vs' (V ++ Hd) → IntsAre hs' ([] : List Int) → IntsAre ss' ([] : List Int) → Q (.str (Str.ofString "done") tk') { s with heap := h', toks := tk })
    (hQ5 : deed ≠ 4 → val ∈ V → ∀ h' tk tk' vs' hs' ss' n0' n1' n2', Fr h₀ L h' m → News h₀ L h' ((D, domObj 59 dd vs'.toArray n0') :: (dd, domDict w H S t1 t2) :: (H, W.listOf hs'.toArray n1') :: (S, W.listOf ss'.toArray n2') :: rest) → IntsAre vs' (V.erase val) → IntsAre hs' (Hd ++ [val]) → IntsAre ss' St → Q (.str (Str.ofString "done") tk') { s with heap := h', toks := tk })
    (hQ6 : deed ≠ 4 → val ∉ V → ∀ h' tk tk' vs' hs' ss' n0' n1' n2', Fr h₀ L h' m → News h₀ L h' ((D, domObj 59 dd vs'.toArray n0') :: (dd, domDict w H S t1 t2) :: (H, W.listOf hs'.toArray n1') :: (S, W.listOf ss'.toArray n2') :: rest) → IntsAre vs' V → IntsAre hs' Hd → IntsAre ss' St → Q (.str (Str.ofString "not shown") tk') { s with heap := h', toks := tk }) :
    wpAny (model PySem.Challenge.pw_bm0019_01 w) (callerA.deeper (envOfC cn { kind := .function, names := nm, isGenerator := false, isCoroutine := false, more := mr } L a cd)) (call (.ref 75) [.ref D, .int deed td, .int val tv]) Q E s := by
  w_top off
  k_steps
  · rename News h₀ L _ _ => kN
    simp only [cutFrom_none, List.take_zero] at kN
    exact hQ4 (by assumption) _ _ _ (vs ++ hs) [] [] _ _ _ (by assumption) kN (PyProof.Rows.IntsAre.append iV iH) .nil .nil
  · rename News h₀ L _ _ => kN
    simp only [List.push_toArray] at kN
    rename ∀ j (hj : j < V.length), j < _ → V[j] ≠ val => hfirst
    rename IntsAre _ (V.eraseIdx _) => hI9
    rename V[_] = val => hat
    rw [eraseIdx_erase val V _ (by assumption) hat hfirst] at hI9
    exact hQ5 (by assumption) (hat ▸ List.getElem_mem _) _ _ _ _ _ _ _ _ _ (by assumption) kN hI9 (PyProof.Rows.IntsAre.append iH (.cons _ _ .nil)) iS
  · rename News h₀ L _ _ => kN
    exact hQ6 (by assumption) (by assumption) _ _ _ vs hs ss _ _ _ (by assumption) kN iV iH iS
end Mine
end
section
open PySem PySem.W PySem.Calls PyProof.Rows
namespace Mine
theorem offLt {d x : Nat} : ∀ {l : List (Addr × Obj)}, AllLt d l → d ≤ x → ∀ p ∈ l, p.1 ≠ x
  | [], _, _, _, hp => nomatch hp
  | q :: l, h, hx, p, hp => by
    have h1 : q.1 < d := h.1
    rcases List.mem_cons.mp hp with rfl | hp
    · exact neN (Nat.ne_of_lt (Nat.lt_of_lt_of_le h1 hx))
    · exact offLt h.2 hx p hp
local macro_rules | `(tactic| k_inst) => `(tactic| (refine' Mine.InstAt.of_seq ?N ?h1 ?h2; (case N => k_asm); (case h1 => k_mem); (case h2 => k_mem)))
local macro_rules | `(tactic| walk_at "getMethod ref") => `(tactic| (k_here; k_dflt (refine' Mine.method_L ?k1 ?k2 ?k3 ?k4 ?k5 ?k6 ?k7 ?k8 ?k9 ?_; (case k1 => k_asm); (case k2 => k_asm); (case k3 => k_inst); (case k4 => k_is); (case k5 => k_is); (case k6 => k_is); (case k7 => first | exact .inl (by k_is) | exact .inr (by k_is)); (case k8 => k_get); (case k9 => exact rfl); k_whole)))
local macro_rules | `(tactic| walk_at "getAttr ref") => `(tactic| (k_here; k_dflt (refine' Mine.getA_own ?k1 ?k2 ?k3 ?k4 ?k5 ?k6 ?k7 ?k8 ?k9 ?k10 ?k11 ?_; (case k1 => k_asm); (case k2 => k_asm); (case k3 => k_inst); (case k4 => k_is); (case k5 => k_is); (case k6 => k_is); (case k7 => k_is); (case k8 => k_is); (case k9 => k_is); (case k10 => k_get); (case k11 => k_handed); k_whole)))
local macro_rules | `(tactic| walk_at "call builtin:len") => `(tactic| (k_here; (with_reducible show wpAny _ _ (call (Value.builtin "len") [Value.ref _]) _ _ _); k_dflt (refine' Mine.len_L ?k1 ?k2 ?k3 ?k4 ?k5 ?k6 ?k7 ?k8 ?_; (case k1 => k_asm); (case k2 => k_asm); (case k3 => k_asm); (case k4 => k_mem); (case k5 => k_mem); (case k6 => k_is); (case k7 => k_is); (case k8 => walk_at "mine_len"); k_whole); intro tk'))
local macro_rules | `(tactic| walk_at "mine_len") => `(tactic| ((try simp only [List.length_append, List.length_cons, List.length_nil, List.length_map]); first | omega | ((have hx1 := Mine.IntsAre.len (by assumption)); omega)))
local macro_rules | `(tactic| walk_at "call builtin:list.extend") => `(tactic| (k_here; (with_reducible show wpAny _ _ (call (Value.builtin "list.extend") [Value.ref _, Value.ref _]) _ _ _); k_dflt (refine' Mine.list_extend ?k1 ?k2 ?k3 ?k4 ?k5 ?k6 ?k7 ?k8 ?_; (case k1 => k_asm); (case k2 => k_asm); (case k3 => k_asm); (case k4 => k_updF); (case k5 => k_mem); (case k6 => k_is); (case k7 => is_list); (case k8 => walk_at "mine_len"); k_whole); intro n' h' F' N'; (try dsimp only at N'); (try k_sweep)))
local macro_rules | `(tactic| walk_at "delItem ref ref") => `(tactic| (k_here; k_dflt (refine' Mine.delItem_cutK ?F ?N ?U ?p ?z ?_; (case F => k_asm); (case N => k_asm); (case U => k_updF); (case p => first | exact IsPart.none | exact IsPart.int _ _); (case z => walk_at "mine_len"); k_whole); intro n' h' F' N'; (try dsimp only at N'); (try k_sweep)))
local macro_rules | `(tactic| walk_at "subscriptTail Name Slice ref ref") => `(tactic| (k_here; (with_reducible show wpAny _ _ (subscriptTail _ (PySem.Expr.Slice _ none none _) (Value.ref _) (Value.ref _)) _ _ _); k_dflt (refine' Mine.slice_cut ?F ?N ?l ?p ?z ?_ ?s ?t; (case F => k_asm); (case N => k_asm); (case l => k_mem); (case p => kmk_part); (case z => walk_at "mine_len"); (case s => with_unfolding_all rfl); (case t => kmk_pure)); intro D' h' F' N' l1; (try k_lt l1); (try k_sweep)))
local macro_rules | `(tactic| walk_at "mine_len") => `(tactic| ((try simp only [List.length_append, List.length_cons, List.length_nil, List.length_map, List.length_drop, List.length_take]); first | omega | ((have hx1 := Mine.IntsAre.len (by assumption)); omega)))
local macro_rules | `(tactic| walk_at "call builtin:list.pop") => `(tactic| (k_here; (with_reducible show wpAny _ _ (call (Value.builtin _) [Value.ref _]) _ _ _); k_dflt (refine' Mine.pop_none ?a ?N ?m ?e ?_; (case a => rfl); (case N => k_asm); (case m => k_mem); (case e => assumption); k_whole); intro h' tk' e' x'))
local macro_rules | `(tactic| walk_at "call builtin:list.remove") => `(tactic| (k_here; (with_reducible show wpAny _ _ (call (Value.builtin "list.remove") [Value.ref _, Value.int _ _]) _ _ _); k_dflt (refine' Mine.list_remove ?a ?F ?X ?N ?U ?d ?s ?i ?z ?_ ?_; (case a => rfl); (case F => k_asm); (case X => k_asm); (case N => k_asm); (case U => k_updF); (case d => k_mem); (case s => k_is); (case i => l_ints); (case z => walk_at "mine_len"); all_goals k_whole); (rotate_left; (intro hno' h' tk' e' x'); rotate_right; (intro k' hk' hk1' hk2' us' n' h' hI' F' N'; (try dsimp only at N'); (try k_sweep)))))
local macro_rules | `(tactic| walk_at "call ref") => `(tactic| (k_here; (fail_if_success k_inElt); kts_any; k_dflt (refine wpAny_call ?_; refine' Mine.code_defS0E ?k1 ?k2 ?k3 ?k4 ?k5 ?kA ?kF ?k6 ?k7 ?k8 ?k9 ?kB ?_ ?cK ?c2 ?c3 ?c4 ?c5; (case kA => exact rfl); (case kF => exact rfl); (case k2 => k_asm); (case k1 => k_asm); (case k3 => k_asm); (case k4 => k_asm); (case k5 => k_asm); (case k6 => k_is); (case k7 => k_is); (case k8 => k_room); (case k9 => first | exact binds_K (by k_in) rfl (by k_is) rfl rfl rfl | exact BindsTo.of_eq rfl | fail "kts_go: no rule for these arguments"); (case kB => exact locs rfl); (case cK => exact rfl); (case c2 => exact rfl); (case c3 => exact rfl); (case c4 => exact rfl); (case c5 => decide); k_whole; intro g' L' h' FG' F' N' B' X' T' D'; (try dsimp only); (try k_lift B'); (try k_fold))))
local macro_rules | `(tactic| walk_at "call ref") => `(tactic| (k_here; k_dflt ((refine' Mine.call_clsL (fI := 28) ?k1 ?k2 ?k3 ?k4 ?k5 ?k6 ?_; (case k1 => k_asm); (case k2 => k_asm); (case k3 => k_asm); (case k4 => kernel_rfl); (case k5 => k_is); (case k6 => k_is); k_whole; intro x' d' h' F' N' l1 l2; (try k_lt l1); (try k_lt2 l2); (try k_sweep); k_enter))))
local macro_rules | `(tactic| walk_at "getMethod type:list") => `(tactic| (k_here; refine' method_type ?F ?X ?m (by decide +kernel) ?e ?h ?_; (case F => k_asm); (case X => k_asm); (case m => kernel_rfl); (case e => k_dflt k_is); (case h => k_handed)))
local macro_rules | `(tactic| walk_at "call builtin:list.__init__") => `(tactic| (k_here; (with_reducible show wpAny _ _ (call (Value.builtin "list.__init__") [Value.ref _, Value.ref _]) _ _ _); k_dflt (refine' Mine.list_init ?k1 ?k2 ?k3 ?k4 ?k5 ?k6 ?k7 ?k8 ?_; (case k1 => k_asm); (case k2 => k_asm); (case k3 => k_asm); (case k4 => k_updF); (case k5 => k_mem); (case k6 => k_is); (case k7 => is_list); (case k8 => walk_at "mine_len"); k_whole); intro n' h' F' N'; (try dsimp only at N'); (try k_sweep)))
local macro_rules | `(tactic| walk_at "setAttr ref") => `(tactic| (k_here; k_dflt (refine' Mine.set_dictL ?k1 ?k2 ?k3 ?k4 ?k5 ?k6 ?k7 ?k8 ?k9 ?k10 ?k11 ?k12 ?k13 ?_; (case k1 => k_asm); (case k2 => k_asm); (case k3 => k_asm); (case k4 => k_inst); (case k5 => exact rfl); (case k6 => k_is); (case k7 => kernel_rfl); (case k8 => k_is); (case k9 => k_is); (case k10 => k_get); (case k11 => k_put); (case k12 => k_upd); (case k13 => exact Nat.le_of_ble_eq_true rfl); k_whole); intro h' F' N'; (try k_sweep)))
local macro_rules | `(tactic| k_all) => `(tactic| (refine' Mine.offLt ?h ?le; (case h => walk_at "mine_allLt"); (case le => omega)))
local macro_rules | `(tactic| walk_at "mine_allLt") => `(tactic| first | assumption | exact And.right (by assumption) | exact And.right (And.right (by assumption)) | exact And.right (And.right (And.right (by assumption))) | exact And.right (And.right (And.right (And.right (by assumption)))) | exact And.right (And.right (And.right (And.right (And.right (by assumption))))) | exact And.right (And.right (And.right (And.right (And.right (And.right (by assumption)))))))
theorem filler2 : Filler PySem.Challenge.rw_bm0019_01 Mine.hd.heap_39 := by
  k_fill
  exact trivial
set_option maxRecDepth 100000 in
set_option maxHeartbeats 8000000 in
theorem dom_make {w : World} {h₀ : Heap} {L a : Addr} {l : Nat} {s : Shared} {m mg mb : Str → Option Value} {rest : List (Addr × Obj)} {cn : Str} {nm : List (Str × NameKind)} {mr : List (Str × Const)} {cd : Value} {mean : ExcName → Option Value}
    {vs : List Value} {nl : Nat} {Q : Value → Shared → Prop} {E : Value → Shared → Prop}
    (X₀ : (Mine.hd.heap_39 w.params).In h₀) (B : Below callerA h₀ [] h₀) (T : Top hd.view_39 (looseW hd.view_39 []) mean mg mb h₀)
    (F : Fr h₀ L s.heap m) (N : News h₀ L s.heap ((l, W.listOf vs.toArray nl) :: rest)) (hz : vs.length ≤ 20)
    (hQ : ∀ D dd H S n0 t1 t2 h' tk, @LT.lt Nat _ l dd → AllLt dd rest → @LT.lt Nat _ dd D → @LT.lt Nat _ D H → @LT.lt Nat _ H S → Fr h₀ L h' m →
      News h₀ L h' ((S, W.listOf #[] 0) :: (H, W.listOf #[] 0) :: (D, domObj 59 dd vs.toArray n0) :: (dd, domDict w H S t1 t2) :: (l, W.listOf vs.toArray nl) :: rest) → Q (.ref D) { s with heap := h', toks := tk }) :
    wpAny (model PySem.Challenge.pw_bm0019_01 w) (callerA.deeper (envOfC cn { kind := .function, names := nm, isGenerator := false, isCoroutine := false, more := mr } L a cd)) (call (.ref 59) [.ref l]) Q E s := by
  w_top off
  k_steps
  refine' hQ _ _ _ _ _ _ _ _ _ ?a ?b ?c ?d ?e ?F ?N
  case F => k_asm
  case N => k_asm
  case b => walk_at "mine_allLt"
  all_goals omega
end Mine
end
section
open PySem PySem.W PyProof.Rows
set_option maxHeartbeats 1000000
namespace Mine
structure LtOrd (lt : Nat → Nat → Bool) (n : Nat) : Prop where
  tot : ∀ i j, i < n → j < n → i ≠ j → lt i j = true ∨ lt j i = true
  asym : ∀ i j, i < n → j < n → lt i j = true → lt j i = false
  trans : ∀ i j k, i < n → j < n → k < n → lt i j = true → lt j k = true → lt i k = true
def PermR (p : Array Nat) (n : Nat) : Prop := p.toList.Perm (List.range n)
theorem PermR.size {p : Array Nat} {n : Nat} (h : PermR p n) : p.size = n := by
  have := h.length_eq
  simpa using this
theorem PermR.lt {p : Array Nat} {n : Nat} (h : PermR p n) {i : Nat} (hi : i < n) : p.getD i 0 < n := by
  have hs := h.size
  have hm : p.getD i 0 ∈ p.toList := by
    rw [Array.getD, dif_pos (by omega)]
    exact Array.getElem_mem_toList _
  simpa using h.mem_iff.mp hm
theorem PermR.ne {p : Array Nat} {n : Nat} (h : PermR p n) {i j : Nat} (hi : i < n) (hj : j < n) (hij : i ≠ j) : p.getD i 0 ≠ p.getD j 0 := by
  have hs := h.size
  have hnd : p.toList.Nodup := h.nodup_iff.mpr List.nodup_range
  rw [Array.getD, dif_pos (by omega), Array.getD, dif_pos (by omega)]
  intro e
  have hpw := List.pairwise_iff_getElem.mp hnd
  have e' : p.toList[i]'(by simpa [hs] using hi) = p.toList[j]'(by simpa [hs] using hj) := by simpa using e
  rcases Nat.lt_or_gt_of_ne hij with hlt | hlt
  · exact hpw i j _ _ hlt e'
  · exact hpw j i _ _ hlt e'.symm
theorem PermR.of_perm {p q : Array Nat} {n : Nat} (h : PermR p n) (hq : q.Perm p) : PermR q n := (Array.perm_iff_toList_perm.mp hq).trans h
def SortedTo' (lt : Nat → Nat → Bool) (p : Array Nat) (k : Nat) : Prop := ∀ i j, i < j → j < k → lt (p.getD i 0) (p.getD j 0) = true
def DescTo' (lt : Nat → Nat → Bool) (p : Array Nat) (k : Nat) : Prop := ∀ i j, i < j → j < k → lt (p.getD j 0) (p.getD i 0) = true
theorem getD_of {p q : Array Nat} {i j : Nat} (h : p[i]? = q[j]?) : p.getD i 0 = q.getD j 0 := by
  rw [Array.getD_eq_getD_getElem?, Array.getD_eq_getD_getElem?, h]
theorem ask_ok {α : Type} {cmp : Nat → Nat → (Bool → Shared → Prop) → Shared → Prop} {T₁ T₂ : KasT α} {Q : α → Shared → Prop} {s : Shared} {b : Bool} (h1 : b = true → T₁.kasWp cmp Q s) (h2 : ¬ b = true → T₂.kasWp cmp Q s) : (if b = true then T₁ else T₂).kasWp cmp Q s := by
  split
  · exact h1 (by assumption)
  · exact h2 (by assumption)
section
variable {lt : Nat → Nat → Bool} {n : Nat} (O : LtOrd lt n) {I : Shared → Prop} {cmp : Nat → Nat → (Bool → Shared → Prop) → Shared → Prop}
  (hc : ∀ i j C s, i < n → j < n → I s → (∀ s', I s' → C (lt i j) s') → cmp i j C s)
include O
theorem sorted_ext {p : Array Nat} (hp : PermR p n) {k : Nat} (h1 : 1 ≤ k) (hk : k < n) (hs : SortedTo' lt p k) (h : lt (p.getD (k - 1) 0) (p.getD k 0) = true) : SortedTo' lt p (k + 1) := by
  intro i j hij hj
  rcases Nat.lt_succ_iff_lt_or_eq.mp hj with hj | rfl
  · exact hs i j hij hj
  · by_cases hi : i = j - 1
    · subst hi; exact h
    · exact O.trans _ _ _ (hp.lt (by omega)) (hp.lt (by omega)) (hp.lt hk) (hs i (j - 1) (by omega) (by omega)) h
theorem desc_ext {p : Array Nat} (hp : PermR p n) {k : Nat} (h1 : 1 ≤ k) (hk : k < n) (hs : DescTo' lt p k) (h : lt (p.getD k 0) (p.getD (k - 1) 0) = true) : DescTo' lt p (k + 1) := by
  intro i j hij hj
  rcases Nat.lt_succ_iff_lt_or_eq.mp hj with hj | rfl
  · exact hs i j hij hj
  · by_cases hi : i = j - 1
    · subst hi; exact h
    · exact O.trans _ _ _ (hp.lt hk) (hp.lt (by omega)) (hp.lt (by omega)) h (hs i (j - 1) (by omega) (by omega))
omit O in
theorem desc_rev {p : Array Nat} (hp : PermR p n) {k : Nat} (hk : k ≤ n) (hs : DescTo' lt p k) : SortedTo' lt (kas_rev p 0 k) k := by
  have hz := hp.size
  have g : ∀ i, i < k → (kas_rev p 0 k).getD i 0 = p.getD (k - 1 - i) 0 := fun i hi => getD_of (by
    unfold kas_rev
    rw [getElem?_mirror_all (by omega), if_pos (by omega)]
    congr 1; omega)
  intro i j hij hj
  rw [g i (by omega), g j hj]
  exact hs _ _ (by omega) (by omega)
theorem flip {p : Array Nat} (hp : PermR p n) {i j : Nat} (hi : i < n) (hj : j < n) (hij : i ≠ j) (h : ¬ lt (p.getD i 0) (p.getD j 0) = true) : lt (p.getD j 0) (p.getD i 0) = true :=
  (O.tot _ _ (hp.lt hi) (hp.lt hj) (hp.ne hi hj hij)).resolve_left h
include hc
theorem asc_ok {p : Array Nat} (hp : PermR p n) {Q : Nat → Shared → Prop} : ∀ (f k : Nat) (s : Shared), 1 ≤ k → k + f = n → SortedTo' lt p k → I s →
    (∀ k' s', k ≤ k' → k' ≤ n → SortedTo' lt p k' → (k' < n → lt (p.getD k' 0) (p.getD (k' - 1) 0) = true) → I s' → Q k' s') → (kas_asc p f k).kasWp cmp Q s
  | 0, k, s, _, hk, hs, hi, h => h k s (Nat.le_refl _) (by omega) hs (fun h => by omega) hi
  | f + 1, k, s, h1, hk, hs, hi, h => by
    refine hc _ _ _ _ (hp.lt (by omega)) (hp.lt (by omega)) hi fun s' hi' => ?_
    refine ask_ok (fun hl => ?_) (fun hl => ?_)
    · exact h k s' (Nat.le_refl _) (by omega) hs (fun _ => hl) hi'
    · exact asc_ok hp f (k + 1) s' (by omega) (by omega) (sorted_ext O hp h1 (by omega) hs (flip O hp (by omega) (by omega) (by omega) hl)) hi' fun k' s'' hk' => h k' s'' (by omega)
theorem desc_ok {p : Array Nat} (hp : PermR p n) {Q : Array Nat × Nat × Nat → Shared → Prop} : ∀ (f k : Nat) (s : Shared), 1 ≤ k → k + f = n → DescTo' lt p k → I s →
    (∀ k' s', k ≤ k' → k' ≤ n → DescTo' lt p k' → I s' → Q (p, k', 0) s') → (kas_desc f p k 0).kasWp cmp Q s
  | 0, k, s, _, hk, hs, hi, h => h k s (Nat.le_refl _) (by omega) hs hi
  | f + 1, k, s, h1, hk, hs, hi, h => by
    refine hc _ _ _ _ (hp.lt (by omega)) (hp.lt (by omega)) hi fun s' hi' => ?_
    refine ask_ok (fun hl => ?_) (fun hl => ?_)
    · rw [if_neg (by omega)]
      exact desc_ok hp f (k + 1) s' (by omega) (by omega) (desc_ext O hp h1 (by omega) hs hl) hi' fun k' s'' hk' => h k' s'' (by omega)
    · refine hc _ _ _ _ (hp.lt (by omega)) (hp.lt (by omega)) hi' fun s'' hi'' => ?_
      refine ask_ok (fun _ => ?_) (fun hl' => (hl' (flip O hp (by omega) (by omega) (by omega) hl)).elim)
      exact h k s'' (Nat.le_refl _) (by omega) hs hi''
omit O hc in
theorem rev_perm {p : Array Nat} (hp : PermR p n) (i j : Nat) : PermR (kas_rev p i j) n := hp.of_perm (mirror_perm _ _ _ _)
theorem count_ok {p : Array Nat} (hp : PermR p n) (h1 : 1 ≤ n) {Q : Nat × Array Nat → Shared → Prop} {s : Shared} (hi : I s)
    (h : ∀ k p' s', 1 ≤ k → k ≤ n → PermR p' n → SortedTo' lt p' k → I s' → Q (k, p') s') : (kas_count n p).kasWp cmp Q s := by
  unfold kas_count
  rw [KasT.kasWp_bind]
  refine asc_ok O hc hp (n - 1) 1 s (Nat.le_refl _) (by omega) (fun i j h1 h2 => by omega) hi fun k s' hk hkn hs hst hi' => ?_
  by_cases hkn' : (k == n) = true
  · rw [if_pos hkn']
    exact h k p s' hk hkn hp hs hi'
  · rw [if_neg hkn']
    have hkn'' : k < n := by
      have : k ≠ n := by simpa using hkn'
      omega
    by_cases hk1 : k > 1
    · rw [if_pos hk1]
      refine hc _ _ _ _ (hp.lt (by omega)) (hp.lt (by omega)) hi' fun s'' hi'' => ?_
      refine ask_ok (fun _ => ?_) (fun hl' => (hl' (hs 0 (k - 1) (by omega) (by omega))).elim)
      exact h k p s'' hk hkn hp hs hi''
    · rw [if_neg hk1]
      have hk1 : k = 1 := by omega
      subst hk1
      unfold kas_descPart
      rw [KasT.kasWp_bind]
      refine desc_ok O hc hp (n - (1 + 1)) (1 + 1) s' (by omega) (by omega) (desc_ext O hp (Nat.le_refl 1) hkn'' (fun i j h1 h2 => by omega) (hst hkn'')) hi' fun k' s'' hk' hkn' hd hi'' => ?_
      dsimp only
      rw [if_neg (by omega)]
      unfold kas_tail3
      rw [KasT.kasWp_bind]
      refine asc_ok O hc (rev_perm hp 0 k') (n - k') k' s'' (by omega) (by omega) (desc_rev hp hkn' hd) hi'' fun k2 s3 hk2 hkn2 hs2 _ hi3 => ?_
      exact h k2 _ s3 (by omega) hkn2 (rev_perm hp 0 k') hs2 hi3
theorem place_ok {p : Array Nat} (hp : PermR p n) {k : Nat} (hk : k < n) (hs : SortedTo' lt p k) {Q : Nat → Shared → Prop} : ∀ (f l r : Nat) (s : Shared), l ≤ r → r ≤ k → r - l ≤ f →
    (∀ i, i < l → lt (p.getD i 0) (p.getD k 0) = true) → (∀ i, r ≤ i → i < k → lt (p.getD k 0) (p.getD i 0) = true) → I s →
    (∀ l' s', l' ≤ k → (∀ i, i < l' → lt (p.getD i 0) (p.getD k 0) = true) → (∀ i, l' ≤ i → i < k → lt (p.getD k 0) (p.getD i 0) = true) → I s' → Q l' s') → (kas_place p k f l r).kasWp cmp Q s
  | 0, l, r, s, hlr, hrk, hf, hl, hr, hi, h => h l s (by omega) hl (fun i h1 h2 => hr i (by omega) h2) hi
  | f + 1, l, r, s, hlr, hrk, hf, hl, hr, hi, h => by
    unfold kas_place
    by_cases hge : l ≥ r
    · rw [if_pos hge]
      exact h l s (by omega) hl (fun i h1 h2 => hr i (by omega) h2) hi
    · rw [if_neg hge]
      have hm1 : l ≤ (l + r) / 2 := by omega
      have hm2 : (l + r) / 2 < r := by omega
      refine hc _ _ _ _ (hp.lt hk) (hp.lt (by omega)) hi fun s' hi' => ?_
      refine ask_ok (fun hlt => ?_) (fun hlt => ?_)
      · refine place_ok hp hk hs f l ((l + r) / 2) s' (by omega) (by omega) (by omega) hl (fun i h1 h2 => ?_) hi' h
        by_cases hi : i = (l + r) / 2
        · subst hi; exact hlt
        · exact O.trans _ _ _ (hp.lt hk) (hp.lt (by omega)) (hp.lt (by omega)) hlt (hs _ _ (by omega) h2)
      · have hlt' := flip O hp hk (show (l + r) / 2 < n by omega) (by omega) hlt
        refine place_ok hp hk hs f ((l + r) / 2 + 1) r s' (by omega) (by omega) (by omega) (fun i h1 => ?_) hr hi' h
        by_cases hi : i = (l + r) / 2
        · subst hi; exact hlt'
        · exact O.trans _ _ _ (hp.lt (by omega)) (hp.lt (by omega)) (hp.lt hk) (hs _ _ (by omega) (by omega)) hlt'
omit O hc in
theorem bubble_sorted {p : Array Nat} (hp : PermR p n) {k l : Nat} (hk : k < n) (hl : l ≤ k) (hs : SortedTo' lt p k) (h1 : ∀ i, i < l → lt (p.getD i 0) (p.getD k 0) = true) (h2 : ∀ i, l ≤ i → i < k → lt (p.getD k 0) (p.getD i 0) = true) :
    SortedTo' lt (bubble p k (k - l)) (k + 1) := by
  have hz := hp.size
  have g : ∀ i, (bubble p k (k - l)).getD i 0 = if i = l then p.getD k 0 else if l < i ∧ i ≤ k then p.getD (i - 1) 0 else p.getD i 0 := fun i => by
    have e := getElem?_bubble (xs := p) (src := k) (by omega) (k - l) (by omega) i
    rw [show k - (k - l) = l by omega] at e
    split
    · rename_i h; rw [if_pos h] at e; exact getD_of e
    · rename_i h
      rw [if_neg h] at e
      split
      · rename_i h'; rw [if_pos h'] at e; exact getD_of e
      · rename_i h'; rw [if_neg h'] at e; exact getD_of e
  intro i j hij hj
  rw [g i, g j]
  by_cases hil : i = l
  · rw [if_pos hil, if_neg (by omega), if_pos (by omega)]
    exact h2 _ (by omega) (by omega)
  · rw [if_neg hil]
    by_cases hil2 : l < i ∧ i ≤ k
    · rw [if_pos hil2, if_neg (by omega), if_pos (by omega)]
      exact hs _ _ (by omega) (by omega)
    · rw [if_neg hil2]
      by_cases hjl : j = l
      · rw [if_pos hjl]
        exact h1 _ (by omega)
      · rw [if_neg hjl]
        by_cases hjl2 : l < j ∧ j ≤ k
        · rw [if_pos hjl2]
          exact hs _ _ (by omega) (by omega)
        · rw [if_neg hjl2]
          exact hs _ _ hij (by omega)
theorem bin_ok {Q : Array Nat → Shared → Prop} : ∀ (f k : Nat) (p : Array Nat) (s : Shared), PermR p n → k + f = n → SortedTo' lt p k → I s →
    (∀ p' s', PermR p' n → SortedTo' lt p' n → I s' → Q p' s') → (kas_bin f p k).kasWp cmp Q s
  | 0, k, p, s, hp, hk, hs, hi, h => h p s hp (by rw [← hk]; exact hs) hi
  | f + 1, k, p, s, hp, hk, hs, hi, h => by
    unfold kas_bin
    rw [KasT.kasWp_bind]
    refine place_ok O hc hp (by omega) hs k 0 k s (by omega) (Nat.le_refl _) (by omega) (fun i h => by omega) (fun i h1 h2 => by omega) hi fun l s' hl h1 h2 hi' => ?_
    exact bin_ok f (k + 1) _ s' (hp.of_perm (bubble_perm _ _ _)) (by omega) (bubble_sorted hp (by omega) hl hs h1 h2) hi' h
/-- the sort of the interpreter, for a strict total order -/
theorem sort_ok (h1 : 1 ≤ n) {Q : Array Nat → Shared → Prop} {s : Shared} (hi : I s) (h : ∀ p' s', PermR p' n → SortedTo' lt p' n → I s' → Q p' s') : (kas_sort n).kasWp cmp Q s := by
  have hp : PermR (List.toArray (List.range n)) n := by unfold PermR; simp
  unfold kas_sort
  rw [KasT.kasWp_bind]
  generalize List.toArray (List.range n) = p at hp
  refine count_ok O hc hp h1 hi fun k p' s' hk hkn hp' hs hi' => ?_
  dsimp only
  by_cases hlt : k < n
  · have hm : max k 1 = k := by omega
    rw [if_pos hlt, hm]
    refine bin_ok O hc (n - k) k p' s' hp' (by omega) hs hi' h
  · rw [if_neg hlt]
    have : k = n := by omega
    subst this
    exact h p' s' hp' hs hi'
end
end Mine
end
section
open PySem PySem.W PySem.Calls PyProof.Rows
set_option maxHeartbeats 1000000
namespace Mine
/-- two lists, place by place -/
inductive All2 {α β : Type} (R : α → β → Prop) : List α → List β → Prop where
  | nil : All2 R [] []
  | cons {a : α} {b : β} {as : List α} {bs : List β} : R a b → All2 R as bs → All2 R (a :: as) (b :: bs)
section
variable {α β : Type} {R S : α → β → Prop}
theorem All2.length {as : List α} {bs : List β} (h : All2 R as bs) : as.length = bs.length := by
  induction h with
  | nil => rfl
  | cons _ _ ih => simp [ih]
theorem All2.mono {as : List α} {bs : List β} (h : All2 R as bs) (hm : ∀ a b, R a b → S a b) : All2 S as bs := by
  induction h with
  | nil => exact .nil
  | cons h _ ih => exact .cons (hm _ _ h) ih
theorem All2.append {as as' : List α} {bs bs' : List β} (h : All2 R as bs) (h' : All2 R as' bs') : All2 R (as ++ as') (bs ++ bs') := by
  induction h with
  | nil => exact h'
  | cons h _ ih => exact .cons h ih
theorem All2.get {as : List α} {bs : List β} (h : All2 R as bs) {a : α} {b : β} : ∀ {i : Nat}, i < bs.length → R (as.getD i a) (bs.getD i b) := by
  induction h with
  | nil => intro i hi; simp at hi
  | cons h _ ih =>
    intro i hi
    cases i with
    | zero => exact h
    | succ i => exact ih (by simpa using hi)
theorem All2.of_get {γ : Type} {f : γ → α} {g : γ → β} : ∀ {l : List γ}, (∀ i ∈ l, R (f i) (g i)) → All2 R (l.map f) (l.map g)
  | [], _ => .nil
  | i :: l, h => .cons (h i (.head _)) (All2.of_get fun j hj => h j (.tail _ hj))
end
abbrev pairObj (t g : Int) (a b : Tok) : Obj := { cls := .type "tuple", data := .seq #[.int t a, .int g b] }
abbrev tripObj (c : Addr) (k : Int) (b : Tok) : Obj := { cls := .type "tuple", data := .seq #[.ref c, .int k b] }
def PairIn (news : List (Addr × Obj)) (v : Value) (p : Int × Int) : Prop := ∃ c a b, v = .ref c ∧ (c, pairObj p.1 p.2 a b) ∈ news
def TripIn (news : List (Addr × Obj)) (v : Value) (p : Int × Int × Int) : Prop := ∃ x c b, v = .ref x ∧ (x, tripObj c p.2.2 b) ∈ news ∧ PairIn news (.ref c) (p.1, p.2.1)
theorem PairIn.mono {n n' : List (Addr × Obj)} (h : ∀ p ∈ n, p ∈ n') {v : Value} {p : Int × Int} (x : PairIn n v p) : PairIn n' v p := by
  obtain ⟨c, a, b, e, m⟩ := x
  exact ⟨c, a, b, e, h _ m⟩
theorem TripIn.mono {n n' : List (Addr × Obj)} (h : ∀ p ∈ n, p ∈ n') {v : Value} {p : Int × Int × Int} (x : TripIn n v p) : TripIn n' v p := by
  obtain ⟨y, c, b, e, m, q⟩ := x
  exact ⟨y, c, b, e, h _ m, q.mono h⟩
section
variable {w : World} {prog : Program} {A : Around} {E : Value → Shared → Prop} {s : Shared}
def pairKey (p : Int × Int) : List Int := [p.1, p.2]
theorem key_of {h₀ h : Heap} {L : Addr} {news : List (Addr × Obj)} (N : News h₀ L h news) {c : Addr} {p : Int × Int} (m : PairIn news (.ref c) p) : IsTupleKey (intKind prog w) h (pairKey p) c := by
  obtain ⟨c', a, b, e, m⟩ := m
  injection e with e
  subst e
  exact ⟨_, _, _, (N _ m).1, rfl, rfl, .cons (intKind_is _ _ _ _) (.cons (intKind_is _ _ _ _) .nil)⟩
def ltP (p q : Int × Int) : Bool := decide (p.1 < q.1 ∨ (p.1 = q.1 ∧ p.2 < q.2))
/-- «<» of two made pairs of ints that differ -/
theorem pair_lt {h₀ : Heap} {L : Addr} {news : List (Addr × Obj)} (N : News h₀ L s.heap news) {c d : Addr} {p q : Int × Int} (hc : PairIn news (.ref c) p) (hd : PairIn news (.ref d) q) (hpq : p ≠ q) (hu : A.units < cLine)
    {Q : Value → Shared → Prop} (h : Q (.bool (ltP p q)) s) : wpAny (model prog w) A (richCompare .Lt (.ref c) (.ref d)) Q E s := by
  obtain ⟨_, a, b, e, mc⟩ := hc
  injection e with e; subst e
  obtain ⟨_, a', b', e, md⟩ := hd
  injection e with e; subst e
  have gc := (N _ mc).1
  have gd := (N _ md).1
  have tc : s.TypeIs (.ref c) "tuple" := ⟨_, gc, rfl⟩
  have td : s.TypeIs (.ref d) "tuple" := ⟨_, gd, rfl⟩
  refine wpAny_richCompare_same_room (op := .Lt) tc td F.slot_tuple_lt (wpAny_call_entry F.slot_tuple_lt tc F.entry_tuple_lt ?_ (F.args_tuple_lt_2 _ _)) hu
  show wpAny _ _ (isInstance (.ref d) (.type "tuple") >>= _) _ _ s
  refine wpAny_bind (wpAny_isInstance td isSubtype_tuple_tuple ?_)
  simp only [Bool.not_true, Bool.false_eq_true, if_false]
  refine wpAny_bind (wpAny_tupleItemsOf gc rfl ?_)
  refine wpAny_bind (wpAny_tupleItemsOf gd rfl ?_)
  show wpAny _ _ (forIn [(Value.int p.1 a, Value.int q.1 a'), (Value.int p.2 b, Value.int q.2 b')] _ _ >>= _) _ _ s
  rw [List.forIn_cons]
  refine wpAny_bind (wpAny_bind (wpAny_bind (wpAny_eqBool_int ?_)))
  by_cases h1 : p.1 = q.1
  · have e1 : (p.1 == q.1) = true := by simpa using h1
    have h2 : p.2 ≠ q.2 := fun h2 => hpq (Prod.ext h1 h2)
    have e2 : (p.2 == q.2) = false := by simpa using h2
    rw [e1]
    simp only [Bool.not_true, Bool.false_eq_true, if_false]
    refine wpAny_pure ?_
    dsimp only
    rw [List.forIn_cons]
    refine wpAny_bind (wpAny_bind (wpAny_eqBool_int ?_))
    rw [e2]
    simp only [Bool.not_false, if_true]
    refine wpAny_bind (wpAny_rule ?_)
    refine wpAny_bind (wpAny_lt_int ?_)
    refine wpAny_bind (wpAny_pure (wpAny_pure (wpAny_pure (wpAny_pure ⟨_, rfl, (fun e => nomatch e), ?_⟩))))
    have : decide (p.2 < q.2) = ltP p q := by unfold ltP; simp [h1]
    rw [this]; exact h
  · have e1 : (p.1 == q.1) = false := by simpa using h1
    rw [e1]
    simp only [Bool.not_false, if_true]
    refine wpAny_bind (wpAny_rule ?_)
    refine wpAny_bind (wpAny_lt_int ?_)
    refine wpAny_bind (wpAny_pure (wpAny_pure (wpAny_pure (wpAny_pure ⟨_, rfl, (fun e => nomatch e), ?_⟩))))
    have : decide (p.1 < q.1) = ltP p q := by unfold ltP; simp [h1]
    rw [this]; exact h
end
end Mine
end
section
open PySem PySem.W PySem.Calls PyProof.Rows
set_option maxHeartbeats 1000000
namespace Mine
def ltT (p q : Int × Int × Int) : Bool := decide (p.1 < q.1 ∨ (p.1 = q.1 ∧ (p.2.1 < q.2.1 ∨ (p.2.1 = q.2.1 ∧ p.2.2 < q.2.2))))
section
variable {w : World} {prog : Program} {A : Around} {E : Value → Shared → Prop} {s : Shared} {h₀ : Heap} {L : Addr} {m : Str → Option Value} {news : List (Addr × Obj)}
theorem trip_lt (N : News h₀ L s.heap news) {u v : Value} {p q : Int × Int × Int} (hx : TripIn news u p) (hy : TripIn news v q) (hu : A.units < cLine) {Q : Bool → Shared → Prop} (h : Q (ltT p q) s) :
    wpAny (model prog w) A (keyLt' (tuples' false) u v) Q E s := by
  obtain ⟨x, c, b, rfl, mx, hp⟩ := hx
  obtain ⟨y, d, b', rfl, my, hq⟩ := hy
  refine kat_lt (N _ mx).1 rfl (N _ my).1 rfl ?_
  show KatLex prog w A false _ Q [(Value.ref c, Value.ref d), (Value.int p.2.2 b, Value.int q.2.2 b')] 0 s
  refine kat_cons (wpAny_eqBool_tuple hu (key_of N hp) (key_of N hq) ?_)
  by_cases hpq : (p.1, p.2.1) = (q.1, q.2.1)
  · rw [hpq, decide_eq_true rfl]
    have e1 : p.1 = q.1 := (Prod.mk.inj hpq).1
    have e2 : p.2.1 = q.2.1 := (Prod.mk.inj hpq).2
    refine kat_yes (kat_cons (wpAny_eqBool_int ?_))
    by_cases e3 : p.2.2 = q.2.2
    · have : (p.2.2 == q.2.2) = true := by simpa using e3
      rw [this]
      refine kat_yes (kat_nil ?_)
      have e : ltT p q = false := by unfold ltT; simp [e1, e2, e3]
      rw [e] at h
      exact h
    · have : (p.2.2 == q.2.2) = false := by simpa using e3
      rw [this]
      refine kat_no (kat_one _ _ (wpAny_lt_int ?_))
      have e : ltT p q = decide (p.2.2 < q.2.2) := by unfold ltT; simp [e1, e2]
      rw [e] at h
      exact h
  · have hk : pairKey (p.1, p.2.1) ≠ pairKey (q.1, q.2.1) := by
      intro e
      unfold pairKey at e
      injection e with e1 e2
      injection e2 with e2 _
      exact hpq (Prod.ext e1 e2)
    rw [decide_eq_false hk]
    refine kat_no (kat_one _ _ ?_)
    show wpAny _ _ (richCompare .Lt _ _) _ _ _
    refine pair_lt N hp hq hpq hu ?_
    have e : ltT p q = ltP (p.1, p.2.1) (q.1, q.2.1) := by
      unfold ltT ltP
      by_cases e1 : p.1 = q.1
      · have e2 : p.2.1 ≠ q.2.1 := fun e2 => hpq (Prod.ext e1 e2)
        simp [e1, e2]
      · simp [e1]
    rw [e] at h
    exact h
theorem trips_ord {ts : List (Int × Int × Int)} (hn : ts.Nodup) : LtOrd (fun i j => ltT (ts.getD i (0, 0, 0)) (ts.getD j (0, 0, 0))) ts.length where
  tot := fun i j hi hj hij => by
    have hne : ts.getD i (0, 0, 0) ≠ ts.getD j (0, 0, 0) := by
      rw [show ts.getD i (0, 0, 0) = ts[i] by simp [hi], show ts.getD j (0, 0, 0) = ts[j] by simp [hj]]
      have hpw := List.pairwise_iff_getElem.mp hn
      rcases Nat.lt_or_gt_of_ne hij with h | h
      · exact hpw i j hi hj h
      · exact (hpw j i hj hi h).symm
    revert hne
    generalize ts.getD i (0, 0, 0) = p
    generalize ts.getD j (0, 0, 0) = q
    obtain ⟨a, b, c⟩ := p
    obtain ⟨a', b', c'⟩ := q
    intro hne
    have : ¬ (a = a' ∧ b = b' ∧ c = c') := fun ⟨h1, h2, h3⟩ => hne (by rw [h1, h2, h3])
    simp only [ltT, decide_eq_true_eq]
    omega
  asym := fun i j _ _ h => by
    simp only [ltT, decide_eq_true_eq, decide_eq_false_iff_not] at h ⊢
    omega
  trans := fun i j k _ _ _ h h' => by
    simp only [ltT, decide_eq_true_eq] at h h' ⊢
    omega
theorem trips_tups {vs : List Value} {ts : List (Int × Int × Int)} (N : News h₀ L s.heap news) (h : All2 (TripIn news) vs ts) : ∃ fs, fs.length = vs.length ∧ KatTups s.heap vs fs ∧ ∀ v ∈ fs, Looks (model prog w) s.heap (typeOf v) (.type "tuple") := by
  induction h with
  | nil => exact ⟨[], rfl, trivial, fun v hv => nomatch hv⟩
  | cons hx _ ih =>
    obtain ⟨fs, h1, h2, h3⟩ := ih
    obtain ⟨x, c, b, rfl, mx, c', a', b', e, mc⟩ := hx
    injection e with e
    subst e
    refine ⟨.ref c :: fs, by simp [h1], KatTups.cons (N _ mx).1 rfl rfl rfl h2, fun v hv => ?_⟩
    rcases List.mem_cons.mp hv with rfl | hv
    · exact (Looks.ld (N _ mc).1).andThen .now
    · exact h3 v hv
theorem sort_small {vs : List Value} {a : Addr} {n : Nat} {P : PySem.Fin → Shared → Prop} (F : Fr h₀ L s.heap m) (N : News h₀ L s.heap news) (ho : s.heap.get? a = some (seqObj "list" vs.toArray n)) (haL : a ≠ L) (ha0 : h₀.get? a = none) (hna : ∀ p ∈ news, p.1 ≠ a)
    (h2 : vs.length < 2)
    (h : ∀ c h', Fr h₀ L h' m → News h₀ L h' ((a, listOf vs.toArray c) :: news) → P (.done (.ret .none)) { s with heap := h' }) :
    wpAny (model prog w) A (Builtin.«list.sort» ⟨[.ref a], []⟩) P E s := by
  have ha : a < s.heap.objs.size := Heap.lt_size ho
  have s1 := Heap.SameBut.update s.heap a (Obj.mapSeq fun _ => (#[] : Array Value))
  obtain ⟨e1, ho1⟩ : ∃ e1, (s.heap.update a (Obj.mapSeq fun _ => (#[] : Array Value))).get? a = some (seqObj "list" #[] e1) := ⟨_, get?_update_seq ho fun _ => #[]⟩
  have ho3 : (((s.heap.update a (Obj.mapSeq fun _ => (#[] : Array Value))).push (seqObj "tuple" vs.toArray 0)).push (seqObj "list" #[] 0)).get? a = some (seqObj "list" #[] e1) := Heap.get?_push_of_some _ (Heap.get?_push_of_some _ ho1)
  have F3 : Fr h₀ L (((s.heap.update a (Obj.mapSeq fun _ => (#[] : Array Value))).push (seqObj "tuple" vs.toArray 0)).push (seqObj "list" #[] 0)) m := ((kas_fr F s1 haL ha0).push _).push _
  have N3 : News h₀ L (((s.heap.update a (Obj.mapSeq fun _ => (#[] : Array Value))).push (seqObj "tuple" vs.toArray 0)).push (seqObj "list" #[] 0)) news :=
    (kas_news N s1 hna).grown fun b x e => Heap.get?_push_of_some _ (Heap.get?_push_of_some _ e)
  rw [list_sort_plain]
  refine wpAny_bind (listItems_at ho rfl ?_)
  refine wpAny_bind (listUpdate_at ho rfl ?_ (by rw [List.size_toArray, sizeLine_eq]; omega) (Nat.zero_le _))
  refine wpAny_bind (seqEpoch_at ho1 rfl ?_)
  refine wpAny_bind (wpAny_newTuple ?_ (by show vs.length ≤ _; rw [sizeLine_eq]; omega))
  refine wpAny_bind (wpAny_newList ?_ (Nat.zero_le _))
  refine wpAny_holding ?_
  show wpAny (model prog w) A _ P E { s with heap := ((s.heap.update a (Obj.mapSeq fun _ => (#[] : Array Value))).push (seqObj "tuple" vs.toArray 0)).push (seqObj "list" #[] 0) }
  dsimp only
  have hn2 : vs.toArray.size < 2 := by rw [List.size_toArray]; omega
  rw [if_pos hn2, if_pos hn2]
  refine wpAny_bind (wpAny_pure ?_)
  rw [StateT.run_pure]
  refine wpAny_bind (wpAny_pure ?_)
  dsimp only
  have hout : (arrOf (SortSt.mk' general' (vs.toArray.zip vs.toArray) #[] 7 none)).map (·.2) = vs.toArray := by
    show (vs.toArray.zip vs.toArray).map (·.2) = vs.toArray
    apply Array.toList_inj.mp
    simp
    apply List.map_snd_zip
    simp
  rw [hout]
  have s2 := Heap.SameBut.update (((s.heap.update a (Obj.mapSeq fun _ => (#[] : Array Value))).push (seqObj "tuple" vs.toArray 0)).push (seqObj "list" #[] 0)) a (Obj.mapSeq fun _ => vs.toArray)
  obtain ⟨c2, hc2⟩ : ∃ c2, ((((s.heap.update a (Obj.mapSeq fun _ => (#[] : Array Value))).push (seqObj "tuple" vs.toArray 0)).push (seqObj "list" #[] 0)).update a (Obj.mapSeq fun _ => vs.toArray)).get? a = some (seqObj "list" vs.toArray c2) := ⟨_, get?_update_seq ho3 fun _ => vs.toArray⟩
  refine wpAny_bind (seqEpoch_at ho3 rfl ?_)
  refine wpAny_bind (listUpdate_at ho3 rfl ?_ (Nat.zero_le _) (by show vs.toArray.size ≤ _; rw [List.size_toArray, sizeLine_eq]; omega))
  simp only [bne_self_eq_false, Bool.false_eq_true, if_false]
  refine wpAny_pure (h c2 _ (kas_fr F3 s2 haL ha0) fun p hp => ?_)
  rcases List.mem_cons.mp hp with rfl | hp
  · exact ⟨hc2, haL, ha0⟩
  · exact kas_news N3 s2 hna p hp
theorem sorted_small {vs : List Value} {l : Addr} {Q : Value → Shared → Prop} (F : Fr h₀ L s.heap m) (N : News h₀ L s.heap news) (hl : s.heap.IsList l vs.toArray) (h2 : vs.length < 2)
    (h : ∀ D c h', Fr h₀ L h' m → News h₀ L h' ((D, listOf vs.toArray c) :: news) → (∀ q ∈ news, q.1 < D) → Q (.ref D) { s with heap := h' }) :
    wpAny (model prog w) A (call (.builtin "sorted") [.ref l]) Q E s := by
  refine Calls.call_function_entry kind_sorted plain_sorted entry_sorted (args_sorted1 _) ?_
  unfold Builtin.«sorted»
  refine wpAny_bind (m := checkCount "sorted" 1 1 _) (wpAny_pure ?_)
  refine wpAny_bind (collect_list hl ?_ (by rw [sizeLine_eq]; omega))
  refine wpAny_bind (wpAny_newList ?_ (by rw [sizeLine_eq]; omega))
  have hsz : ((s.heap.push (seqObj "list" #[] 0)).update s.heap.objs.size (Obj.mapSeq (· ++ vs.toArray))).objs.size = s.heap.objs.size + 1 := by
    rw [Heap.size_update, size_push']
  have hoL : (((s.heap.push (seqObj "list" #[] 0)).update s.heap.objs.size (Obj.mapSeq (· ++ vs.toArray))).push (seqObj "list" vs.toArray 0)).get? (s.heap.objs.size + 1) = some (seqObj "list" vs.toArray 0) := by
    rw [← hsz]; exact Heap.get?_push_size _ rfl
  have keep : ∀ b o, s.heap.get? b = some o → (((s.heap.push (seqObj "list" #[] 0)).update s.heap.objs.size (Obj.mapSeq (· ++ vs.toArray))).push (seqObj "list" vs.toArray 0)).get? b = some o := fun b o q => by
    have hlt : b < s.heap.objs.size := Heap.lt_size q
    rw [Heap.get?_push_ne _ _ _ (by rw [hsz]; exact Nat.ne_of_lt (Nat.lt_succ_of_lt hlt)), Heap.get?_update_ne _ _ _ _ (Nat.ne_of_lt hlt), Heap.get?_push_ne _ _ _ (Nat.ne_of_lt hlt)]
    exact q
  have hL : L < s.heap.objs.size := F.ns.lt
  show wpAny _ _ _ _ _ { s with heap := ((s.heap.push (seqObj "list" #[] 0)).update s.heap.objs.size (Obj.mapSeq (· ++ vs.toArray))).push (seqObj "list" vs.toArray 0) }
  rw [hsz]
  refine wpAny_bind (wpAny_holding (wpAny_call_entry slot_list_sort ⟨_, hoL, rfl⟩ entry_list_sort ?body (args_list_sort _)))
  case body =>
    refine sort_small (s := { s with heap := ((s.heap.push (seqObj "list" #[] 0)).update s.heap.objs.size (Obj.mapSeq (· ++ vs.toArray))).push (seqObj "list" vs.toArray 0) })
      (F.kept keep) (N.grown keep) hoL (Nat.ne_of_gt (Nat.lt_succ_of_lt hL)) (Heap.get?_none_of_le (Nat.le_trans F.above (Nat.le_succ_of_le (Nat.le_of_lt hL))))
      (fun p hp => Nat.ne_of_lt (Nat.lt_succ_of_lt (Heap.lt_size (N p hp).1))) h2 fun c h' F' N' => ?_
    exact ⟨_, rfl, wpAny_pure ⟨_, rfl, h _ c h' F' N' fun q hq => Nat.lt_succ_of_lt (Heap.lt_size (N q hq).1)⟩⟩
/-- sorted over pairs of a pair of ints and an int, no two the same -/
theorem sorted_trips {vs : List Value} {ts : List (Int × Int × Int)} {l : Addr} {Q : Value → Shared → Prop} (F : Fr h₀ L s.heap m) (N : News h₀ L s.heap news) (hl : s.heap.IsList l vs.toArray) (hT : All2 (TripIn news) vs ts) (hn : ts.Nodup) (hz : ts.length < 64) (hu : A.in1.in1.units < cLine)
    (h : ∀ D c h' vs' ts', Fr h₀ L h' m → News h₀ L h' ((D, listOf vs'.toArray c) :: news) → (∀ q ∈ news, q.1 < D) → ts'.Perm ts → ts'.Pairwise (fun p q => ltT p q = true) → All2 (TripIn news) vs' ts' → Q (.ref D) { s with heap := h' }) :
    wpAny (model prog w) A (call (.builtin "sorted") [.ref l]) Q E s := by
  have hlen := hT.length
  by_cases h2 : vs.length < 2
  · refine sorted_small F N hl h2 fun D c h' F' N' l1 => h D c h' vs ts F' N' l1 (List.Perm.refl _) ?_ hT
    match ts, hlen, h2 with
    | [], _, _ => exact .nil
    | [_], _, _ => exact List.pairwise_singleton _ _
    | _ :: _ :: _, hlen, h2 => simp at hlen; omega
  · refine kat_sorted F N hl (by omega) (by omega) fun D e1 h' F' N' l1 => ?_
    obtain ⟨fs, f1, f2, f3⟩ := trips_tups (prog := prog) (w := w) (s := { s with heap := h' }) (fun p hp => N' p (.tail _ hp)) hT
    refine kat_kind f2 (by omega) f3 rfl ?_
    show (kas_sort vs.length).kasWp (kas_ask prog w A.in1.in1 (tuples' false) vs) _ _
    rw [hlen]
    refine sort_ok (I := fun s' => s' = { s with heap := h' }) (trips_ord hn) (fun i j C s' hi hj e hC => ?_) (by omega) rfl fun p s' hp hs e => ?_
    · subst e
      exact trip_lt (fun p hp => N' p (.tail _ hp)) (hT.get hi) (hT.get hj) hu (hC _ rfl)
    · subst e
      refine KasFin.intro F' N' (.head fun q hq => Nat.ne_of_lt (l1 q hq)) fun h'' c F'' N'' => ?_
      have hps := hp.size
      refine h D c h'' _ (p.toList.map fun i => ts.getD i (0, 0, 0)) F'' N'' l1 ?_ ?_ (All2.of_get fun i hi => hT.get (by simpa using hp.mem_iff.mp hi))
      · have e : (List.range ts.length).map (fun i => ts.getD i (0, 0, 0)) = ts := by
          apply List.ext_getElem
          · simp
          · intro i h1 h2
            simp at h1 ⊢
            rw [List.getElem?_eq_getElem h1]; rfl
        have := List.Perm.map (fun i => ts.getD i (0, 0, 0)) hp
        rwa [e] at this
      · refine List.pairwise_map.mpr (List.pairwise_iff_getElem.mpr fun i j hi hj hij => ?_)
        have := hs i j hij (by simpa [hps] using hj)
        have gi : p.getD i 0 = p.toList[i] := by simp at hi; simp [Array.getD, hi]
        have gj : p.getD j 0 = p.toList[j] := by simp at hj; simp [Array.getD, hj]
        rwa [gi, gj] at this
end
end Mine
end
section
open PySem PySem.W PySem.Calls PyProof.Rows PyProof.Rows.LCg
set_option maxHeartbeats 1000000
namespace Mine
/-- a mark: the walk stops here -/
def Stop (p : Prop) : Prop := p
/-- two places apart, said so that no arithmetic splits on it -/
def Apart (a b : Nat) : Prop := a ≠ b
theorem Apart.ne {a b : Nat} (h : Apart a b) : a ≠ b := h
theorem Apart.en {a b : Nat} (h : Apart a b) : b ≠ a := Ne.symm h
/-- a mark: let the walk stop -/
def Halt : Prop := True
theorem Stop.of {p : Prop} (h : Stop p) : p := h
section
variable {prog : Program} {w : World} {A : Around} {s : Shared} {h₀ : Heap} {L : Addr} {m : Str → Option Value} {env : Env}
theorem compEnd_mono {I C D : Addr} {s₁ : Shared} {oI oC oD : Obj} {S : List (Addr × Obj) → Prop} {r r' : Value → List (Addr × Obj) → Prop} {y : Value} {s₂ : Shared}
    (h : CompEnd h₀ L m s₁ I oI C oC D oD S r y s₂) (hr : ∀ y n, r y n → r' y n) : CompEnd h₀ L m s₁ I oI C oC D oD S r' y s₂ := by
  obtain ⟨h', tk, n, e, F, N, o, hS, x⟩ := h
  exact ⟨h', tk, n, e, F, N, o, hS, hr _ _ x⟩
theorem intsAre_snoc {vs : List Value} {ns : List Int} (h : IntsAre vs ns) {k : Int} {t : Tok} : IntsAre (vs ++ [.int k t]) (ns ++ [k]) := h.append (.cons k t .nil)
theorem comp_inv {elt : Expr} {x : Str} {scope : Scope} {cl : List (Str × Addr)} {S : List (Addr × Obj) → Prop} {P : Nat → Value → Prop} {Fin : List Value → List (Addr × Obj) → Prop} {n : Nat} (J : Nat → List Value → List (Addr × Obj) → Prop)
    (fin : ∀ ys nw, J n ys nw → Fin ys nw)
    (turn : ∀ i ys nw, i < n → J i ys nw → ∀ v I oI C oC D m₂ h tk (E' : Value → Shared → Prop), P i v → NsObj oC m₂ → m₂ x = some v → Fr h₀ L h m → News h₀ L h ((I, oI) :: (C, oC) :: (D, lst ys) :: nw) → Off3 I C D nw → ((@Ne Nat I C) ∧ (@Ne Nat I D) ∧ (@Ne Nat C D)) →
      wpAny (model prog w) A (eval elt (compEnvC scope cl C env)) (CompEnd h₀ L m { s with heap := h, toks := tk } I oI C oC D (lst ys) S (fun y nw' => J (i + 1) (ys ++ [y]) nw')) E' { s with heap := h, toks := tk }) :
    ∀ (k i : Nat) (ys : List Value) (nw : List (Addr × Obj)), i + k = n → J i ys nw → CompRest prog w A h₀ L m env elt x scope cl s S P Fin k i ys nw
  | 0, i, ys, nw, hk, hJ => fin ys nw (by rw [← hk]; exact hJ)
  | k + 1, i, ys, nw, hk, hJ => fun v I oI C oC D m₂ h tk E' a b c d e f g =>
    wpAny_mono (turn i ys nw (by omega) hJ v I oI C oC D m₂ h tk E' a b c d e f g) (fun _ _ he => compEnd_mono he fun _ _ hj => comp_inv J fin turn k (i + 1) _ _ (by omega) hj) fun _ _ x => x
theorem compT_inv {ct elt : Expr} {x : Str} {scope : Scope} {cl : List (Str × Addr)} {S : List (Addr × Obj) → Prop} {P : Nat → Value → Prop} {Fin : List Value → List (Addr × Obj) → Prop} {n : Nat} (J : Nat → List Value → List (Addr × Obj) → Prop)
    (fin : ∀ ys nw, J n ys nw → Fin ys nw)
    (turn : ∀ i ys nw, i < n → J i ys nw → ∀ v I oI C oC D m₂ h tk (E' : Value → Shared → Prop), P i v → NsObj oC m₂ → m₂ x = some v → Fr h₀ L h m → News h₀ L h ((I, oI) :: (C, oC) :: (D, lst ys) :: nw) → Off3 I C D nw → ((@Ne Nat I C) ∧ (@Ne Nat I D) ∧ (@Ne Nat C D)) →
      wpAny (model prog w) A (isTrue ct (compEnvC scope cl C env) (eval ct (compEnvC scope cl C env))) (fun ok s' => (ok = true → 
        wpAny (model prog w) A (eval elt (compEnvC scope cl C env)) (CompEnd h₀ L m { s with heap := h, toks := tk } I oI C oC D (lst ys) S (fun y nw' => J (i + 1) (ys ++ [y]) nw')) E' s') ∧
        (ok = false → CompEnd h₀ L m { s with heap := h, toks := tk } I oI C oC D (lst ys) S (fun _ nw' => J (i + 1) ys nw') Value.none s')) E' { s with heap := h, toks := tk }) :
    ∀ (k i : Nat) (ys : List Value) (nw : List (Addr × Obj)), i + k = n → J i ys nw → LCt.CompRestT prog w A h₀ L m env ct elt x scope cl s S P Fin k i ys nw
  | 0, i, ys, nw, hk, hJ => fin ys nw (by rw [← hk]; exact hJ)
  | k + 1, i, ys, nw, hk, hJ => fun v I oI C oC D m₂ h tk E' a b c d e f g => by
    refine wpAny_mono (turn i ys nw (by omega) hJ v I oI C oC D m₂ h tk E' a b c d e f g) (fun ok s' hq => ?_) fun _ _ x => x
    cases ok with
    | true =>
      rw [if_pos rfl]
      exact wpAny_mono (hq.1 rfl) (fun _ _ he => compEnd_mono he fun _ _ hj => compT_inv J fin turn k (i + 1) _ _ (by omega) hj) fun _ _ x => x
    | false =>
      rw [if_neg (by simp)]
      exact compEnd_mono (hq.2 rfl) fun _ _ hj => compT_inv J fin turn k (i + 1) _ _ (by omega) hj
theorem compP_inv {elt : Expr} {x x₂ : Str} {scope : Scope} {cl : List (Str × Addr)} {S : List (Addr × Obj) → Prop} {P : Nat → Value → Prop} {Fin : List Value → List (Addr × Obj) → Prop} {n : Nat} (J : Nat → List Value → List (Addr × Obj) → Prop)
    (fin : ∀ ys nw, J n ys nw → Fin ys nw)
    (turn : ∀ i ys nw, i < n → J i ys nw → ∀ v, P i v → ∃ (t : Addr) (ot : Obj) (v₁ v₂ : Value) (nt : Nat), v = .ref t ∧ (t, ot) ∈ nw ∧ ot.cls = .type "tuple" ∧ ot.data = .seq #[v₁, v₂] nt ∧
      ∀ I oI C oC D m₂ h tk (E' : Value → Shared → Prop), NsObj oC m₂ → m₂ x = some v₁ → m₂ x₂ = some v₂ → Fr h₀ L h m → News h₀ L h ((I, oI) :: (C, oC) :: (D, lst ys) :: nw) → Off3 I C D nw → ((@Ne Nat I C) ∧ (@Ne Nat I D) ∧ (@Ne Nat C D)) →
      wpAny (model prog w) A (eval elt (compEnvC scope cl C env)) (CompEnd h₀ L m { s with heap := h, toks := tk } I oI C oC D (lst ys) S (fun y nw' => J (i + 1) (ys ++ [y]) nw')) E' { s with heap := h, toks := tk }) :
    ∀ (k i : Nat) (ys : List Value) (nw : List (Addr × Obj)), i + k = n → J i ys nw → LCp.CompRestP prog w A h₀ L m env elt x x₂ scope cl s S P Fin k i ys nw
  | 0, i, ys, nw, hk, hJ => fin ys nw (by rw [← hk]; exact hJ)
  | k + 1, i, ys, nw, hk, hJ => fun v hv => by
    obtain ⟨t, ot, v₁, v₂, nt, a, b, c, d, e⟩ := turn i ys nw (by omega) hJ v hv
    refine ⟨t, ot, v₁, v₂, nt, a, b, c, d, fun I oI C oC D m₂ h tk E' p q r f g i j => ?_⟩
    exact wpAny_mono (e I oI C oC D m₂ h tk E' p q r f g i j) (fun _ _ he => compEnd_mono he fun _ _ hj => compP_inv J fin turn k _ _ _ (by omega) hj) fun _ _ x => x
def trips (came : List (Int × Int)) (gone : List Int) (n : Nat) : List (Int × Int × Int) := ((List.range n).filter fun k => gone.getD k 0 == 0).map fun k => ((came.getD k (0, 0)).1, (came.getD k (0, 0)).2, (k : Int))
theorem trips_succ (came : List (Int × Int)) (gone : List Int) (n : Nat) : trips came gone (n + 1) = trips came gone n ++ (if gone.getD n 0 == 0 then [((came.getD n (0, 0)).1, (came.getD n (0, 0)).2, (n : Int))] else []) := by
  unfold trips
  rw [List.range_succ, List.filter_append, List.map_append]
  congr 1
  by_cases h : gone.getD n 0 = 0
  · rw [List.filter_cons_of_pos (by simpa using h), if_pos (by simpa using h)]; rfl
  · rw [List.filter_cons_of_neg (by simpa using h), if_neg (by simpa using h)]; rfl
theorem trips_nodup (came : List (Int × Int)) (gone : List Int) (n : Nat) : (trips came gone n).Nodup := by
  unfold trips
  refine List.pairwise_map.mpr ((List.Pairwise.filter _ List.nodup_range).imp fun {a b} h e => h ?_)
  have := congrArg (·.2.2) e
  exact Int.ofNat.inj this
theorem trips_length (came : List (Int × Int)) (gone : List Int) (n : Nat) : (trips came gone n).length ≤ n := by
  unfold trips
  rw [List.length_map]
  exact Nat.le_trans (List.length_filter_le _ _) (by simp)
theorem range_size (n : Nat) : Builtin.Range.rangeSize 0 (n : Int) 1 = ((n : Nat) : Int) := by
  rw [rangeSize_nat]; simp
theorem range_small {n : Nat} (h : n ≤ 100) : Builtin.Range.small 0 (n : Int) 1 = true := by
  unfold Builtin.Range.small
  rw [range_size, if_pos (by decide), show ((n : Nat) : Int) + (1 - 1) = n by omega]
  have hf : ∀ i : Int, 0 ≤ i → i ≤ 100 → Builtin.Range.rangeFitsLong i = true := fun i h1 h2 => by
    unfold Builtin.Range.rangeFitsLong
    rw [decide_eq_true (by omega), decide_eq_true (by omega)]; rfl
  rw [hf 0 (by omega) (by omega), hf 1 (by omega) (by omega), hf n (by omega) (by omega)]
  simp
theorem get_of {α : Type} {R : Value → α → Prop} {cs : List Value} {came : List α} {i : Nat} {v : Value} (h : All2 R cs came) (hi : i < came.length) (e : cs.getD i Value.none = v) : cs[(0 + (i : Int)).toNat]? = some v := by
  have hl := h.length
  have hi' : i < cs.length := by omega
  rw [show (0 + (i : Int)).toNat = i by omega, List.getElem?_eq_getElem hi', ← e]
  simp [hi']
theorem off1_mem {D : Addr} : ∀ {l : List (Addr × Obj)}, Off1 D l → ∀ p ∈ l, p.1 ≠ D
  | [], _, _, h => nomatch h
  | _ :: _, x, p, h => by
    rcases List.mem_cons.mp h with rfl | h
    · exact x.1
    · exact off1_mem x.2 p h
theorem news_lst {h : Heap} {D : Addr} {ys : List Value} {nw : List (Addr × Obj)} (N : News h₀ L h ((D, lst ys) :: nw)) : News h₀ L h ((D, W.listOf ys.toArray ys.length) :: nw) := N
theorem off3_cons {I C D x : Addr} {o : Obj} {nw : List (Addr × Obj)} (off : Off3 I C D nw) (h : I < x ∧ C < x ∧ D < x) : Off3 I C D ((x, o) :: nw) := Off3.of fun p hp => by
  rcases List.mem_cons.mp hp with rfl | hp
  · exact ⟨Nat.ne_of_gt h.1, Nat.ne_of_gt h.2.1, Nat.ne_of_gt h.2.2⟩
  · exact off.mem p hp
theorem turn_keep {came : List (Int × Int)} {gone : List Int} {base nw : List (Addr × Obj)} {I C D : Addr} {oI oC oD : Obj} {h' : Heap} {tk : Nat} {s₁ : Shared} {ys : List Value} {i : Nat} {y : Value} (F : Fr h₀ L h' m) (N : News h₀ L h' ((I, oI) :: (C, oC) :: (D, oD) :: nw)) (off : Off3 I C D nw) (hb : ∀ p ∈ base, p ∈ nw)
    (hT : All2 (TripIn nw) ys (trips came gone i)) (hg : (gone.getD (0 + (i : Int)).toNat 0 == 0) = false) :
    CompEnd h₀ L m s₁ I oI C oC D oD (fun _ => True) (fun _ nw' => (∀ p ∈ base, p ∈ nw') ∧ All2 (TripIn nw') ys (trips came gone (i + 1))) y { s₁ with heap := h', toks := tk } :=
  CompEnd.intro F N nw (fun _ hp => hp) off trivial ⟨hb, by
    rw [show (0 + (i : Int)).toNat = i by omega] at hg
    rw [trips_succ, hg]
    simpa using hT⟩
theorem turn_new {came : List (Int × Int)} {gone : List Int} {base nw : List (Addr × Obj)} {I C D x c : Addr} {oI oC oD : Obj} {h' : Heap} {tk : Nat} {tv : Tok} {s₁ : Shared} {ys : List Value} {i : Nat} (F : Fr h₀ L h' m) (N : News h₀ L h' ((x, tripObj c (0 + (i : Int)) tv) :: (I, oI) :: (C, oC) :: (D, oD) :: nw)) (l1 : I < x ∧ C < x ∧ D < x) (off : Off3 I C D nw) (hb : ∀ p ∈ base, p ∈ nw)
    (hT : All2 (TripIn nw) ys (trips came gone i)) (hg : (gone.getD (0 + (i : Int)).toNat 0 == 0) = true) (hc : PairIn nw (.ref c) (came.getD i (0, 0))) :
    CompEnd h₀ L m s₁ I oI C oC D oD (fun _ => True) (fun y nw' => (∀ p ∈ base, p ∈ nw') ∧ All2 (TripIn nw') (ys ++ [y]) (trips came gone (i + 1))) (.ref x) { s₁ with heap := h', toks := tk } :=
  CompEnd.intro F N ((x, tripObj c (0 + (i : Int)) tv) :: nw) (fun p hp => by
    simp only [List.mem_cons] at hp ⊢
    rcases hp with h | h | h | h | h
    · exact .inr (.inl h)
    · exact .inr (.inr (.inl h))
    · exact .inr (.inr (.inr (.inl h)))
    · exact .inl h
    · exact .inr (.inr (.inr (.inr h)))) (off3_cons off l1) trivial ⟨fun p hp => .tail _ (hb p hp), by
    rw [show (0 + (i : Int)).toNat = i by omega] at hg
    rw [trips_succ, hg, if_pos rfl]
    refine All2.append (hT.mono fun _ _ h => h.mono fun p hp => .tail _ hp) (.cons ⟨x, c, tv, rfl, ?_, hc.mono fun p hp => .tail _ hp⟩ .nil)
    rw [show (0 + (i : Int)) = i by omega]
    exact .head _⟩
theorem shownT {came : List (Int × Int)} {gone : List Int} {base : List (Addr × Obj)} {ct elt : Expr} {x : Str} {scope : Scope} {cl : List (Str × Addr)} {P : Nat → Value → Prop} {Fin : List Value → List (Addr × Obj) → Prop}
    (fin : ∀ ys nw, (∀ p ∈ base, p ∈ nw) → All2 (TripIn nw) ys (trips came gone gone.length) → Fin ys nw)
    (turn : ∀ i ys nw, i < gone.length → (∀ p ∈ base, p ∈ nw) → All2 (TripIn nw) ys (trips came gone i) → ∀ v I oI C oC D m₂ h tk (E' : Value → Shared → Prop), P i v → NsObj oC m₂ → m₂ x = some v → Fr h₀ L h m → News h₀ L h ((I, oI) :: (C, oC) :: (D, lst ys) :: nw) → Off3 I C D nw → (@Ne Nat I C) → (@Ne Nat I D) → (@Ne Nat C D) →
      wpAny (model prog w) A (isTrue ct (compEnvC scope cl C env) (eval ct (compEnvC scope cl C env))) (fun ok s' => (ok = true → 
        wpAny (model prog w) A (eval elt (compEnvC scope cl C env)) (CompEnd h₀ L m { s with heap := h, toks := tk } I oI C oC D (lst ys) (fun _ => True) (fun y nw' => (∀ p ∈ base, p ∈ nw') ∧ All2 (TripIn nw') (ys ++ [y]) (trips came gone (i + 1)))) E' s') ∧
        (ok = false → CompEnd h₀ L m { s with heap := h, toks := tk } I oI C oC D (lst ys) (fun _ => True) (fun _ nw' => (∀ p ∈ base, p ∈ nw') ∧ All2 (TripIn nw') ys (trips came gone (i + 1))) Value.none s')) E' { s with heap := h, toks := tk }) :
    LCt.CompRestT prog w A h₀ L m env ct elt x scope cl s (fun _ => True) P Fin gone.length 0 [] base :=
  compT_inv (J := fun i ys nw => (∀ p ∈ base, p ∈ nw) ∧ All2 (TripIn nw) ys (trips came gone i)) (fun ys nw h => fin ys nw h.1 h.2)
    (fun i ys nw hi hJ v I oI C oC D m₂ h tk E' a b c d e f g => turn i ys nw hi hJ.1 hJ.2 v I oI C oC D m₂ h tk E' a b c d e f g.1 g.2.1 g.2.2) gone.length 0 [] base (Nat.zero_add _) ⟨fun p hp => hp, .nil⟩
theorem trips_up {p : Addr × Obj} {n : List (Addr × Obj)} {vs : List Value} {ts : List (Int × Int × Int)} (h : All2 (TripIn n) vs ts) : All2 (TripIn (p :: n)) vs ts := h.mono fun _ _ x => x.mono fun _ hp => .tail _ hp
theorem shownP {base : List (Addr × Obj)} {vs' : List Value} {ts' : List (Int × Int × Int)} {D0 : Addr} {c : Nat} {elt : Expr} {x x₂ : Str} {scope : Scope} {cl : List (Str × Addr)} {Fin : List Value → List (Addr × Obj) → Prop}
    (hD : (D0, W.listOf vs'.toArray c) ∈ base) (hT : All2 (TripIn base) vs' ts')
    (fin : ∀ ys nw, (∀ p ∈ base, p ∈ nw) → IntsAre ys (ts'.map fun p => p.2.2) → Fin ys nw)
    (turn : ∀ (kv : Int) (tv : Tok) I oI C oC D ys nw m₂ h tk (Q' E' : Value → Shared → Prop), NsObj oC m₂ → m₂ x₂ = some (.int kv tv) → Fr h₀ L h m → News h₀ L h ((I, oI) :: (C, oC) :: (D, lst ys) :: nw) → Q' (.int kv tv) { s with heap := h, toks := tk } →
      wpAny (model prog w) A (eval elt (compEnvC scope cl C env)) Q' E' { s with heap := h, toks := tk }) :
    LCp.CompRestP prog w A h₀ L m env elt x x₂ scope cl s (SrcAt h₀ D0 vs'.toArray) (fun i v => vs'.toArray[i]? = some v) Fin vs'.toArray.size 0 [] base := by
  have hlen := hT.length
  refine compP_inv (n := vs'.length) (J := fun i ys nw => (∀ p ∈ base, p ∈ nw) ∧ IntsAre ys ((ts'.take i).map fun p => p.2.2)) (fun ys nw h => fin ys nw h.1 (by
    have := h.2
    rw [hlen, List.take_length] at this
    exact this)) ?_ vs'.toArray.size 0 [] base (by simp) ⟨fun _ hp => hp, .nil⟩
  rintro i ys nw hi ⟨hb, hI⟩ v hv
  have hi' : i < ts'.length := by omega
  have hv' : vs'.getD i Value.none = v := by
    have : vs'[i]? = some v := by simpa using hv
    simp [List.getD, this]
  obtain ⟨y, d, b, e, m1, m2⟩ := hT.get (a := Value.none) (b := (0, 0, 0)) hi'
  rw [hv'] at e
  refine ⟨y, _, _, _, _, e, hb _ m1, rfl, rfl, fun I oI C oC D m₂ h tk E' hN h1 h2 F N off hne => ?_⟩
  refine turn _ _ I oI C oC D ys nw m₂ h tk _ _ hN h2 F N ?_
  refine CompEnd.intro F N nw (fun _ hp => hp) off (.inr ⟨_, hb _ hD, rfl, _, rfl⟩) ⟨hb, ?_⟩
  have e3 : (ts'.take (i + 1)).map (fun p => p.2.2) = (ts'.take i).map (fun p => p.2.2) ++ [(ts'.getD i (0, 0, 0)).2.2] := by
    rw [List.take_succ_eq_append_getElem hi', List.map_append]
    simp [hi']
  rw [e3]
  exact intsAre_snoc hI
end
end Mine
end
section
open PySem PySem.W PySem.Calls PyProof.Rows
namespace Mine
local macro_rules | `(tactic| k_inst) => `(tactic| (refine' Mine.InstAt.of_seq ?N ?h1 ?h2; (case N => k_asm); (case h1 => k_mem); (case h2 => k_mem)))
local macro_rules | `(tactic| walk_at "getMethod ref") => `(tactic| (k_here; k_dflt (refine' Mine.method_L ?k1 ?k2 ?k3 ?k4 ?k5 ?k6 ?k7 ?k8 ?k9 ?_; (case k1 => k_asm); (case k2 => k_asm); (case k3 => k_inst); (case k4 => k_is); (case k5 => k_is); (case k6 => k_is); (case k7 => first | exact .inl (by k_is) | exact .inr (by k_is)); (case k8 => k_get); (case k9 => exact rfl); k_whole)))
local macro_rules | `(tactic| walk_at "getAttr ref") => `(tactic| (k_here; k_dflt (refine' Mine.getA_own ?k1 ?k2 ?k3 ?k4 ?k5 ?k6 ?k7 ?k8 ?k9 ?k10 ?k11 ?_; (case k1 => k_asm); (case k2 => k_asm); (case k3 => k_inst); (case k4 => k_is); (case k5 => k_is); (case k6 => k_is); (case k7 => k_is); (case k8 => k_is); (case k9 => k_is); (case k10 => k_get); (case k11 => k_handed); k_whole)))
local macro_rules | `(tactic| walk_at "call builtin:len") => `(tactic| (k_here; (with_reducible show wpAny _ _ (call (Value.builtin "len") [Value.ref _]) _ _ _); k_dflt (refine' Mine.len_L ?k1 ?k2 ?k3 ?k4 ?k5 ?k6 ?k7 ?k8 ?_; (case k1 => k_asm); (case k2 => k_asm); (case k3 => k_asm); (case k4 => k_mem); (case k5 => k_mem); (case k6 => k_is); (case k7 => k_is); (case k8 => walk_at "mine_len"); k_whole); intro tk'))
local macro_rules | `(tactic| walk_at "mine_len") => `(tactic| ((try simp only [List.length_append, List.length_cons, List.length_nil, List.length_map]); first | omega | ((have hx1 := Mine.IntsAre.len (by assumption)); omega)))
local macro_rules | `(tactic| walk_at "call builtin:list.extend") => `(tactic| (k_here; (with_reducible show wpAny _ _ (call (Value.builtin "list.extend") [Value.ref _, Value.ref _]) _ _ _); k_dflt (refine' Mine.list_extend ?k1 ?k2 ?k3 ?k4 ?k5 ?k6 ?k7 ?k8 ?_; (case k1 => k_asm); (case k2 => k_asm); (case k3 => k_asm); (case k4 => k_updF); (case k5 => k_mem); (case k6 => k_is); (case k7 => is_list); (case k8 => walk_at "mine_len"); k_whole); intro n' h' F' N'; (try dsimp only at N'); (try k_sweep)))
local macro_rules | `(tactic| walk_at "delItem ref ref") => `(tactic| (k_here; k_dflt (refine' Mine.delItem_cutK ?F ?N ?U ?p ?z ?_; (case F => k_asm); (case N => k_asm); (case U => k_updF); (case p => first | exact IsPart.none | exact IsPart.int _ _); (case z => walk_at "mine_len"); k_whole); intro n' h' F' N'; (try dsimp only at N'); (try k_sweep)))
local macro_rules | `(tactic| walk_at "subscriptTail Name Slice ref ref") => `(tactic| (k_here; (with_reducible show wpAny _ _ (subscriptTail _ (PySem.Expr.Slice _ none none _) (Value.ref _) (Value.ref _)) _ _ _); k_dflt (refine' Mine.slice_cut ?F ?N ?l ?p ?z ?_ ?s ?t; (case F => k_asm); (case N => k_asm); (case l => k_mem); (case p => kmk_part); (case z => walk_at "mine_len"); (case s => with_unfolding_all rfl); (case t => kmk_pure)); intro D' h' F' N' l1; (try k_lt l1); (try k_sweep)))
local macro_rules | `(tactic| walk_at "mine_len") => `(tactic| ((try simp only [List.length_append, List.length_cons, List.length_nil, List.length_map, List.length_drop, List.length_take]); first | omega | ((have hx1 := Mine.IntsAre.len (by assumption)); omega)))
local macro_rules | `(tactic| walk_at "call builtin:list.pop") => `(tactic| (k_here; (with_reducible show wpAny _ _ (call (Value.builtin _) [Value.ref _]) _ _ _); k_dflt (refine' Mine.pop_none ?a ?N ?m ?e ?_; (case a => rfl); (case N => k_asm); (case m => k_mem); (case e => assumption); k_whole); intro h' tk' e' x'))
local macro_rules | `(tactic| walk_at "call builtin:list.remove") => `(tactic| (k_here; (with_reducible show wpAny _ _ (call (Value.builtin "list.remove") [Value.ref _, Value.int _ _]) _ _ _); k_dflt (refine' Mine.list_remove ?a ?F ?X ?N ?U ?d ?s ?i ?z ?_ ?_; (case a => rfl); (case F => k_asm); (case X => k_asm); (case N => k_asm); (case U => k_updF); (case d => k_mem); (case s => k_is); (case i => l_ints); (case z => walk_at "mine_len"); all_goals k_whole); (rotate_left; (intro hno' h' tk' e' x'); rotate_right; (intro k' hk' hk1' hk2' us' n' h' hI' F' N'; (try dsimp only at N'); (try k_sweep)))))
local macro_rules | `(tactic| walk_at "call ref") => `(tactic| (k_here; (fail_if_success k_inElt); kts_any; k_dflt (refine wpAny_call ?_; refine' Mine.code_defS0E ?k1 ?k2 ?k3 ?k4 ?k5 ?kA ?kF ?k6 ?k7 ?k8 ?k9 ?kB ?_ ?cK ?c2 ?c3 ?c4 ?c5; (case kA => exact rfl); (case kF => exact rfl); (case k2 => k_asm); (case k1 => k_asm); (case k3 => k_asm); (case k4 => k_asm); (case k5 => k_asm); (case k6 => k_is); (case k7 => k_is); (case k8 => k_room); (case k9 => first | exact binds_K (by k_in) rfl (by k_is) rfl rfl rfl | exact BindsTo.of_eq rfl | fail "kts_go: no rule for these arguments"); (case kB => exact locs rfl); (case cK => exact rfl); (case c2 => exact rfl); (case c3 => exact rfl); (case c4 => exact rfl); (case c5 => decide); k_whole; intro g' L' h' FG' F' N' B' X' T' D'; (try dsimp only); (try k_lift B'); (try k_fold))))
local macro_rules | `(tactic| k_all) => `(tactic| (refine' Mine.offLt ?h ?le; (case h => walk_at "mine_allLt"); (case le => omega)))
local macro_rules | `(tactic| walk_at "mine_allLt") => `(tactic| first | assumption | exact And.right (by assumption) | exact And.right (And.right (by assumption)) | exact And.right (And.right (And.right (by assumption))) | exact And.right (And.right (And.right (And.right (by assumption)))) | exact And.right (And.right (And.right (And.right (And.right (by assumption))))) | exact And.right (And.right (And.right (And.right (And.right (And.right (by assumption)))))))
local macro_rules | `(tactic| k_mem) => `(tactic| assumption)
local macro_rules | `(tactic| walk_at "eval ListComp") => `(tactic| (k_here; (with_reducible show wpAny _ _ (eval (PySem.Expr.ListComp _ [⟨PySem.Expr.Name _ _, _, [_], 0⟩] _ _) _) _ _ _); k_dflt (refine LCt.ListComp_T (F₀ := by k_asm) (by with_unfolding_all rfl) (by decide) (by rfl) (by decide) (by rfl) ?_)))
local macro_rules | `(tactic| walk_at "eval ListComp") => `(tactic| (k_here; (with_reducible show wpAny _ _ (eval (PySem.Expr.ListComp _ [⟨PySem.Expr.Tuple _ _ _, _, [], 0⟩] _ _) _) _ _ _); k_dflt (refine LCp.ListComp_P (F₀ := by k_asm) (by with_unfolding_all rfl) (by decide) (by rfl) (by decide) (by rfl) (by rfl) (by decide) ?_)))
local macro_rules | `(tactic| walk_at "CompSrcT") => `(tactic| fail "mine: stop")
local macro_rules | `(tactic| is_list) => `(tactic| exact News.isList (by k_asm) (by k_mem))
local macro_rules | `(tactic| walk_at "subscriptTail Name Name ref int") => `(tactic| (k_here; (with_reducible show wpAny _ _ (subscriptTail _ _ (Value.ref _) (Value.int _ _)) _ _ _); (with_unfolding_all refine' item_litK ?k1 ?k2 ?k3 ?k4 ?_ ?k6; (case k1 => is_list); (case k4 => with_reducible assumption); (case k2 => omega); (case k3 => omega); (case k6 => with_unfolding_all rfl); k_whole)))
local macro_rules | `(tactic| walk_at "call builtin:sorted") => `(tactic| (k_here; (with_reducible show wpAny _ _ (call (Value.builtin _) [Value.ref _]) _ _ _); k_dflt (refine' Mine.sorted_trips ?F ?N ?l ?T ?n ?z ?u ?_; (case F => k_asm); (case N => k_asm); (case l => is_list); (case T => with_reducible assumption); (case n => exact trips_nodup _ _ _); (case z => exact Nat.lt_of_le_of_lt (trips_length _ _ _) (by omega)); (case u => k_units); k_whole); intro D' c' h' vs' ts' F' N' l1 hp' ho' hT'; (try k_lt l1); (try k_sweep)))
theorem filler3 : Filler PySem.Challenge.rw_bm0019_01 Mine.hd.heap_39 := by
  k_fill
  exact trivial
set_option maxRecDepth 100000 in
set_option maxHeartbeats 8000000 in
theorem shown_call {w : World} {h₀ : Heap} {L a : Addr} {CA GO : Nat} {s : Shared} {m mg mb : Str → Option Value} {news : List (Addr × Obj)} {cn : Str} {nm : List (Str × NameKind)} {mr : List (Str × Const)} {cd : Value} {mean : ExcName → Option Value}
    {cs gs : List Value} {came : List (Int × Int)} {gone : List Int} {nc ng : Nat} {Q : Value → Shared → Prop} {E : Value → Shared → Prop}
    (X₀ : (Mine.hd.heap_39 w.params).In h₀) (B : Below callerA h₀ [] h₀) (T : Top hd.view_39 (looseW hd.view_39 []) mean mg mb h₀)
    (F : Fr h₀ L s.heap m) (N : News h₀ L s.heap news) (hCA : (CA, W.listOf cs.toArray nc) ∈ news) (hGO : (GO, W.listOf gs.toArray ng) ∈ news) (hT : All2 (PairIn news) cs came) (iG : IntsAre gs gone) (hlen : came.length = gone.length) (hz : gone.length ≤ 9)
    (hQ : ∀ (D : Nat) (ys : List Value) (ts : List (Int × Int × Int)) (h : Heap) (tk : Nat), Fr h₀ L h m → News h₀ L h ((D, W.listOf ys.toArray ys.length) :: news) → (∀ p ∈ news, p.1 ≠ D) → IntsAre ys (ts.map fun p => p.2.2) → ts.Perm (trips came gone gone.length) → ts.Pairwise (fun p q => ltT p q = true) → Q (.ref D) { s with heap := h, toks := tk }) :
    wpAny (model PySem.Challenge.pw_bm0019_01 w) (callerA.deeper (envOfC cn { kind := .function, names := nm, isGenerator := false, isCoroutine := false, more := mr } L a cd)) (call (.ref 68) [.ref CA, .ref GO]) Q E s := by
  w_top off
  k_steps
  refine LCt.CompSrcT.range (by rfl) (by k_asm) (by k_asm) (by assumption) (n := gone.length) ?sm ?hn ?hs ?_
  case sm => exact range_small (by omega)
  case hn => exact range_size _
  case hs => (rw [sizeLine_eq]; omega)
  intro g'
  dsimp only
  refine shownT (came := came) (gone := gone) ?fin ?turn
  case turn =>
    intro i ys nw hi hb hT' v I oI C oC D m₂ h tk E' hv hoC hm F N off hIC hID hCD
    obtain ⟨tv, rfl⟩ := hv
    have c1 := List.Mem.tail (I, oI) (List.Mem.tail (C, oC) (List.Mem.tail (D, PyProof.Rows.LCg.lst ys) (hb _ (.head _))))
    have c2 := List.Mem.tail (I, oI) (List.Mem.tail (C, oC) (List.Mem.tail (D, PyProof.Rows.LCg.lst ys) (hb _ (.tail _ (.head _)))))
    have c3 := List.Mem.tail (I, oI) (List.Mem.tail (C, oC) (List.Mem.tail (D, PyProof.Rows.LCg.lst ys) (hb _ (.tail _ (.tail _ hCA)))))
    have c4 := List.Mem.tail (I, oI) (List.Mem.tail (C, oC) (List.Mem.tail (D, PyProof.Rows.LCg.lst ys) (hb _ (.tail _ (.tail _ hGO)))))
    obtain ⟨c, a1, b1, e1, m1⟩ := hT.get (a := Value.none) (b := (0, 0)) (i := i) (by omega)
    have hx := get_of hT (by omega) e1
    k_steps
    · rename I < _ ∧ _ => l1
      exact turn_new (by k_asm) (by k_asm) ⟨l1.1, l1.2.1, l1.2.2.1⟩ off hb hT' (by assumption) ⟨c, a1, b1, rfl, hb _ (.tail _ (.tail _ m1))⟩
    · exact turn_keep (by k_asm) (by k_asm) off hb hT' (by assumption)
  case fin =>
    intro ys nw hb hT' D h tk F N off
    have hT2 := hT'.mono fun _ _ x => x.mono fun p hp => List.Mem.tail (D, PyProof.Rows.LCg.lst ys) hp
    have c0 := List.Mem.head (a := (D, PyProof.Rows.LCg.lst ys)) nw
    k_steps
    rename List.Perm _ _ => hp2
    rename List.Pairwise _ _ => hs2
    rename All2 _ _ _ => hT3
    refine LCp.SrcLP.ledger (by rfl) (by k_asm) (by k_asm) (.head _) ?sz2 ?_
    case sz2 => (have e1 := hT3.length; have e2 := hp2.length_eq; have e3 := trips_length came gone gone.length; rw [sizeLine_eq, List.size_toArray]; omega)
    intro g2
    dsimp only
    refine shownP (.head _) (trips_up hT3) ?fin2 ?turn2
    case turn2 =>
      intro kv tv I oI C oC D9 ys9 nw9 m₂ h9 tk9 Q' E' hoC hm F9 N9 hQ'
      k_steps
      exact hQ'
    case fin2 =>
      intro ys9 nw9 hb9 hI9 D9 h9 tk9 F9 N9 off9
      have c9 := List.Mem.head (a := (D9, PyProof.Rows.LCg.lst ys9)) nw9
      k_steps
      rename Fr h₀ L _ _ => kF
      rename News h₀ L _ _ => kN
      exact hQ D9 ys9 _ h9 tk9 kF (fun p hp => by
        rcases List.mem_cons.mp hp with rfl | hp
        · exact news_lst kN _ (.head _)
        · exact kN _ (.tail _ (hb9 _ (.tail _ (.tail _ (hb _ (.tail _ (.tail _ hp)))))))) (fun p hp => off1_mem off9 _ (hb9 _ (.tail _ (.tail _ (hb _ (.tail _ (.tail _ hp))))))) hI9 hp2 hs2
end Mine
end
section
open PySem PySem.W PySem.Calls PyProof.Rows PyProof.Rows.LCg
set_option maxHeartbeats 1000000
namespace Mine
section
variable {prog : Program} {w : World} {A : Around} {s : Shared} {h₀ : Heap} {L : Addr} {m : Str → Option Value} {env : Env}
def cameOf (n : Nat) : List (Int × Int) := (List.range n).map fun (k : Nat) => ((0 : Int), (k : Int))
theorem cameOf_zero : cameOf 0 = [] := rfl
theorem cameOf_succ (n : Nat) : cameOf (n + 1) = cameOf n ++ [(0, (n : Int))] := by
  unfold cameOf; rw [List.range_succ, List.map_append]; rfl
/-- the ledger grew by pairs of its own -/
def Grew (base nw : List (Addr × Obj)) (ys : List Value) (ps : List (Int × Int)) : Prop := ∃ tl, nw = tl ++ base ∧ OwnOff tl (base.map (·.1)) ∧ All2 (PairIn tl) ys ps
theorem turn_came {base nw : List (Addr × Obj)} {I C D x : Addr} {oI oC oD : Obj} {h' : Heap} {tk : Nat} {ta tv : Tok} {s₁ : Shared} {ys : List Value} {i : Nat} (F : Fr h₀ L h' m) (N : News h₀ L h' ((x, pairObj 0 (0 + (i : Int)) ta tv) :: (I, oI) :: (C, oC) :: (D, oD) :: nw)) (l1 : I < x ∧ C < x ∧ D < x ∧ AllLt x nw) (off : Off3 I C D nw) (hg : Grew base nw ys (cameOf i)) :
    CompEnd h₀ L m s₁ I oI C oC D oD (fun _ => True) (fun y nw' => Grew base nw' (ys ++ [y]) (cameOf (i + 1))) (.ref x) { s₁ with heap := h', toks := tk } :=
  CompEnd.intro F N ((x, pairObj 0 (0 + (i : Int)) ta tv) :: nw) (fun p hp => by
    simp only [List.mem_cons] at hp ⊢
    rcases hp with h | h | h | h | h
    · exact .inr (.inl h)
    · exact .inr (.inr (.inl h))
    · exact .inr (.inr (.inr (.inl h)))
    · exact .inl h
    · exact .inr (.inr (.inr (.inr h)))) (off3_cons off ⟨l1.1, l1.2.1, l1.2.2.1⟩) trivial (by
    obtain ⟨tl, rfl, ho, hT⟩ := hg
    refine ⟨(x, pairObj 0 (0 + (i : Int)) ta tv) :: tl, rfl, fun p hp b hb => ?_, ?_⟩
    · rcases List.mem_cons.mp hp with rfl | hp
      · obtain ⟨q, hq, rfl⟩ := List.mem_map.mp hb
        exact (offLt l1.2.2.2 (Nat.le_refl _) q (List.mem_append_right _ hq)).symm
      · exact ho p hp b hb
    · rw [cameOf_succ]
      refine All2.append (hT.mono fun _ _ h => h.mono fun p hp => .tail _ hp) (.cons ⟨x, ta, tv, rfl, ?_⟩ .nil)
      rw [show (0 + (i : Int)) = i by omega]
      exact .head _)
theorem cameC {n : Nat} {base : List (Addr × Obj)} {elt : Expr} {x : Str} {scope : Scope} {cl : List (Str × Addr)} {P : Nat → Value → Prop} {Fin : List Value → List (Addr × Obj) → Prop}
    (fin : ∀ ys nw, Grew base nw ys (cameOf n) → Fin ys nw)
    (turn : ∀ i ys nw, i < n → Grew base nw ys (cameOf i) → ∀ v I oI C oC D m₂ h tk (E' : Value → Shared → Prop), P i v → NsObj oC m₂ → m₂ x = some v → Fr h₀ L h m → News h₀ L h ((I, oI) :: (C, oC) :: (D, lst ys) :: nw) → Off3 I C D nw → (@Ne Nat I C) → (@Ne Nat I D) → (@Ne Nat C D) →
      wpAny (model prog w) A (eval elt (compEnvC scope cl C env)) (CompEnd h₀ L m { s with heap := h, toks := tk } I oI C oC D (lst ys) (fun _ => True) (fun y nw' => Grew base nw' (ys ++ [y]) (cameOf (i + 1)))) E' { s with heap := h, toks := tk }) :
    CompRest prog w A h₀ L m env elt x scope cl s (fun _ => True) P Fin n 0 [] base :=
  comp_inv (J := fun i ys nw => Grew base nw ys (cameOf i)) (fun ys nw h => fin ys nw h)
    (fun i ys nw hi hJ v I oI C oC D m₂ h tk E' a b c d e f g => turn i ys nw hi hJ v I oI C oC D m₂ h tk E' a b c d e f g.1 g.2.1 g.2.2) n 0 [] base (Nat.zero_add _) ⟨[], rfl, (fun p hp => by cases hp), .nil⟩
theorem relist {h : Heap} {x : Addr × Obj} {tl base : List (Addr × Obj)} (N : News h₀ L h (x :: (tl ++ base))) : News h₀ L h (x :: (base ++ tl)) := fun p hp => by
  refine N p ?_
  rcases List.mem_cons.mp hp with rfl | hp
  · exact .head _
  · exact .tail _ (List.mem_append.mpr (List.mem_append.mp hp).symm)
theorem reoff {x : Addr} {tl base : List (Addr × Obj)} (o : Off1 x (tl ++ base)) (h : OwnOff tl (base.map (·.1))) : OwnOff tl (x :: base.map (·.1)) := fun p hp b hb => by
  rcases List.mem_cons.mp hb with rfl | hb
  · exact off1_mem o p (List.mem_append_left _ hp)
  · exact h p hp b hb
theorem base_ne {x : Addr} {tl base : List (Addr × Obj)} (o : Off1 x (tl ++ base)) : Off1 x base := by
  induction tl with
  | nil => exact o
  | cons p tl ih => exact ih o.2
def OffA (D : Nat) : List (Addr × Obj) → Prop
  | [] => True
  | p :: r => Apart p.1 D ∧ OffA D r
theorem offA {D : Addr} : ∀ {l : List (Addr × Obj)}, Off1 D l → OffA D l
  | [], _ => trivial
  | _ :: _, h => ⟨h.1, offA h.2⟩
end
end Mine
end
section
open PySem PySem.W PySem.Calls PyProof.Rows
set_option maxHeartbeats 2000000
namespace Mine
section
variable {prog : Program} {w : World} {A : Around} {E : Value → Shared → Prop} {s : Shared} {env : Env} {h₀ : Heap} {x : Str} {body : List Stmt} {Q : Flow → Shared → Prop}
/-- what a turn of the loop hands on: a state of mine, the names that bear it, the other names untouched -/
def LoopK {σ : Type} (ps : σ → List (Str × Value)) (stored : List Str) (x : Str) (m₀ : Str → Option Value) (K : σ → List (Addr × Obj) → Prop) (m : Str → Option Value) (nx : List (Addr × Obj)) : Prop :=
  ∃ c, K c nx ∧ (∀ p ∈ ps c, m p.1 = some p.2) ∧ ∀ z, z ≠ x → (∀ p ∈ ps c, z ≠ p.1) → stored.contains z = false → m z = m₀ z
theorem loopR {σ : Type} {r : Addr} {a₀ b₀ : Int} {t₀ u₀ v₀ : Tok} {n : Nat} {m₀ : Str → Option Value} {news : List (Addr × Obj)} (ps : σ → List (Str × Value)) (stored : List Str) (K : Nat → σ → List (Addr × Obj) → Prop) (c₀ : σ) (nx₀ : List (Addr × Obj))
    (hh : A.handled = none) (hr : IsRange s.heap r a₀ b₀ 1 t₀ u₀ v₀) (hsmall : Builtin.Range.small a₀ b₀ 1 = true) (hsz : Builtin.Range.rangeSize a₀ b₀ 1 = (n : Int)) (F : Fr h₀ env.locals s.heap m₀) (N : News h₀ env.locals s.heap news) (hn : ∀ p ∈ nx₀, p ∈ news) (hk : ∀ p ∈ ps c₀, m₀ p.1 = some p.2) (hj : K 0 c₀ nx₀)
    (turn : ∀ i c nx t (u : Str → Option Value) h tk own, i < n → OwnOff own (nx.map (·.1)) → K i c nx →
      Fr h₀ env.locals h (fun y => if y = x then some (.int (a₀ + (i : Int)) t) else kstB (fun z => if stored.contains z then u z else m₀ z) (ps c) y) → News h₀ env.locals h (nx ++ own) →
      wpAny (model prog w) A (execs body env) (InvPostG h₀ env.locals (LoopK ps stored x m₀ (K (i + 1))) own { s with heap := h, toks := tk } Q) E { s with heap := h, toks := tk })
    (done : ∀ c nx (u : Str → Option Value) h tk, K n c nx → Fr h₀ env.locals h (fun y => if y = x then u y else kstB (fun z => if stored.contains z then u z else m₀ z) (ps c) y) → News h₀ env.locals h nx → Q .next { s with heap := h, toks := tk }) :
    wpAny (model prog w) A (pyIter (.ref r)) (fun it s₂ => LoopAtV prog w A h₀ env x body Q E it s₂) E s := by
  refine wpAny_pyIter_range hr hsmall ?_
  have W : Walks prog w A s.heap.objs.size [s.heap.objs.size] [s.heap.objs.size] n (fun i v => i < n ∧ ∃ t, v = .int (a₀ + i * 1) t)
      (fun i h => IsRangeIter h s.heap.objs.size (a₀ + (i : Nat) * 1) ((n : Int) - (i : Nat)) 1) := (Walks.range hh _ a₀ 1 n).bound
  refine kdr_loop (fun i m nx => LoopK ps stored x m₀ (K i) m nx) W (fun _ h => h) (fun _ h => h) ?_ ?_ ?_ ?_ (by show IsRangeIter _ _ _ _ _; rw [hsz]; simpa using Heap.get?_push_size _ rfl) (F.push _) (fun p hp => ⟨Heap.get?_push_of_some _ (N p (hn p hp)).1, (N p (hn p hp)).2⟩) ⟨c₀, hj, hk, fun _ _ _ _ => rfl⟩ ?_ ?_
  · intro i h hi b hb
    rw [List.mem_singleton.mp hb]
    exact ⟨_, hi⟩
  · intro hm
    exact absurd F.ns.lt ((List.mem_singleton.mp hm) ▸ Nat.lt_irrefl _)
  · intro b hb
    rw [List.mem_singleton.mp hb]
    exact next_is_new F
  · intro p hp hI
    exact absurd (Heap.lt_size (N p (hn p hp)).1) ((List.mem_singleton.mp hI) ▸ Nat.lt_irrefl _)
  · rintro i v m₁ nx h tk own hi ⟨_, t, rfl⟩ hoff ⟨c, hK, h1, h2⟩ F₁ N₁
    have e1 : a₀ + (i : Int) * 1 = a₀ + (i : Int) := by omega
    rw [e1] at F₁
    exact turn i c nx t m₁ h tk own hi hoff hK (kst_fr h1 h2 F₁) N₁
  · rintro m₁ nx h tk ⟨c, hK, h1, h2⟩ F₁ N₁
    exact done c nx m₁ h tk hK (kst_frOut h1 h2 F₁) N₁
end
end Mine
end
section
open PySem PySem.W PySem.Calls PyProof.Rows
set_option maxHeartbeats 2000000
namespace Mine
/-- what the inner loop has done behind its first i turns -/
structure Swept (t since : Int) (came : List (Int × Int)) (gone : List Int) (i : Nat) (came' : List (Int × Int)) (gone' : List Int) : Prop where
  lc : came'.length = came.length
  lg : gone'.length = gone.length
  hc : ∀ k, came'.getD k (0, 0) = if k < i ∧ gone.getD k 0 > since then (t, gone.getD k 0) else came.getD k (0, 0)
  hg : ∀ k, gone'.getD k 0 = if k < i ∧ gone.getD k 0 > since then 0 else gone.getD k 0
theorem Swept.zero {t since : Int} {came : List (Int × Int)} {gone : List Int} : Swept t since came gone 0 came gone :=
  ⟨rfl, rfl, fun k => by rw [if_neg (by omega)], fun k => by rw [if_neg (by omega)]⟩
theorem Swept.keep {t since : Int} {came came' : List (Int × Int)} {gone gone' : List Int} {i : Nat} (S : Swept t since came gone i came' gone') (h : ¬ gone'.getD i 0 > since) : Swept t since came gone (i + 1) came' gone' := by
  have e := S.hg i
  rw [if_neg (by omega)] at e
  rw [e] at h
  refine ⟨S.lc, S.lg, fun k => ?_, fun k => ?_⟩
  · rw [S.hc k]
    by_cases hk : k = i
    · subst hk; rw [if_neg (by omega), if_neg (by omega)]
    · by_cases h2 : k < i ∧ gone.getD k 0 > since
      · rw [if_pos h2, if_pos (by omega)]
      · rw [if_neg h2, if_neg (by omega)]
  · rw [S.hg k]
    by_cases hk : k = i
    · subst hk; rw [if_neg (by omega), if_neg (by omega)]
    · by_cases h2 : k < i ∧ gone.getD k 0 > since
      · rw [if_pos h2, if_pos (by omega)]
      · rw [if_neg h2, if_neg (by omega)]
theorem getD_set {α : Type} {l : List α} {i k : Nat} {a d : α} (hi : i < l.length) : (l.set i a).getD k d = if k = i then a else l.getD k d := by
  simp only [List.getD_eq_getElem?_getD, List.getElem?_set]
  by_cases h : i = k
  · subst h; simp [hi]
  · rw [if_neg h, if_neg (fun e => h e.symm)]
theorem Swept.next {t since : Int} {came came' : List (Int × Int)} {gone gone' : List Int} {i : Nat} (S : Swept t since came gone i came' gone') (hi : i < gone.length) (hc : came.length = gone.length) (h : gone'.getD i 0 > since) :
    Swept t since came gone (i + 1) (came'.set i (t, gone'.getD i 0)) (gone'.set i 0) := by
  have e := S.hg i
  rw [if_neg (by omega)] at e
  rw [e] at h ⊢
  have l1 := S.lc
  have l2 := S.lg
  refine ⟨by rw [List.length_set]; exact l1, by rw [List.length_set]; exact l2, fun k => ?_, fun k => ?_⟩
  · rw [getD_set (by omega)]
    by_cases hk : k = i
    · subst hk; rw [if_pos rfl, if_pos (by omega)]
    · rw [if_neg hk, S.hc k]
      by_cases h2 : k < i ∧ gone.getD k 0 > since
      · rw [if_pos h2, if_pos (by omega)]
      · rw [if_neg h2, if_neg (by omega)]
  · rw [getD_set (by omega)]
    by_cases hk : k = i
    · subst hk; rw [if_pos rfl, if_pos (by omega)]
    · rw [if_neg hk, S.hg k]
      by_cases h2 : k < i ∧ gone.getD k 0 > since
      · rw [if_pos h2, if_pos (by omega)]
      · rw [if_neg h2, if_neg (by omega)]
structure ISt where
  cs : List Value
  came : List (Int × Int)
  nc : Nat
  gs : List Value
  gone : List Int
  ng : Nat
/-- the ledger of the inner loop: the two lists, pairs of its own, the rest -/
def InnerK (CA GO : Nat) (base sub : List (Addr × Obj)) (t since : Int) (came : List (Int × Int)) (gone : List Int) (i : Nat) (c : ISt) (nx : List (Addr × Obj)) : Prop :=
  ∃ tl, nx = (CA, W.listOf c.cs.toArray c.nc) :: (GO, W.listOf c.gs.toArray c.ng) :: (tl ++ base) ∧ OwnOff tl (CA :: GO :: base.map (·.1)) ∧ All2 (PairIn (tl ++ sub)) c.cs c.came ∧ IntsAre c.gs c.gone ∧ Swept t since came gone i c.came c.gone
theorem OwnOff.app {a b : List (Addr × Obj)} {l : List Addr} (h1 : OwnOff a l) (h2 : OwnOff b l) : OwnOff (a ++ b) l := fun p hp x hx =>
  (List.mem_append.mp hp).elim (fun h => h1 p h x hx) fun h => h2 p h x hx
theorem OwnOff.sub {a : List (Addr × Obj)} {l l' : List Addr} (h : OwnOff a l) (hs : ∀ x ∈ l', x ∈ l) : OwnOff a l' := fun p hp x hx => h p hp x (hs x hx)
theorem pairs_mono {n n' : List (Addr × Obj)} (h : ∀ p ∈ n, p ∈ n') {vs : List Value} {ps : List (Int × Int)} (x : All2 (PairIn n) vs ps) : All2 (PairIn n') vs ps := x.mono fun _ _ q => q.mono h
section
variable {prog : Program} {w : World} {A : Around} {E : Value → Shared → Prop} {s : Shared} {env : Env} {h₀ : Heap} {x : Str} {body : List Stmt} {Q : Flow → Shared → Prop}
theorem innerR {CA GO : Nat} {base sub : List (Addr × Obj)} {t since : Int} {r : Addr} {t₀ u₀ v₀ : Tok} {m₀ : Str → Option Value} {cs gs : List Value} {came : List (Int × Int)} {gone : List Int} {nc ng : Nat}
    (hh : A.handled = none) (hr : IsRange s.heap r 0 (gone.length : Int) 1 t₀ u₀ v₀) (hz : gone.length ≤ 9) (hcl : came.length = gone.length) (F : Fr h₀ env.locals s.heap m₀)
    (N : News h₀ env.locals s.heap ((CA, W.listOf cs.toArray nc) :: (GO, W.listOf gs.toArray ng) :: base)) (hoff : OwnOff base [CA, GO]) (hT : All2 (PairIn sub) cs came) (iG : IntsAre gs gone)
    (turn : ∀ (i : Nat) (cs : List Value) (came' : List (Int × Int)) (gs : List Value) (gone' : List Int) (nc ng : Nat) (k : Tok) (h : Heap) (tk : Nat) (own tl rest : List (Addr × Obj)), i < gone.length → came'.length = gone.length → gone'.length = gone.length → rest = (tl ++ base) ++ own → OwnOff rest [CA, GO] → OwnOff tl (CA :: GO :: base.map (·.1)) → OwnOff own (CA :: GO :: (tl ++ base).map (·.1)) → All2 (PairIn (tl ++ sub)) cs came' → IntsAre gs gone' → Swept t since came gone i came' gone' →
      Fr h₀ env.locals h (fun y => if y = x then some (.int (0 + (i : Int)) k) else m₀ y) → News h₀ env.locals h ((CA, W.listOf cs.toArray nc) :: (GO, W.listOf gs.toArray ng) :: rest) →
      wpAny (model prog w) A (execs body env) (InvPostG h₀ env.locals (LoopK (fun _ => []) [] x m₀ (InnerK CA GO base sub t since came gone (i + 1))) own { s with heap := h, toks := tk } Q) E { s with heap := h, toks := tk })
    (done : ∀ (cs : List Value) (came' : List (Int × Int)) (gs : List Value) (gone' : List Int) (nc ng : Nat) (tl : List (Addr × Obj)) (u : Str → Option Value) (h : Heap) (tk : Nat), OwnOff tl (CA :: GO :: base.map (·.1)) → All2 (PairIn (tl ++ sub)) cs came' → IntsAre gs gone' → Swept t since came gone gone.length came' gone' →
      Fr h₀ env.locals h (fun y => if y = x then u y else m₀ y) → News h₀ env.locals h ((CA, W.listOf cs.toArray nc) :: (GO, W.listOf gs.toArray ng) :: (tl ++ base)) → Q .next { s with heap := h, toks := tk }) :
    wpAny (model prog w) A (pyIter (.ref r)) (fun it s₂ => LoopAtV prog w A h₀ env x body Q E it s₂) E s := by
  refine loopR (fun _ => []) [] (InnerK CA GO base sub t since came gone) ⟨cs, came, nc, gs, gone, ng⟩ _ hh hr (range_small (by omega)) (range_size _) F N (fun _ hp => hp) (fun _ hp => nomatch hp) ⟨[], rfl, (fun p hp => by cases hp), hT, iG, .zero⟩ ?_ ?_
  · rintro i ⟨cs, came', nc, gs, gone', ng⟩ nx k u h tk own hi ho ⟨tl, rfl, ho2, hT, iG, S⟩ F₁ N₁
    refine turn i cs came' gs gone' nc ng k h tk own tl _ hi (S.lc.trans hcl) S.lg rfl ?_ ho2 ho hT iG S F₁ N₁
    have hs : ∀ (l : List Addr) (x : Addr), x ∈ ([CA, GO] : List Addr) → x ∈ CA :: GO :: l := fun l x hx => by
      rcases List.mem_cons.mp hx with rfl | hx
      · exact .head _
      · rcases List.mem_cons.mp hx with rfl | hx
        · exact .tail _ (.head _)
        · cases hx
    exact OwnOff.app (OwnOff.app (OwnOff.sub ho2 (hs _)) hoff) (OwnOff.sub ho (hs _))
  · rintro ⟨cs, came', nc, gs, gone', ng⟩ nx u h tk ⟨tl, rfl, ho2, hT, iG, S⟩ F₁ N₁
    exact done cs came' gs gone' nc ng tl u h tk ho2 hT iG S F₁ N₁
theorem inner_keep {CA GO : Nat} {base sub own tl rest : List (Addr × Obj)} {t since : Int} {cs gs : List Value} {came came' : List (Int × Int)} {gone gone' : List Int} {nc ng i : Nat} {L : Addr} {m' m₀ : Str → Option Value} {s₁ : Shared} {h' : Heap} {tk : Nat}
    (hr : rest = (tl ++ base) ++ own) (o1 : OwnOff tl (CA :: GO :: base.map (·.1))) (o2 : OwnOff own (CA :: GO :: (tl ++ base).map (·.1))) (hT : All2 (PairIn (tl ++ sub)) cs came') (iG : IntsAre gs gone') (S : Swept t since came gone i came' gone') (hle : ¬ gone'.getD i 0 > since)
    (F : Fr h₀ L h' m') (N : News h₀ L h' ((CA, W.listOf cs.toArray nc) :: (GO, W.listOf gs.toArray ng) :: rest)) (hm : ∀ z, z ≠ x → m' z = m₀ z) :
    InvEndG h₀ L (LoopK (fun _ => []) [] x m₀ (InnerK CA GO base sub t since came gone (i + 1))) own s₁ { s₁ with heap := h', toks := tk } := by
  subst hr
  refine InvEndG.intro (nx := (CA, W.listOf cs.toArray nc) :: (GO, W.listOf gs.toArray ng) :: (tl ++ base)) F N ⟨⟨cs, came', nc, gs, gone', ng⟩, ⟨tl, rfl, o1, hT, iG, S.keep hle⟩, (fun _ hp => nomatch hp), fun z hz _ _ => hm z hz⟩ o2 (fun p hp => ?_) fun p hp => .tail _ (.tail _ (List.mem_append_right _ hp))
  rcases List.mem_cons.mp hp with rfl | hp
  · exact .head _
  · rcases List.mem_cons.mp hp with rfl | hp
    · exact .tail _ (.head _)
    · exact .tail _ (.tail _ (List.mem_append_left _ hp))
theorem inner_new {CA GO y : Nat} {base sub own tl rest : List (Addr × Obj)} {t since : Int} {cs' gs' : List Value} {came came' : List (Int × Int)} {gone gone' : List Int} {nc ng i : Nat} {L : Addr} {m' m₀ : Str → Option Value} {s₁ : Shared} {h' : Heap} {tk : Nat} {ta tb : Tok}
    (hr : rest = (tl ++ base) ++ own) (o1 : OwnOff tl (CA :: GO :: base.map (·.1))) (o2 : OwnOff own (CA :: GO :: (tl ++ base).map (·.1))) (hT : All2 (PairIn ((y, pairObj t (gone'.getD i 0) ta tb) :: (tl ++ sub))) cs' (came'.set i (t, gone'.getD i 0))) (iG : IntsAre gs' (gone'.set i 0)) (S : Swept t since came gone i came' gone') (hi : i < gone.length) (hcl : came.length = gone.length) (hle : gone'.getD i 0 > since)
    (l1 : CA < y ∧ GO < y ∧ AllLt y rest)
    (F : Fr h₀ L h' m') (N : News h₀ L h' ((y, pairObj t (gone'.getD i 0) ta tb) :: (CA, W.listOf cs'.toArray nc) :: (GO, W.listOf gs'.toArray ng) :: rest)) (hm : ∀ z, z ≠ x → m' z = m₀ z) :
    InvEndG h₀ L (LoopK (fun _ => []) [] x m₀ (InnerK CA GO base sub t since came gone (i + 1))) own s₁ { s₁ with heap := h', toks := tk } := by
  subst hr
  have hy := offLt l1.2.2 (Nat.le_refl _)
  refine InvEndG.intro (nx := (CA, W.listOf cs'.toArray nc) :: (GO, W.listOf gs'.toArray ng) :: (((y, pairObj t (gone'.getD i 0) ta tb) :: tl) ++ base)) F N ⟨⟨cs', _, nc, gs', _, ng⟩, ⟨(y, pairObj t (gone'.getD i 0) ta tb) :: tl, rfl, ?_, hT, iG, S.next hi hcl hle⟩, (fun _ hp => nomatch hp), fun z hz _ _ => hm z hz⟩ ?_ (fun p hp => ?_) fun p hp => .tail _ (.tail _ (.tail _ (List.mem_append_right _ hp)))
  · intro p hp b hb
    rcases List.mem_cons.mp hp with rfl | hp
    · rcases List.mem_cons.mp hb with rfl | hb
      · exact Nat.ne_of_gt l1.1
      · rcases List.mem_cons.mp hb with rfl | hb
        · exact Nat.ne_of_gt l1.2.1
        · obtain ⟨q, hq, rfl⟩ := List.mem_map.mp hb
          exact (hy q (List.mem_append_left _ (List.mem_append_right _ hq))).symm
    · exact o1 p hp b hb
  · intro p hp b hb
    simp only [List.map_cons, List.cons_append, List.mem_cons] at hb
    rcases hb with h | h | h | h
    · exact o2 p hp b (by rw [h]; exact .head _)
    · exact o2 p hp b (by rw [h]; exact .tail _ (.head _))
    · rw [h]; exact hy p (List.mem_append_right _ hp)
    · exact o2 p hp b (.tail _ (.tail _ h))
  · simp only [List.mem_cons, List.cons_append] at hp ⊢
    rcases hp with h | h | h | h
    · exact .inr (.inl h)
    · exact .inr (.inr (.inl h))
    · exact .inl h
    · exact .inr (.inr (.inr (List.mem_append_left _ h)))
end
end Mine
end
section
open PySem PySem.W PySem.Calls PyProof.Rows
set_option maxHeartbeats 2000000
namespace Mine
/-- what a deed makes of what is shown, what is hidden, what is saved -/
def dV (deed val : Int) (V Hd St : List Int) : List Int :=
  if deed < 2 then V else if deed < 4 then (if St = [] then V else V ++ Hd.drop (Hd.length - (St.getLastD 0 - (V.length : Int)).toNat)) else if deed = 4 then V ++ Hd else if val ∈ V then V.erase val else V
def dH (deed val : Int) (V Hd St : List Int) : List Int :=
  if deed < 2 then Hd else if deed < 4 then (if St = [] then Hd else Hd.take (Hd.length - (St.getLastD 0 - (V.length : Int)).toNat)) else if deed = 4 then [] else if val ∈ V then Hd ++ [val] else Hd
def dS (deed : Int) (V St : List Int) : List Int :=
  if deed < 2 then St ++ [(V.length : Int)] else if deed < 4 then St.dropLast else if deed = 4 then [] else St
def dR (deed val : Int) (V St : List Int) : Str :=
  if deed < 2 then Str.ofString "done" else if deed < 4 then (if St = [] then Str.ofString "not saved" else Str.ofString "done") else if deed = 4 then Str.ofString "done" else if val ∈ V then Str.ofString "done" else Str.ofString "not shown"
theorem deed_all {w : World} {h₀ : Heap} {L a : Addr} {D dd H S : Nat} {s : Shared} {m mg mb : Str → Option Value} {rest : List (Addr × Obj)} {cn : Str} {nm : List (Str × NameKind)} {mr : List (Str × Const)} {cd : Value} {mean : ExcName → Option Value}
    {deed val : Int} {td tv t1 t2 : Tok} {vs hs ss : List Value} {V Hd St : List Int} {n0 n1 n2 : Nat} {Q : Value → Shared → Prop} {E : Value → Shared → Prop}
    (X₀ : (Mine.hd.heap_39 w.params).In h₀) (B : Below callerA h₀ [] h₀) (T : Top hd.view_39 (looseW hd.view_39 []) mean mg mb h₀)
    (F : Fr h₀ L s.heap m) (N : News h₀ L s.heap ((D, domObj 59 dd vs.toArray n0) :: (dd, domDict w H S t1 t2) :: (H, W.listOf hs.toArray n1) :: (S, W.listOf ss.toArray n2) :: rest))
    (hd1 : D ≠ dd) (hd2 : D ≠ H) (hd3 : D ≠ S) (hd4 : dd ≠ H) (hd5 : dd ≠ S) (hd6 : H ≠ S) (hoff : OwnOff rest [D, dd, H, S])
    (iV : IntsAre vs V) (iH : IntsAre hs Hd) (iS : IntsAre ss St) (hzv : V.length + Hd.length ≤ 20) (hzs : St.length ≤ 100)
    (hb : St ≠ [] → (V.length : Int) ≤ St.getLastD 0 ∧ St.getLastD 0 ≤ V.length + Hd.length)
    (hQ : ∀ h' tk tk' vs' hs' ss' n0' n1' n2', Fr h₀ L h' m → News h₀ L h' ((D, domObj 59 dd vs'.toArray n0') :: (dd, domDict w H S t1 t2) :: (H, W.listOf hs'.toArray n1') :: (S, W.listOf ss'.toArray n2') :: rest) → IntsAre vs' (dV deed val V Hd St) → IntsAre hs' (dH deed val V Hd St) → IntsAre ss' (dS deed V St) → Q (.str (dR deed val V St) tk') { s with heap := h', toks := tk }) :
    wpAny (model PySem.Challenge.pw_bm0019_01 w) (callerA.deeper (envOfC cn { kind := .function, names := nm, isGenerator := false, isCoroutine := false, more := mr } L a cd)) (call (.ref 75) [.ref D, .int deed td, .int val tv]) Q E s := by
  have lV := IntsAre.len iV
  have lH := IntsAre.len iH
  have lS := IntsAre.len iS
  by_cases h1 : deed < 2
  · simp only [dV, dH, dS, dR, if_pos h1] at hQ
    exact deed_push X₀ B T F N hd1 hd2 hd3 hd4 hd5 hd6 hoff iV iH iS (by omega) (by omega) h1 hQ
  by_cases h2 : deed < 4
  · by_cases h3 : St = []
    · subst h3
      simp only [dV, dH, dS, dR, if_neg h1, if_pos h2, if_true, List.dropLast_nil] at hQ
      have : ss = [] := List.length_eq_zero_iff.mp (by simpa using lS)
      exact deed_popE X₀ B T F N hd1 hd2 hd3 hd4 hd5 hd6 hoff iV iH iS (by omega) (by omega) (by omega) h2 this hQ
    · simp only [dV, dH, dS, dR, if_neg h1, if_pos h2, if_neg h3] at hQ
      have hp : 0 < St.length := List.length_pos_iff.mpr h3
      obtain ⟨b1, b2⟩ := hb h3
      exact deed_pop X₀ B T F N hd1 hd2 hd3 hd4 hd5 hd6 hoff iV iH iS (by omega) (by omega) (by omega) h2 (by omega) (by rw [lV]; exact b1) (by rw [lV, lH]; exact b2) hQ
  · refine deed_rest X₀ B T F N hd1 hd2 hd3 hd4 hd5 hd6 hoff iV iH iS (by omega) (by omega) (by omega) (fun h4 => ?_) (fun h4 h5 => ?_) (fun h4 h5 => ?_)
    · simp only [dV, dH, dS, dR, if_neg h1, if_neg h2, if_pos h4] at hQ
      exact hQ
    · simp only [dV, dH, dS, dR, if_neg h1, if_neg h2, if_neg h4, if_pos h5] at hQ
      exact hQ
    · simp only [dV, dH, dS, dR, if_neg h1, if_neg h2, if_neg h4, if_neg h5] at hQ
      exact hQ
end Mine
end
section
open PySem PySem.W PySem.Calls PyProof.Rows Builtin Builtin.ObjectAttr Builtin.List
set_option maxRecDepth 100000
set_option maxHeartbeats 4000000
namespace Mine
section
variable {prog : Program} {w : World} {A : Around} {K : Frag} {C x dx L l : Addr} {s : Shared} {h₀ : Heap} {m : Str → Option Value} {news : List (Addr × Obj)} {E : Value → Shared → Prop}
  {od : Obj} {us : List Value} {n : Nat}
theorem spec_dom {name : Str} {f : Value} {Q : Option Value → Shared → Prop} (X : K.In s.heap) (I : InstAt s.heap x (domObj C dx us.toArray n) C (some od)) (hs : findIn K (.ref C) name = some (some f)) (h : Q (some f) s) :
    wpAny (model prog w) A (specialOf (.ref x) name) Q E s := by
  unfold specialOf
  exact wpAny_bind (I.type.here ((looks_findIn X hs).here h))
/-- iter() of an object of a class whose base is list -/
theorem pyIter_dom {Q : Value → Shared → Prop} (F : Fr h₀ L s.heap m) (X₀ : K.In h₀) (N : News h₀ L s.heap news) (hx : (x, domObj C dx us.toArray n) ∈ news) (hdx : (dx, od) ∈ news) (hsub : subIn K (.ref C) (.type "list") = some true)
    (hi : findIn K (.ref C) "__iter__" = some (some (.builtin "list.__iter__")))
    (hQ : Q (.ref s.heap.objs.size) { s with heap := s.heap.push { cls := .type "list_iterator", data := .fields #[.ref x, .int 0 0] } }) :
    wpAny (model prog w) A (pyIter (.ref x)) Q E s := by
  have X := X₀.keeps F.keep
  have I := InstAt.of_seq N hx hdx
  unfold pyIter
  refine wpAny_bind (spec_dom X I hi ?_)
  show wpAny _ _ (callSpecialIfBoundUnlessNone? (.ref x) "__iter__" _ >>= _) Q E s
  refine wpAny_bind ?_
  simp only [callSpecialIfBoundUnlessNone?, bindSpecialIfBound?]
  refine wpAny_holding (wpAny_bind (wpAny_bind (spec_dom X I hi ?_)))
  simp only [PySem.slot_list_iter.bind]
  refine wpAny_bind (wpAny_askSetting (wpAny_ite ?_))
  have fin : ∀ {Q' : Option Value → Shared → Prop} {r : Sem Value}, (∀ v s', (v = .ref s.heap.objs.size ∧ s' = { s with heap := s.heap.push { cls := .type "list_iterator", data := .fields #[.ref x, .int 0 0] } }) → Q' (some v) s') → wpAny (model prog w) A (if (Value.builtin "list.__iter__" == Value.none) = true then (r >>= fun v => pure (some v)) else (call (.builtin "list.__iter__") [.ref x] >>= fun v => pure (some v))) Q' E s := by
    intro Q' r hq
    simp only [PySem.builtin_beq_none, Bool.false_eq_true, if_false]
    refine wpAny_bind ?_
    refine call_onSub X I hsub (.inr (by decide +kernel)) (nm := "__iter__") (by decide +kernel) (by decide +kernel) (b := Builtin.«list.__iter__») PySem.F.entry_list_iter (PySem.F.args_list_iter_1 _) ?_
    unfold Builtin.«list.__iter__»
    refine wpAny_bind (wpAny_pure ?_)
    exact wpAny_bind (wpAny_newObj_type (wpAny_pure (wpAny_pure (hq _ _ ⟨rfl, rfl⟩))))
  split
  · refine wpAny_bind (wpAny_pure (wpAny_pure (fin fun v s' e => ?_)))
    obtain ⟨rfl, rfl⟩ := e
    exact wpAny_bind (wpAny_specialOf ⟨_, Heap.get?_push_size _ rfl, rfl⟩ slot_listiter_next.lookup (wpAny_pure hQ))
  · refine wpAny_tryCatch (wpAny_bind (wpAny_pure (wpAny_pure (fin fun v s' e => ?_))))
    obtain ⟨rfl, rfl⟩ := e
    exact wpAny_bind (wpAny_specialOf ⟨_, Heap.get?_push_size _ rfl, rfl⟩ slot_listiter_next.lookup (wpAny_pure hQ))
end
end Mine
end
section
open PySem PySem.W PySem.Calls PyProof.Rows
set_option maxRecDepth 100000
set_option maxHeartbeats 4000000
namespace Mine
section
variable {prog : Program} {w : World} {A : Around} {K : Frag} {C x dx L l : Addr} {s : Shared} {h₀ : Heap} {m : Str → Option Value} {news : List (Addr × Obj)} {E : Value → Shared → Prop}
  {od : Obj} {us : List Value} {n : Nat}
theorem hint_dom {Q : Bool → Shared → Prop} (F : Fr h₀ L s.heap m) (X₀ : K.In h₀) (N : News h₀ L s.heap news) (hx : (x, domObj C dx us.toArray n) ∈ news) (hdx : (dx, od) ∈ news) (hsub : subIn K (.ref C) (.type "list") = some true)
    (hs : findIn K (.ref C) "__len__" = some (some (.builtin "list.__len__"))) (hz : us.length ≤ 1000) (h : ∀ b tk, Q b { s with toks := tk }) :
    wpAny (model prog w) A (Builtin.List.listLengthHint (.ref x)) Q E s := by
  have X := X₀.keeps F.keep
  have I := InstAt.of_seq N hx hdx
  unfold Builtin.List.listLengthHint
  refine wpAny_bind (spec_dom X I hs ?_)
  generalize hid : ("list.__len__" : String) = id0
  wp_delta
  rw [show splitId id0 = some ("list", "__len__") from by subst hid; decide +kernel]
  subst hid
  have L0 : Looks (model prog w) s.heap (isInstance (.ref x) (.type "list")) true := I.type.andThen (looks_subIn X hsub)
  refine wpAny_bind (L0.here ?_)
  refine wpAny_ite_split (fun hab => absurd hab (by decide)) (fun _ => ?_)
  refine wpAny_ite_split (fun _ => ?_) (fun _ => ?_)
  · refine wpAny_bind (I.type.here ?_)
    refine wpAny_bind (len_L F X₀ N hx hdx hsub hs hz fun tk => ?_)
    refine wpAny_bind (m := asInt? _) (wpAny_pure ?_)
    exact wpAny_pure (h _ _)
  · refine wpAny_ite_split (fun _ => ?_) (fun hab => absurd rfl hab)
    refine wpAny_bind (wpAny_rule ?_)
    refine wpAny_bind (wpAny_attempt (len_L F X₀ N hx hdx hsub hs hz fun tk => ?_))
    have htl : Builtin.List.listTooLong ((us.length : Int).toNat) = false := by simp [Builtin.List.listTooLong, sizeLine]; omega
    refine wpAny_bind (m := asInt? _) (wpAny_pure ?_)
    exact wpAny_ite_split (fun hab => absurd hab (by rw [htl]; decide)) (fun _ => wpAny_pure (h _ _))
/-- what a list iterator over any object with items gives next -/
theorem next_some {it l : Addr} {i nl : Nat} {ol : Obj} {items : Array Value} {v : Value} {Q : Option Value → Shared → Prop} (hit : s.heap.IsListIter it l i) (hol : s.heap.get? l = some ol) (hdl : ol.data = .seq items nl) (hv : items[i]? = some v)
    (hQ : ∀ h', h'.IsListIter it l (i + 1) → Heap.SameBut it s.heap h' → Q (some v) { s with heap := h' }) : wpAny (model prog w) A (pyNext (.ref it)) Q E s := by
  obtain ⟨o, ho, hc, hd⟩ := id hit
  unfold pyNext
  refine wpAny_bind (wpAny_attempt (wpAny_callSpecial?_slot (name := Str.ofString "__next__") hit.typeIs slot_listiter_next (wpAny_call_entry slot_listiter_next hit.typeIs entry_listiter_next ?_ (args_listiter_next _))))
  show wpAny _ _ (field (.ref it) 0 >>= _) _ _ s
  refine wpAny_bind (wpAny_field ho hd (x := .ref l) rfl ?_)
  show wpAny _ _ (if (Value.ref l == Value.none) = true then _ else _) _ _ s
  rw [if_neg (show ¬ ((Value.ref l == Value.none) = true) from Bool.false_ne_true)]
  show wpAny _ _ (field (.ref it) 1 >>= _) _ _ s
  refine wpAny_bind (wpAny_field ho hd (x := .int i 0) rfl ?_)
  show wpAny _ _ (seqItems? (.ref l) >>= _) _ _ s
  refine wpAny_bind (wpAny_seqItems hol hdl ?_)
  simp only [Int.toNat_natCast, hv]
  refine wpAny_bind (wpAny_setField ho hd (by simp) (wpAny_pure ⟨v, rfl, wpAny_pure (hQ _ ?_ (Heap.SameBut.update ..))⟩))
  exact ⟨_, Heap.get?_update_self _ ho (Obj.isFreed_of_fields (Obj.data_mapFields hd _)), (Obj.cls_mapFields ..).trans hc, by rw [Obj.data_mapFields hd]; simp [rawInt]⟩
theorem next_none {it l : Addr} {i nl : Nat} {ol : Obj} {items : Array Value} {Q : Option Value → Shared → Prop} (hh : A.handled = none) (hit : s.heap.IsListIter it l i) (hol : s.heap.get? l = some ol) (hdl : ol.data = .seq items nl) (hv : items[i]? = none)
    (hQ : ∀ h', Heap.ExtBut it s.heap h' → Q none { s with heap := h' }) : wpAny (model prog w) A (pyNext (.ref it)) Q E s := by
  obtain ⟨o, ho, hc, hd⟩ := id hit
  unfold pyNext
  refine wpAny_bind (wpAny_attempt (wpAny_callSpecial?_slot (name := Str.ofString "__next__") hit.typeIs slot_listiter_next (wpAny_call_entry slot_listiter_next hit.typeIs entry_listiter_next ?_ (args_listiter_next _))))
  show wpAny _ _ (field (.ref it) 0 >>= _) _ _ s
  refine wpAny_bind (wpAny_field ho hd (x := .ref l) rfl ?_)
  show wpAny _ _ (if (Value.ref l == Value.none) = true then _ else _) _ _ s
  rw [if_neg (show ¬ ((Value.ref l == Value.none) = true) from Bool.false_ne_true)]
  show wpAny _ _ (field (.ref it) 1 >>= _) _ _ s
  refine wpAny_bind (wpAny_field ho hd (x := .int i 0) rfl ?_)
  show wpAny _ _ (seqItems? (.ref l) >>= _) _ _ s
  refine wpAny_bind (wpAny_seqItems hol hdl ?_)
  simp only [Int.toNat_natCast, hv]
  refine wpAny_bind (wpAny_rule (wpAny_bind (wpAny_setField ho hd (by simp) ?_)))
  show wpAny _ _ (newExc (.type "StopIteration") [] >>= _) _ _ _
  refine wpAny_bind ?_
  simp only [newExc, newTuple]
  refine wpAny_bind (wpAny_newObj_type ?_ (by size_fits))
  refine wpAny_bind (m := firstArgMember _ _) (wpAny_of_eq (a := Value.none) (by first | rfl | (simp only [firstArgMember]; rfl)) ?_)
  refine wpAny_newObj_type ?_ (by size_fits)
  simp only [raiseNew]
  refine wpAny_bind (wpAny_handled ?_)
  rw [show A.in1.handled = none from hh]
  refine wpAny_bind (wpAny_pure (wpAny_throw ?_))
  refine wpAny_bind (wpAny_isInstance (T := "StopIteration") (b := true) ⟨_, Heap.get?_push_size _ rfl, rfl⟩ isSubtype_stop ?_)
  exact wpAny_pure (hQ _ (((Heap.SameBut.update ..).extBut.push _).push _))
theorem walks_dom (hh : A.handled = none) (I x : Addr) (hne : x ≠ I) (ox : Obj) (items : Array Value) (n : Nat) (hd : ox.data = .seq items n) :
    Walks prog w A I [I, x] [I] items.size (fun i v => items[i]? = some v) (fun i h => h.IsListIter I x i ∧ h.get? x = some ox) where
  sub := fun b hb => by simp at hb; simp [hb]
  frame := fun _ _ _ st hk => ⟨st.1.at fun o e => hk I (by simp) o e, hk x (by simp) _ st.2⟩
  item := fun i s Q E hi st hQ => by
    refine next_some st.1 st.2 hd (v := items[i]) (by simp [hi]) fun h' hit' hs' => ?_
    exact hQ _ h' s.toks (by simp [hi]) ⟨hit', hs'.extBut _ _ hne st.2⟩ fun b o hb e => hs'.extBut b o (fun h => hb (by simp [h])) e
  done := fun s Q E st hQ => next_none hh st.1 st.2 hd (by simp) fun h' he' => hQ h' s.toks fun b o hb e => he' b o (fun h => hb (by simp [h])) e
  self := fun _ _ _ _ st hQ => wpAny_pyIter_listiter st.1 hQ
end
end Mine
end
section
open PySem PySem.W PySem.Calls PyProof.Rows
set_option maxRecDepth 100000
set_option maxHeartbeats 4000000
namespace Mine
section
variable {prog : Program} {w : World} {A : Around} {K : Frag} {C x dx L l : Addr} {s : Shared} {h₀ : Heap} {m : Str → Option Value} {news : List (Addr × Obj)} {E : Value → Shared → Prop}
  {od : Obj} {us : List Value} {n : Nat}
theorem items_all {items : Array Value} {acc : Array Value} {k : Nat} (hk : items.size = k) (h : ItemsOf (fun i v => items[i]? = some v) acc k) : acc = items := by
  apply Array.ext_getElem?
  intro i
  by_cases hi : i < acc.size
  · have := h.2 i acc[i] (by simp [hi])
    rw [this]; simp [hi]
  · have h1 := h.1
    rw [Array.getElem?_eq_none (by omega), Array.getElem?_eq_none (by omega)]
theorem extend_dom {R : Result → Shared → Prop} (hh : A.handled = none) (F : Fr h₀ L s.heap m) (X₀ : K.In h₀) (N : News h₀ L s.heap news) (hx : (x, domObj C dx us.toArray n) ∈ news) (hdx : (dx, od) ∈ news) (hsub : subIn K (.ref C) (.type "list") = some true)
    (hs : findIn K (.ref C) "__len__" = some (some (.builtin "list.__len__"))) (hi : findIn K (.ref C) "__iter__" = some (some (.builtin "list.__iter__"))) (hz : us.length ≤ 1000)
    (S : Addr) (res : Value) (c₀ : Nat) (hS : s.heap.get? S = some { cls := .type "list", data := .seq #[] c₀ }) (hS0 : h₀.get? S = none) (hSL : S ≠ L)
    (hR : ∀ h' tk c', Fr h₀ L h' m → News h₀ L h' news → h'.get? S = some { cls := .type "list", dict := none, data := .seq us.toArray c', slots := #[] } → R (.ok (.ret res)) { s with heap := h', toks := tk }) (hnS : ∀ p ∈ news, p.1 ≠ S) :
    wpAny (model prog w) A.in1 (Builtin.List.listExtendWith (.ref S) (.ref x) res)
      (fun fin s' => match fin with | .done f => R (.ok f) s' | .again c' => c'.quiet = true ∧ codeAny (model prog w) A c' R s') (fun e s' => R (.error e) s') s := by
  have I := InstAt.of_seq N hx hdx
  have ox := (N _ hx).1
  have hSx : S ≠ x := (hnS _ hx).symm
  have hxlt : x < s.heap.objs.size := Heap.lt_size ox
  have hSlt : S < s.heap.objs.size := Heap.lt_size hS
  have hLlt : L < s.heap.objs.size := F.ns.lt
  have hSI : S ≠ s.heap.objs.size := Nat.ne_of_lt hSlt
  have hxI : x ≠ s.heap.objs.size := Nat.ne_of_lt hxlt
  have hSf : S ∉ [s.heap.objs.size, x] := fun hm => by
    rcases List.mem_cons.mp hm with e | hm
    · exact hSI e
    · exact hSx (List.mem_singleton.mp hm)
  have W := (walks_dom (prog := prog) (w := w) (A := A.in1) hh s.heap.objs.size x hxI (domObj C dx us.toArray n) us.toArray n rfl).toS
  have key : ∀ (h : Heap) (c₁ tk : Nat), h.IsListIter s.heap.objs.size x 0 → (∀ b o, b ≠ S → s.heap.get? b = some o → h.get? b = some o) →
      h.get? S = some { cls := .type "list", data := .seq #[] c₁ } → codeAny (model prog w) A (.builtin "list.extend.loop" ⟨[.ref S, .ref s.heap.objs.size, res], []⟩) R { s with heap := h, toks := tk } := by
    intro h c₁ tk hit hk hS₁
    refine codeAny_extend_loopS W (by rw [sizeLine_eq]; simp; omega) S hSf res us.toArray.size 0 _ #[] c₁ rfl (Nat.zero_le _) ⟨hit, hk x _ (Ne.symm hSx) ox⟩ hS₁ (ItemsOf.nil _) fun s' acc' c' hm hS' hacc => ?_
    rw [Moved.eq_with hm]
    obtain rfl := items_all rfl hacc
    have old : ∀ b o, b ≠ S → s.heap.get? b = some o → s'.heap.get? b = some o := fun b o hb e => hm.heap b o (fun hmem => by
      rcases List.mem_cons.mp hmem with e' | hmem
      · exact hb e'
      · exact absurd (Heap.lt_size e) (by rw [List.mem_singleton.mp hmem]; exact Nat.lt_irrefl _)) (hk b o hb e)
    refine hR s'.heap s'.toks c' ⟨F.ns.at' fun o e => old L o (Ne.symm hSL) e, fun b o e => old b o (fun q => by rw [q, hS0] at e; cases e) (F.keep b o e), F.above⟩ (fun p hp => ⟨old _ _ (hnS p hp) (N p hp).1, (N p hp).2⟩) hS'
  unfold Builtin.List.listExtendWith
  refine wpAny_bind (I.type.here ?_)
  have h1 : Builtin.List.listSameRef (.ref S) (.ref x) = false := by simp [Builtin.List.listSameRef, hSx]
  have h2 : (Value.ref C == Value.type "list") = false := rfl
  have h3 : (Value.ref C == Value.type "tuple") = false := rfl
  simp only [h1, h2, h3, Bool.or_false, Bool.false_eq_true, if_false]
  refine wpAny_bind (pyIter_dom F X₀ N hx hdx hsub hi ?_)
  have up : ∀ b o, s.heap.get? b = some o → (s.heap.push { cls := .type "list_iterator", data := .fields #[.ref x, .int 0 0] }).get? b = some o := fun b o e => Heap.get?_push_of_some _ e
  refine wpAny_bind (wpAny_holding (hint_dom (s := { s with heap := s.heap.push { cls := .type "list_iterator", data := .fields #[.ref x, .int 0 0] } }) (F.keeps up) X₀ (N.grown up) hx hdx hsub hs hz fun b tk => ?_))
  have hit₁ : (s.heap.push { cls := .type "list_iterator", data := .fields #[.ref x, .int 0 0] }).IsListIter s.heap.objs.size x 0 := ⟨_, Heap.get?_push_size _ rfl, rfl, rfl⟩
  have hS₁ := Heap.get?_push_of_some { cls := .type "list_iterator", data := .fields #[.ref x, .int 0 0] } hS
  refine wpAny_ite_split (fun _ => ?_) (fun _ => wpAny_pure ⟨plainId_quiet PySem.F.plain_extend_loop _, key _ c₀ _ hit₁ (fun b o _ e => up b o e) hS₁⟩)
  refine wpAny_bind (wpAny_rule ?_)
  refine wpAny_bind ?_
  show wpAny _ _ (updateSeq S (·.push .none) >>= fun _ => updateSeq S (·.pop)) _ _ _
  refine wpAny_bind (wpAny_updateSeq hS₁ rfl ?_)
  have hS₂ := Heap.get?_update_self (Obj.mapSeq (·.push Value.none)) hS₁ rfl
  refine wpAny_updateSeq (hz := by seq_fits) hS₂ rfl ?_
  have hS₃ := Heap.get?_update_self (Obj.mapSeq (·.pop)) hS₂ rfl
  refine wpAny_pure ⟨plainId_quiet PySem.F.plain_extend_loop _, key _ _ _ ?_ (fun b o hb e => ?_) hS₃⟩
  · exact hit₁.at fun o e => (Heap.get?_update_other _ _ hSI).trans ((Heap.get?_update_other _ _ hSI).trans e)
  · exact (Heap.get?_update_other _ _ (Ne.symm hb)).trans ((Heap.get?_update_other _ _ (Ne.symm hb)).trans (up b o e))
theorem init_dom {R : Result → Shared → Prop} (hh : A.handled = none) (F : Fr h₀ L s.heap m) (X₀ : K.In h₀) (N : News h₀ L s.heap news) (hx : (x, domObj C dx us.toArray n) ∈ news) (hdx : (dx, od) ∈ news) (hsub : subIn K (.ref C) (.type "list") = some true)
    (hs : findIn K (.ref C) "__len__" = some (some (.builtin "list.__len__"))) (hi : findIn K (.ref C) "__iter__" = some (some (.builtin "list.__iter__"))) (hz : us.length ≤ 1000)
    (S : Addr) (hS : s.heap.get? S = some { cls := .type "list", data := .seq #[] }) (hS0 : h₀.get? S = none) (hSL : S ≠ L)
    (hR : ∀ h' tk c', Fr h₀ L h' m → News h₀ L h' news → h'.get? S = some { cls := .type "list", dict := none, data := .seq us.toArray c', slots := #[] } → R (.ok (.ret .none)) { s with heap := h', toks := tk }) (hnS : ∀ p ∈ news, p.1 ≠ S) :
    wpAny (model prog w) A.in1 (Builtin.«list.__init__» ⟨[.ref S, .ref x], []⟩)
      (fun fin s' => match fin with | .done f => R (.ok f) s' | .again c' => c'.quiet = true ∧ codeAny (model prog w) A c' R s') (fun e s' => R (.error e) s') s := by
  unfold Builtin.«list.__init__»
  refine wpAny_bind ?_
  unfold Builtin.List.listItems
  refine wpAny_bind (wpAny_seqItems hS rfl (wpAny_pure ?_))
  show wpAny _ _ (updateSeq S (fun _ => #[]) >>= fun _ => letGo (#[] : Array Value).toList.reverse >>= fun _ => Builtin.List.listExtendWith (.ref S) (.ref x) .none) _ _ s
  refine wpAny_bind (wpAny_updateSeq hS rfl ?_)
  have hS₂ := Heap.get?_update_self (Obj.mapSeq (fun _ => (#[] : Array Value))) hS rfl
  have s1 := Heap.SameBut.update s.heap S (Obj.mapSeq fun _ => (#[] : Array Value))
  refine wpAny_bind (wpAny_letGo ?_)
  exact extend_dom (s := { s with heap := s.heap.update S (Obj.mapSeq fun _ => (#[] : Array Value)) }) hh (kas_fr F s1 hSL hS0) X₀ (kas_news N s1 hnS) hx hdx hsub hs hi hz S .none _ hS₂ hS0 hSL hR hnS
/-- list(x) of an object of a class whose base is list -/
theorem call_list_dom {Q : Value → Shared → Prop} (hh : A.handled = none) (F : Fr h₀ L s.heap m) (X₀ : K.In h₀) (N : News h₀ L s.heap news) (hx : (x, domObj C dx us.toArray n) ∈ news) (hdx : (dx, od) ∈ news) (hsub : subIn K (.ref C) (.type "list") = some true)
    (hs : findIn K (.ref C) "__len__" = some (some (.builtin "list.__len__"))) (hi : findIn K (.ref C) "__iter__" = some (some (.builtin "list.__iter__"))) (hz : us.length ≤ 1000)
    (hQ : ∀ D h' tk c', Fr h₀ L h' m → News h₀ L h' ((D, listOf us.toArray c') :: news) → (∀ p ∈ news, p.1 < D) → Q (.ref D) { s with heap := h', toks := tk }) :
    wpAny (model prog w) A (call (.type "list") [.ref x]) Q E s := by
  refine callType_codes (Q₁ := fun obj s₁ => obj = .ref s.heap.objs.size ∧ s₁ = { s with heap := s.heap.push { cls := .type "list", data := .seq #[] } }) PySem.F.called_list (PySem.F.typeCall_list_1 _) PySem.F.entry_list_init
    (code_list_new _ ⟨rfl, rfl⟩) fun obj s₁ h₁ => ?_
  obtain ⟨rfl, rfl⟩ := h₁
  have hS : (s.heap.push { cls := .type "list", data := .seq #[] }).get? s.heap.objs.size = some { cls := .type "list", data := .seq #[] } := Heap.get?_push_size _ rfl
  have up : ∀ b o, s.heap.get? b = some o → (s.heap.push { cls := .type "list", data := .seq #[] }).get? b = some o := fun b o e => Heap.get?_push_of_some _ e
  have hL : s.heap.objs.size ≠ L := Nat.ne_of_gt F.ns.lt
  have hS0 : h₀.get? s.heap.objs.size = none := next_is_new F
  refine ⟨⟨_, hS, rfl⟩, PySem.F.args_list_init_2 _ _, init_dom (A := A.in1) (s := { s with heap := s.heap.push { cls := .type "list", data := .seq #[] } }) hh (F.keeps up) X₀ (N.grown up) hx hdx hsub hs hi hz _ hS hS0 hL (fun h' tk c' F' N' hS' => ?_) (fun p hp => Nat.ne_of_lt (Heap.lt_size (N p hp).1))⟩
  refine ⟨rfl, hQ _ h' tk c' F' (fun p hp => ?_) fun p hp => Heap.lt_size (N p hp).1⟩
  rcases List.mem_cons.mp hp with rfl | hp
  · exact ⟨hS', hL, hS0⟩
  · exact N' p hp
end
end Mine
end
section
open PySem PySem.W PySem.Calls PyProof.Rows
set_option maxHeartbeats 2000000
namespace Mine
structure MSt where
  vs : List Value
  hs : List Value
  ss : List Value
  V : List Int
  Hd : List Int
  St : List Int
  n0 : Nat
  n1 : Nat
  n2 : Nat
  cs : List Value
  came : List (Int × Int)
  nc : Nat
  gs : List Value
  gone : List Int
  ng : Nat
  SV : Nat
  sv : List Value
  saved : List Int
  ns : Nat
  o2 : Obj
/-- what stands in the lists -/
structure MOk (c : MSt) : Prop where
  iV : IntsAre c.vs c.V
  iH : IntsAre c.hs c.Hd
  iS : IntsAre c.ss c.St
  iG : IntsAre c.gs c.gone
  iW : IntsAre c.sv c.saved
  o2 : ∃ v, c.o2.data = .cell v
def keyOf (came : List (Int × Int)) (k : Nat) : Int × Int × Int := ((came.getD k (0, 0)).1, (came.getD k (0, 0)).2, (k : Int))
/-- the places shown, in their order -/
def ShownIs (came : List (Int × Int)) (gone : List Int) (sk : List Nat) : Prop := (∀ k, k ∈ sk ↔ k < gone.length ∧ gone.getD k 0 = 0) ∧ sk.Pairwise fun a b => ltT (keyOf came a) (keyOf came b) = true
/-- the places hidden, in the order of their hiding -/
def HidIs (gone : List Int) (hk : List Nat) : Prop := (∀ k, k ∈ hk ↔ gone.getD k 0 ≠ 0) ∧ hk.Pairwise fun a b => gone.getD a 0 < gone.getD b 0
def hidCount (gone : List Int) (x : Int) : Int := (((List.range gone.length).filter fun k => decide (x < gone.getD k 0)).length : Int)
/-- what holds ahead of turn i + 1 -/
structure LInv (W : List Int) (i : Nat) (c : MSt) : Prop where
  lc : c.came.length = W.length
  lg : c.gone.length = W.length
  ct : ∀ k, (c.came.getD k (0, 0)).1 ≤ (i : Int)
  gt : ∀ k, 0 ≤ c.gone.getD k 0 ∧ c.gone.getD k 0 ≤ (i : Int)
  sk : ∃ sk : List Nat, ShownIs c.came c.gone sk ∧ c.V = sk.map fun k => W.getD k 0
  hk : ∃ hk : List Nat, HidIs c.gone hk ∧ c.Hd = hk.map fun k => W.getD k 0
  sp : c.saved.Pairwise (· < ·)
  sb : ∀ x ∈ c.saved, 1 ≤ x ∧ x ≤ (i : Int)
  sl : c.saved.length ≤ i
  st : c.St = c.saved.map fun x => (c.V.length : Int) + hidCount c.gone x
def MLed (w : World) (D dd H S CA GO C1 C2 FI HA : Nat) (t1 t2 : Tok) (o1 : Obj) (fs ha : List Value) (nf nh : Nat) (c : MSt) (tl : List (Addr × Obj)) : List (Addr × Obj) :=
  (D, domObj 59 dd c.vs.toArray c.n0) :: (dd, domDict w H S t1 t2) :: (H, W.listOf c.hs.toArray c.n1) :: (S, W.listOf c.ss.toArray c.n2) :: (CA, W.listOf c.cs.toArray c.nc) :: (GO, W.listOf c.gs.toArray c.ng) :: (c.SV, W.listOf c.sv.toArray c.ns) ::
    (C2, c.o2) :: (C1, o1) :: (FI, W.listOf fs.toArray nf) :: (HA, W.listOf ha.toArray nh) :: tl
def MainK (w : World) (D dd H S CA GO C1 C2 FI HA : Nat) (t1 t2 : Tok) (o1 : Obj) (fs ha : List Value) (nf nh : Nat) (I : Nat → MSt → Prop) (i : Nat) (c : MSt) (nx : List (Addr × Obj)) : Prop :=
  ∃ tl, nx = MLed w D dd H S CA GO C1 C2 FI HA t1 t2 o1 fs ha nf nh c tl ∧ OwnOff tl [D, dd, H, S, CA, GO, c.SV, C2, C1, FI, HA] ∧ GO < c.SV ∧ All2 (PairIn tl) c.cs c.came ∧ MOk c ∧ I i c
section
variable {prog : Program} {w : World} {A : Around} {E : Value → Shared → Prop} {s : Shared} {env : Env} {h₀ : Heap} {x : Str} {body : List Stmt} {Q : Flow → Shared → Prop}
theorem mainR {D dd H S CA GO SV C1 C2 FI HA : Nat} {t1 t2 : Tok} {o1 o2 : Obj} {fs ha vs gs cs : List Value} {nf nh n0 nc ng n1 n2 n3 : Nat} {W : List Int} {gone : List Int} {came : List (Int × Int)} {tl : List (Addr × Obj)} {n : Nat} {r : Addr} {b₀ : Int} {t₀ u₀ v₀ : Tok} {m₀ : Str → Option Value} {GX : Nat} {gx : Obj}
    (nm : Str) (stored : List Str)
    (hh : A.handled = none) (hr : IsRange s.heap r 1 b₀ 1 t₀ u₀ v₀) (hsmall : Builtin.Range.small 1 b₀ 1 = true) (hsz : Builtin.Range.rangeSize 1 b₀ 1 = (n : Int)) (F : Fr h₀ env.locals s.heap m₀) (N : News h₀ env.locals s.heap ((SV, PySem.W.listOf #[] n3) :: (GO, PySem.W.listOf gs.toArray ng) :: (GX, gx) :: (CA, PySem.W.listOf cs.toArray nc) :: (S, PySem.W.listOf #[] n2) :: (H, PySem.W.listOf #[] n1) :: (D, domObj 59 dd vs.toArray n0) :: (dd, domDict w H S t1 t2) :: (HA, PySem.W.listOf ha.toArray nh) :: (FI, PySem.W.listOf fs.toArray nf) :: (C2, o2) :: (C1, o1) :: tl))
    (hoff : OwnOff tl [D, dd, H, S, CA, GO, SV, C2, C1, FI, HA]) (hlt : GO < SV) (hT : All2 (PairIn tl) cs came) (iV : IntsAre vs W) (iG : IntsAre gs gone) (h2 : ∃ v, o2.data = .cell v)
    (hm : m₀ nm = some (.ref SV)) (hI : LInv W 0 ⟨vs, [], [], W, [], [], n0, n1, n2, cs, came, nc, gs, gone, ng, SV, [], [], n3, o2⟩)
    (turn : ∀ (i : Nat) (c : MSt) (t : Tok) (u : Str → Option Value) (h : Heap) (tk : Nat) (own tl : List (Addr × Obj)), i < n → OwnOff tl [D, dd, H, S, CA, GO, c.SV, C2, C1, FI, HA] → OwnOff own (D :: dd :: H :: S :: CA :: GO :: c.SV :: C2 :: C1 :: FI :: HA :: tl.map (·.1)) → GO < c.SV → All2 (PairIn tl) c.cs c.came → MOk c → LInv W i c →
      Fr h₀ env.locals h (fun y => if y = x then some (.int (1 + (i : Int)) t) else kstB (fun z => if stored.contains z then u z else m₀ z) [(nm, .ref c.SV)] y) → News h₀ env.locals h (MLed w D dd H S CA GO C1 C2 FI HA t1 t2 o1 fs ha nf nh c (tl ++ own)) →
      wpAny (model prog w) A (execs body env) (InvPostG h₀ env.locals (LoopK (fun c => [(nm, .ref c.SV)]) stored x m₀ (MainK w D dd H S CA GO C1 C2 FI HA t1 t2 o1 fs ha nf nh (LInv W) (i + 1))) own { s with heap := h, toks := tk } Q) E { s with heap := h, toks := tk })
    (done : ∀ (c : MSt) (tl : List (Addr × Obj)) (u : Str → Option Value) (h : Heap) (tk : Nat), LInv W n c → Fr h₀ env.locals h (fun y => if y = x then u y else kstB (fun z => if stored.contains z then u z else m₀ z) [(nm, .ref c.SV)] y) → News h₀ env.locals h (MLed w D dd H S CA GO C1 C2 FI HA t1 t2 o1 fs ha nf nh c tl) → Q .next { s with heap := h, toks := tk }) :
    wpAny (model prog w) A (pyIter (.ref r)) (fun it s₂ => LoopAtV prog w A h₀ env x body Q E it s₂) E s := by
  refine loopR (fun c => [(nm, .ref c.SV)]) stored (MainK w D dd H S CA GO C1 C2 FI HA t1 t2 o1 fs ha nf nh (LInv W)) ⟨vs, [], [], W, [], [], n0, n1, n2, cs, came, nc, gs, gone, ng, SV, [], [], n3, o2⟩ _ hh hr hsmall hsz F N ?hn (fun p hp => ?_) ⟨tl, rfl, hoff, hlt, hT, ⟨iV, .nil, .nil, iG, .nil, h2⟩, hI⟩ ?_ ?_
  case hn =>
    intro p hp
    unfold MLed at hp
    dsimp only at hp
    simp only [List.mem_cons] at hp ⊢
    rcases hp with h | h | h | h | h | h | h | h | h | h | h | h <;> simp only [h, true_or, or_true]
  · rw [List.mem_singleton.mp hp]; exact hm
  · rintro i c nx t u h tk own hi ho ⟨tl, rfl, ho2, hlt, hT, ok, hI⟩ F₁ N₁
    exact turn i c t u h tk own tl hi ho2 ho hlt hT ok hI F₁ N₁
  · rintro c nx u h tk ⟨tl, rfl, _, _, _, _, hI⟩ F₁ N₁
    exact done c tl u h tk hI F₁ N₁
theorem main_end {D dd H S CA GO C1 C2 FI HA : Nat} {t1 t2 : Tok} {o1 : Obj} {fs ha : List Value} {nf nh : Nat} {I : Nat → MSt → Prop} {nm : Str} {stored : List Str} {m₀ m' : Str → Option Value} {i : Nat} {own tl tl2 nl : List (Addr × Obj)} {L : Addr} {s₁ : Shared} {h' : Heap} {tk : Nat} (c : MSt)
    (F : Fr h₀ L h' m') (N : News h₀ L h' nl) (hn : ∀ p ∈ MLed w D dd H S CA GO C1 C2 FI HA t1 t2 o1 fs ha nf nh c (tl2 ++ (tl ++ own)), p ∈ nl)
    (o1' : OwnOff (tl ++ own) [D, dd, H, S, CA, GO, c.SV, C2, C1, FI, HA]) (o2' : OwnOff tl2 [D, dd, H, S, CA, GO, c.SV, C2, C1, FI, HA]) (o3 : OwnOff own (tl.map (·.1))) (o4 : OwnOff tl2 (own.map (·.1)))
    (hlt : GO < c.SV) (hT : All2 (PairIn (tl2 ++ (tl))) c.cs c.came) (ok : MOk c) (hI : I (i + 1) c) (hk : m' nm = some (.ref c.SV)) (hr : ∀ z, z ≠ x → z ≠ nm → stored.contains z = false → m' z = m₀ z) :
    InvEndG h₀ L (LoopK (fun c => [(nm, .ref c.SV)]) stored x m₀ (MainK w D dd H S CA GO C1 C2 FI HA t1 t2 o1 fs ha nf nh I (i + 1))) own s₁ { s₁ with heap := h', toks := tk } := by
  have hown : OwnOff own [D, dd, H, S, CA, GO, c.SV, C2, C1, FI, HA] := fun p hp => o1' p (List.mem_append_right _ hp)
  have htl : OwnOff tl [D, dd, H, S, CA, GO, c.SV, C2, C1, FI, HA] := fun p hp => o1' p (List.mem_append_left _ hp)
  have up : ∀ p ∈ MLed w D dd H S CA GO C1 C2 FI HA t1 t2 o1 fs ha nf nh c (tl2 ++ tl), p ∈ nl := fun p hp => hn p (by
    unfold MLed at hp ⊢
    simp only [List.mem_cons, List.mem_append] at hp ⊢
    rcases hp with h | h | h | h | h | h | h | h | h | h | h | h | h <;> simp only [h, true_or, or_true])
  have uo : ∀ p ∈ own, p ∈ nl := fun p hp => hn p (by
    unfold MLed
    simp only [List.mem_cons, List.mem_append]
    simp only [hp, or_true])
  refine InvEndG.intro (nx := MLed w D dd H S CA GO C1 C2 FI HA t1 t2 o1 fs ha nf nh c (tl2 ++ tl)) F N ⟨c, ⟨tl2 ++ tl, rfl, OwnOff.app o2' htl, hlt, hT, ok, hI⟩, (fun p hp => by rw [List.mem_singleton.mp hp]; exact hk), fun z hz h2 h3 => hr z hz (h2 _ (.head _)) h3⟩ (fun p hp b hb => ?_) up uo
  unfold MLed at hb
  simp only [List.map_cons, List.map_append, List.mem_cons, List.mem_append] at hb
  have key : b ∈ [D, dd, H, S, CA, GO, c.SV, C2, C1, FI, HA] ∨ b ∈ tl2.map (·.1) ∨ b ∈ tl.map (·.1) := by
    simp only [List.mem_cons, List.not_mem_nil, or_false]
    rcases hb with h | h | h | h | h | h | h | h | h | h | h | h | h <;> simp only [h, true_or, or_true]
  rcases key with h | h | h
  · exact hown p hp b h
  · obtain ⟨q, hq, rfl⟩ := List.mem_map.mp h
    exact (o4 q hq p.1 (List.mem_map.mpr ⟨p, hp, rfl⟩)).symm
  · exact o3 p hp b h
theorem hoff_mk {tl : List (Addr × Obj)} {D dd H S CA GO SV C2 C1 FI HA : Nat} (h : OwnOff tl [CA, S, H, D, dd, HA, FI, C2, C1]) (hG : AllLt GO tl) (hS : AllLt SV tl) : OwnOff tl [D, dd, H, S, CA, GO, SV, C2, C1, FI, HA] := fun p hp b hb => by
  have g := offLt hG (Nat.le_refl _) p hp
  have k := offLt hS (Nat.le_refl _) p hp
  simp only [List.mem_cons, List.not_mem_nil, or_false] at hb
  rcases hb with e | e | e | e | e | e | e | e | e | e | e <;> subst e <;> first | exact g | exact k | exact h p hp _ (by simp)
theorem off_own {tl own : List (Addr × Obj)} {l : List Addr} {ms : List Addr} (h1 : OwnOff tl l) (h2 : OwnOff own ms) (hs : ∀ b ∈ l, b ∈ ms) : OwnOff (tl ++ own) l := OwnOff.app h1 (OwnOff.sub h2 hs)
variable {M : Model} {o : Sem Value} {QV : Value → Shared → Prop} {L : Addr} {m : Str → Option Value} {nl : List (Addr × Obj)}
/-- two ways to an int joined into one: which int, is forgotten -/
theorem join_val (F : Fr h₀ L s.heap m) (N : News h₀ L s.heap nl)
    (h1 : wpAny M A o (fun v s' => ∃ val tv h' tk', v = .int val tv ∧ s' = { s with heap := h', toks := tk' } ∧ Fr h₀ L h' m ∧ News h₀ L h' nl) E s)
    (h2 : ∀ val tv h' tk', Fr h₀ L h' m → News h₀ L h' nl → QV (.int val tv) { s with heap := h', toks := tk' }) : wpAny M A o QV E s := by
  refine wpAny_mono h1 (fun v s' h => ?_) fun _ _ e => e
  obtain ⟨val, tv, h', tk', rfl, rfl, F', N'⟩ := h
  exact h2 val tv h' tk' F' N'
end
end Mine
end
section
open PySem PySem.W PySem.Calls PyProof.Rows PyProof.Rows.LCg
set_option maxHeartbeats 2000000
namespace Mine
theorem IntsAre.mem_get {vs : List Value} {ns : List Int} (h : IntsAre vs ns) : ∀ {i : Nat} {v : Value}, vs[i]? = some v → ∃ k t, v = .int k t ∧ ns[i]? = some k ∧ k ∈ ns := by
  induction h with
  | nil => intro i v hv; simp at hv
  | cons n t _ ih =>
    intro i v hv
    cases i with
    | zero => simp at hv; exact ⟨n, t, hv.symm, by simp, .head _⟩
    | succ i =>
      obtain ⟨k, t, e, e2, hm⟩ := ih (by simpa using hv)
      exact ⟨k, t, e, by simpa using e2, .tail _ hm⟩
section
variable {prog : Program} {w : World} {A : Around} {s : Shared} {h₀ : Heap} {L : Addr} {m : Str → Option Value} {env : Env}
theorem lineT {base : List (Addr × Obj)} {ys : List Value} {ks : List Int} {D0 : Addr} {c : Nat} (p : Int → Bool) {ct elt : Expr} {x : Str} {scope : Scope} {cl : List (Str × Addr)} {Fin : List Value → List (Addr × Obj) → Prop}
    (hD : (D0, W.listOf ys.toArray c) ∈ base) (iY : IntsAre ys ks)
    (fin : ∀ ys' nw, (∀ q ∈ base, q ∈ nw) → IntsAre ys' (ks.filter p) → Fin ys' nw)
    (turn : ∀ (kv : Int) (tv : Tok) I oI C oC D ys' nw m₂ h tk (Qb : Bool → Shared → Prop) (E' : Value → Shared → Prop), kv ∈ ks → (∀ q ∈ base, q ∈ nw) → NsObj oC m₂ → m₂ x = some (.int kv tv) → Fr h₀ L h m → News h₀ L h ((I, oI) :: (C, oC) :: (D, lst ys') :: nw) → (∀ tk', Qb (p kv) { s with heap := h, toks := tk' }) →
      wpAny (model prog w) A (isTrue ct (compEnvC scope cl C env) (eval ct (compEnvC scope cl C env))) Qb E' { s with heap := h, toks := tk })
    (turn2 : ∀ (kv : Int) (tv : Tok) I oI C oC D ys' nw m₂ h tk (Q' E' : Value → Shared → Prop), NsObj oC m₂ → m₂ x = some (.int kv tv) → Fr h₀ L h m → News h₀ L h ((I, oI) :: (C, oC) :: (D, lst ys') :: nw) → Q' (.int kv tv) { s with heap := h, toks := tk } →
      wpAny (model prog w) A (eval elt (compEnvC scope cl C env)) Q' E' { s with heap := h, toks := tk }) :
    LCt.CompRestT prog w A h₀ L m env ct elt x scope cl s (SrcAt h₀ D0 ys.toArray) (fun i v => ys.toArray[i]? = some v) Fin ys.toArray.size 0 [] base := by
  have hlen := IntsAre.len iY
  refine compT_inv (n := ys.toArray.size) (J := fun i ys' nw => (∀ q ∈ base, q ∈ nw) ∧ IntsAre ys' ((ks.take i).filter p)) (fun ys' nw h => fin ys' nw h.1 (by
    have := h.2
    rw [List.size_toArray, hlen, List.take_length] at this
    exact this)) ?_ ys.toArray.size 0 [] base (Nat.zero_add _) ⟨fun _ hp => hp, .nil⟩
  rintro i ys' nw hi ⟨hb, hI⟩ v I oI C oC D m₂ h tk E' hv hN hm F N off hne
  obtain ⟨kv, tv, rfl, hg, hk⟩ := IntsAre.mem_get iY (by simpa using hv)
  refine turn kv tv I oI C oC D ys' nw m₂ h tk _ _ hk hb hN hm F N fun tk' => ?_
  have e3 : (ks.take (i + 1)) = ks.take i ++ [kv] := by rw [List.take_add_one, hg]; rfl
  refine ⟨fun hp => ?_, fun hp => ?_⟩
  · refine turn2 kv tv I oI C oC D ys' nw m₂ h tk' _ _ hN hm F N ?_
    refine CompEnd.intro (s₁ := { s with heap := h, toks := tk }) F N nw (fun _ hp => hp) off (.inr ⟨_, hb _ hD, rfl, _, rfl⟩) ⟨hb, ?_⟩
    rw [e3, List.filter_append, List.filter_cons_of_pos hp]
    exact hI.append (.cons _ _ .nil)
  · refine CompEnd.intro (s₁ := { s with heap := h, toks := tk }) F N nw (fun _ hp => hp) off (.inr ⟨_, hb _ hD, rfl, _, rfl⟩) ⟨hb, ?_⟩
    rw [e3, List.filter_append, List.filter_cons_of_neg (by rw [hp]; simp)]
    simpa using hI
theorem firstC {base : List (Addr × Obj)} {ys : List Value} {ks : List Int} {D0 : Addr} {c : Nat} (f : Int → Int) {elt : Expr} {x : Str} {scope : Scope} {cl : List (Str × Addr)} {Fin : List Value → List (Addr × Obj) → Prop}
    (hD : (D0, W.listOf ys.toArray c) ∈ base) (iY : IntsAre ys ks)
    (fin : ∀ ys' nw, (∀ q ∈ base, q ∈ nw) → IntsAre ys' (ks.map f) → Fin ys' nw)
    (turn : ∀ (kv : Int) (tv : Tok) I oI C oC D ys' nw m₂ h tk (Q' E' : Value → Shared → Prop), kv ∈ ks → (∀ q ∈ base, q ∈ nw) → NsObj oC m₂ → m₂ x = some (.int kv tv) → Fr h₀ L h m → News h₀ L h ((I, oI) :: (C, oC) :: (D, lst ys') :: nw) → (∀ tv' tk', Q' (.int (f kv) tv') { s with heap := h, toks := tk' }) →
      wpAny (model prog w) A (eval elt (compEnvC scope cl C env)) Q' E' { s with heap := h, toks := tk }) :
    CompRest prog w A h₀ L m env elt x scope cl s (SrcAt h₀ D0 ys.toArray) (fun i v => ys.toArray[i]? = some v) Fin ys.toArray.size 0 [] base := by
  have hlen := IntsAre.len iY
  refine comp_inv (n := ys.toArray.size) (J := fun i ys' nw => (∀ q ∈ base, q ∈ nw) ∧ IntsAre ys' ((ks.take i).map f)) (fun ys' nw h => fin ys' nw h.1 (by
    have := h.2
    rw [List.size_toArray, hlen, List.take_length] at this
    exact this)) ?_ ys.toArray.size 0 [] base (Nat.zero_add _) ⟨fun _ hp => hp, .nil⟩
  rintro i ys' nw hi ⟨hb, hI⟩ v I oI C oC D m₂ h tk E' hv hN hm F N off hne
  obtain ⟨kv, tv, rfl, hg, hk⟩ := IntsAre.mem_get iY (by simpa using hv)
  refine turn kv tv I oI C oC D ys' nw m₂ h tk _ _ hk hb hN hm F N fun tv' tk' => ?_
  have e3 : (ks.take (i + 1)) = ks.take i ++ [kv] := by rw [List.take_add_one, hg]; rfl
  refine CompEnd.intro (s₁ := { s with heap := h, toks := tk }) F N nw (fun _ hp => hp) off (.inr ⟨_, hb _ hD, rfl, _, rfl⟩) ⟨hb, ?_⟩
  rw [e3, List.map_append]
  exact hI.append (.cons _ _ .nil)
end
theorem shown_from {w : World} {h₀ : Heap} {L a : Addr} {CA GO : Nat} {s : Shared} {m mg mb : Str → Option Value} {news sub : List (Addr × Obj)} {cn : Str} {nm : List (Str × NameKind)} {mr : List (Str × Const)} {cd : Value} {mean : ExcName → Option Value}
    {cs gs : List Value} {came : List (Int × Int)} {gone : List Int} {nc ng : Nat} {Q : Value → Shared → Prop} {E : Value → Shared → Prop}
    (X₀ : (Mine.hd.heap_39 w.params).In h₀) (B : Below callerA h₀ [] h₀) (T : Top hd.view_39 (looseW hd.view_39 []) mean mg mb h₀)
    (F : Fr h₀ L s.heap m) (N : News h₀ L s.heap news) (hCA : (CA, W.listOf cs.toArray nc) ∈ news) (hGO : (GO, W.listOf gs.toArray ng) ∈ news) (hT : All2 (PairIn sub) cs came) (hs : ∀ p ∈ sub, p ∈ news) (iG : IntsAre gs gone) (hlen : came.length = gone.length) (hz : gone.length ≤ 9)
    (hQ : ∀ (D : Nat) (ys : List Value) (ts : List (Int × Int × Int)) (h : Heap) (tk : Nat), Fr h₀ L h m → News h₀ L h ((D, W.listOf ys.toArray ys.length) :: news) → (∀ p ∈ news, p.1 ≠ D) → IntsAre ys (ts.map fun p => p.2.2) → ts.Perm (trips came gone gone.length) → ts.Pairwise (fun p q => ltT p q = true) → Q (.ref D) { s with heap := h, toks := tk }) :
    wpAny (model PySem.Challenge.pw_bm0019_01 w) (callerA.deeper (envOfC cn { kind := .function, names := nm, isGenerator := false, isCoroutine := false, more := mr } L a cd)) (call (.ref 68) [.ref CA, .ref GO]) Q E s :=
  shown_call X₀ B T F N hCA hGO (pairs_mono hs hT) iG hlen hz hQ
end Mine
end
section
open PySem PySem.W PySem.Calls PyProof.Rows PyProof.Rows.LCg
set_option maxHeartbeats 2000000
namespace Mine
abbrev wOf {W : List Int} {i : Nat} {c : MSt} (_ : LInv W i c) : List Int := W
theorem ks_bound {came : List (Int × Int)} {gone : List Int} {ts : List (Int × Int × Int)} (hp : ts.Perm (trips came gone gone.length)) : ∀ k ∈ ts.map (fun p => p.2.2), 0 ≤ k ∧ k < (gone.length : Int) := fun k hk => by
  obtain ⟨p, hp', rfl⟩ := List.mem_map.mp hk
  have := hp.mem_iff.mp hp'
  unfold trips at this
  obtain ⟨j, hj, rfl⟩ := List.mem_map.mp this
  have := List.mem_range.mp (List.mem_filter.mp hj).1
  dsimp only
  omega
/-- what the law itself makes of a deed -/
def lSince (t deed : Int) (saved : List Int) : Int := if deed < 2 then t else if deed < 4 then (if saved = [] then t else saved.getLastD 0) else if deed = 4 then 0 else t
def lGone (t deed : Int) (line gone : List Int) : List Int := if deed < 2 then gone else if deed < 4 then gone else if deed = 4 then gone else if line = [] then gone else gone.set (line.getD 0 0).toNat t
def lSaved (t deed : Int) (saved : List Int) : List Int := if deed < 2 then saved ++ [t] else if deed < 4 then saved.dropLast else if deed = 4 then [] else saved
def lDue (deed : Int) (line saved : List Int) : Str :=
  if deed < 2 then Str.ofString "done" else if deed < 4 then (if saved = [] then Str.ofString "not saved" else Str.ofString "done") else if deed = 4 then Str.ofString "done" else if line = [] then Str.ofString "not shown" else Str.ofString "done"
section
variable {M : Model} {w : World} {A : Around} {E : Value → Shared → Prop} {s : Shared} {h₀ : Heap} {L : Addr} {m : Str → Option Value}
/-- the end of an int's way -/
def JV (h₀ : Heap) (L : Addr) (m : Str → Option Value) (nl : List (Addr × Obj)) (s : Shared) (v : Value) (s' : Shared) : Prop :=
  ∃ val tv h' tk', v = .int val tv ∧ s' = { s with heap := h', toks := tk' } ∧ Fr h₀ L h' m ∧ News h₀ L h' nl
theorem JV.intro {nl : List (Addr × Obj)} {val : Int} {tv : Tok} {h' : Heap} {tk' : Nat} (F : Fr h₀ L h' m) (N : News h₀ L h' nl) : JV h₀ L m nl s (.int val tv) { s with heap := h', toks := tk' } := ⟨_, _, _, _, rfl, rfl, F, N⟩
theorem join_int {o : Sem Value} {QV : Value → Shared → Prop} {nl : List (Addr × Obj)} (F : Fr h₀ L s.heap m) (N : News h₀ L s.heap nl) (h1 : wpAny M A o (JV h₀ L m nl s) E s)
    (h2 : ∀ val tv h' tk', Fr h₀ L h' m → News h₀ L h' nl → QV (.int val tv) { s with heap := h', toks := tk' }) : wpAny M A o QV E s := join_val F N h1 h2
theorem line_led {x : Addr × Obj} {base nw : List (Addr × Obj)} {D2 : Addr} {ys : List Value} {h : Heap} (N : News h₀ L h ((D2, lst ys) :: nw)) (hb : ∀ q ∈ x :: base, q ∈ nw) : News h₀ L h ((D2, W.listOf ys.toArray ys.length) :: base) := fun p hp => by
  rcases List.mem_cons.mp hp with rfl | hp
  · exact news_lst N _ (.head _)
  · exact N p (.tail _ (hb p (.tail _ hp)))
theorem line_ne {a b c d e f g k : Addr} {oa ob oc od oe of og ok : Obj} {x : Addr × Obj} {r nw : List (Addr × Obj)} {D2 : Addr} (off : Off1 D2 nw) (hb : ∀ q ∈ x :: (a, oa) :: (b, ob) :: (c, oc) :: (d, od) :: (e, oe) :: (f, of) :: (g, og) :: (k, ok) :: r, q ∈ nw) : Apart g D2 ∧ Apart k D2 ∧ Apart f D2 ∧ Apart a D2 :=
  ⟨off1_mem off _ (hb (g, og) (.tail _ (.tail _ (.tail _ (.tail _ (.tail _ (.tail _ (.tail _ (.head _))))))))), off1_mem off _ (hb (k, ok) (.tail _ (.tail _ (.tail _ (.tail _ (.tail _ (.tail _ (.tail _ (.tail _ (.head _)))))))))), off1_mem off _ (hb (f, of) (.tail _ (.tail _ (.tail _ (.tail _ (.tail _ (.tail _ (.head _)))))))), off1_mem off _ (hb (a, oa) (.tail _ (.head _)))⟩
/-- the end of a way through the law's own reckoning of the deed -/
structure JIf (w : World) (D dd H S CA GO C1 C2 FI HA : Nat) (t1 t2 : Tok) (o1 : Obj) (fs ha : List Value) (nf nh : Nat) (h₀ : Heap) (L : Addr) (m : Str → Option Value) (c : MSt) (rest : List (Addr × Obj)) (t deed : Int) (line : List Int) (s : Shared) (f : Flow) (s' : Shared) : Prop where
  fl : f = .next
  ex : ∃ (h' : Heap) (tk' : Nat) (m' : Str → Option Value) (c' : MSt) (td ts : Tok), s' = { s with heap := h', toks := tk' } ∧ Fr h₀ L h' m' ∧ News h₀ L h' (MLed w D dd H S CA GO C1 C2 FI HA t1 t2 o1 fs ha nf nh c' rest) ∧
    c' = { c with gs := c'.gs, gone := lGone t deed line c.gone, ng := c'.ng, SV := c'.SV, sv := c'.sv, saved := lSaved t deed c.saved, ns := c'.ns } ∧ IntsAre c'.gs (lGone t deed line c.gone) ∧ IntsAre c'.sv (lSaved t deed c.saved) ∧ GO < c'.SV ∧ (c'.SV = c.SV ∨ AllLt c'.SV rest) ∧
    m' (Str.ofString "due") = some (.str (lDue deed line c.saved) td) ∧ m' (Str.ofString "since") = some (.int (lSince t deed c.saved) ts) ∧ m' (Str.ofString "saved") = some (.ref c'.SV) ∧
    ∀ z, z ≠ Str.ofString "due" → z ≠ Str.ofString "since" → z ≠ Str.ofString "saved" → m' z = m z
theorem MLed.of {D dd H S CA GO C1 C2 FI HA : Nat} {t1 t2 : Tok} {o1 : Obj} {fs ha : List Value} {nf nh : Nat} {c : MSt} {rest nl : List (Addr × Obj)}
    (mD : (D, domObj 59 dd c.vs.toArray c.n0) ∈ nl) (mdd : (dd, domDict w H S t1 t2) ∈ nl) (mH : (H, W.listOf c.hs.toArray c.n1) ∈ nl) (mS : (S, W.listOf c.ss.toArray c.n2) ∈ nl) (mCA : (CA, W.listOf c.cs.toArray c.nc) ∈ nl) (mGO : (GO, W.listOf c.gs.toArray c.ng) ∈ nl) (mSV : (c.SV, W.listOf c.sv.toArray c.ns) ∈ nl)
    (m2 : (C2, c.o2) ∈ nl) (m1 : (C1, o1) ∈ nl) (mFI : (FI, W.listOf fs.toArray nf) ∈ nl) (mHA : (HA, W.listOf ha.toArray nh) ∈ nl) (mr : ∀ p ∈ rest, p ∈ nl) : ∀ p ∈ MLed w D dd H S CA GO C1 C2 FI HA t1 t2 o1 fs ha nf nh c rest, p ∈ nl := fun p hp => by
  unfold MLed at hp
  simp only [List.mem_cons] at hp
  rcases hp with h | h | h | h | h | h | h | h | h | h | h | h
  all_goals first | (subst h; assumption) | exact mr p h
theorem JIf.of {D dd H S CA GO C1 C2 FI HA : Nat} {t1 t2 : Tok} {o1 : Obj} {fs ha : List Value} {nf nh : Nat} {vs hs ss cs gs sv gs' sv' : List Value} {V Hd St gone saved line : List Int} {came : List (Int × Int)} {n0 n1 n2 nc ng ns SV ng' ns' SV' : Nat} {o2 : Obj} {rest nl : List (Addr × Obj)} {t deed : Int} {h' : Heap} {tk' : Nat} {m' : Str → Option Value} {td ts : Tok}
    (F : Fr h₀ L h' m') (N : News h₀ L h' nl)
    (ed : m' (Str.ofString "due") = some (.str (lDue deed line saved) td)) (es : m' (Str.ofString "since") = some (.int (lSince t deed saved) ts)) (ev : m' (Str.ofString "saved") = some (.ref SV')) (eo : ∀ z, z ≠ Str.ofString "due" → z ≠ Str.ofString "since" → z ≠ Str.ofString "saved" → m' z = m z)
    (mD : (D, domObj 59 dd vs.toArray n0) ∈ nl) (mdd : (dd, domDict w H S t1 t2) ∈ nl) (mH : (H, W.listOf hs.toArray n1) ∈ nl) (mS : (S, W.listOf ss.toArray n2) ∈ nl) (mCA : (CA, W.listOf cs.toArray nc) ∈ nl) (mGO : (GO, W.listOf gs'.toArray ng') ∈ nl) (mSV : (SV', W.listOf sv'.toArray ns') ∈ nl)
    (m2 : (C2, o2) ∈ nl) (m1 : (C1, o1) ∈ nl) (mFI : (FI, W.listOf fs.toArray nf) ∈ nl) (mHA : (HA, W.listOf ha.toArray nh) ∈ nl) (mr : ∀ p ∈ rest, p ∈ nl)
    (ig : IntsAre gs' (lGone t deed line gone)) (iw : IntsAre sv' (lSaved t deed saved)) (hlt : GO < SV') (hnew : SV' = SV ∨ AllLt SV' rest) :
    JIf w D dd H S CA GO C1 C2 FI HA t1 t2 o1 fs ha nf nh h₀ L m ⟨vs, hs, ss, V, Hd, St, n0, n1, n2, cs, came, nc, gs, gone, ng, SV, sv, saved, ns, o2⟩ rest t deed line s .next { s with heap := h', toks := tk' } :=
  ⟨rfl, h', tk', m', ⟨vs, hs, ss, V, Hd, St, n0, n1, n2, cs, came, nc, gs', lGone t deed line gone, ng', SV', sv', lSaved t deed saved, ns', o2⟩, td, ts, rfl, F, fun p hp => N p (MLed.of (c := ⟨vs, hs, ss, V, Hd, St, n0, n1, n2, cs, came, nc, gs', lGone t deed line gone, ng', SV', sv', lSaved t deed saved, ns', o2⟩) mD mdd mH mS mCA mGO mSV m2 m1 mFI mHA mr p hp), rfl, ig, iw, hlt, hnew, ed, es, ev, eo⟩
theorem line_head {ks line : List Int} {p : Int → Bool} {n : Int} (e : ks.filter p = line) (hk : ∀ k ∈ ks, 0 ≤ k ∧ k < n) : line.length > 0 → 0 ≤ line.getD 0 0 ∧ line.getD 0 0 < n := fun h => by
  subst e
  have hm : (List.filter p ks).getD 0 0 ∈ List.filter p ks := by
    rw [show (List.filter p ks).getD 0 0 = (List.filter p ks)[0] by simp [h]]
    exact List.getElem_mem _
  exact hk _ (List.mem_filter.mp hm).1
theorem join_if {D dd H S CA GO C1 C2 FI HA : Nat} {t1 t2 : Tok} {o1 : Obj} {fs ha : List Value} {nf nh : Nat} {vs hs ss cs gs sv : List Value} {V Hd St gone saved line : List Int} {came : List (Int × Int)} {n0 n1 n2 nc ng ns SV : Nat} {o2 : Obj} {rest : List (Addr × Obj)} {LN : Nat} {ls : List Value} {nl : Nat} {y : Addr × Obj} {t deed : Int} {td : Tok} {o : Sem Flow} {QF : Flow → Shared → Prop}
    (N : News h₀ L s.heap ((LN, W.listOf ls.toArray nl) :: y :: (D, domObj 59 dd vs.toArray n0) :: (dd, domDict w H S t1 t2) :: (H, W.listOf hs.toArray n1) :: (S, W.listOf ss.toArray n2) :: (CA, W.listOf cs.toArray nc) :: (GO, W.listOf gs.toArray ng) :: (SV, W.listOf sv.toArray ns) :: (C2, o2) :: (C1, o1) :: (FI, W.listOf fs.toArray nf) :: (HA, W.listOf ha.toArray nh) :: rest))
    (F : Fr h₀ L s.heap m) (hd : m (Str.ofString "deed") = some (.int deed td)) (ht : All2 (PairIn rest) cs came) (iV : IntsAre vs V) (iH : IntsAre hs Hd) (iS : IntsAre ss St) (iG : IntsAre gs gone) (iW : IntsAre sv saved) (iL : IntsAre ls line)
    (h1 : wpAny M A o (JIf w D dd H S CA GO C1 C2 FI HA t1 t2 o1 fs ha nf nh h₀ L m ⟨vs, hs, ss, V, Hd, St, n0, n1, n2, cs, came, nc, gs, gone, ng, SV, sv, saved, ns, o2⟩ rest t deed line s) E s)
    (h2 : ∀ (h' : Heap) (tk' : Nat) (gs' sv' : List Value) (ng' ns' SV' : Nat) (td ts : Tok), Fr h₀ L h' (fun y => if y = Str.ofString "due" then some (.str (lDue deed line saved) td) else if y = Str.ofString "since" then some (.int (lSince t deed saved) ts) else if y = Str.ofString "saved" then some (.ref SV') else m y) →
      News h₀ L h' ((CA, W.listOf cs.toArray nc) :: (GO, W.listOf gs'.toArray ng') :: (D, domObj 59 dd vs.toArray n0) :: (dd, domDict w H S t1 t2) :: (H, W.listOf hs.toArray n1) :: (S, W.listOf ss.toArray n2) :: (SV', W.listOf sv'.toArray ns') :: (C2, o2) :: (C1, o1) :: (FI, W.listOf fs.toArray nf) :: (HA, W.listOf ha.toArray nh) :: rest) →
      IntsAre gs' (lGone t deed line gone) → IntsAre sv' (lSaved t deed saved) → GO < SV' → (SV' = SV ∨ AllLt SV' rest) → QF .next { s with heap := h', toks := tk' }) : wpAny M A o QF E s := by
  refine wpAny_mono h1 (fun f s' h => ?_) fun _ _ e => e
  obtain ⟨rfl, h', tk', m', ⟨vs', hs', ss', V', Hd', St', n0', n1', n2', cs', came', nc', gs', gone', ng', SV', sv', saved', ns', o2'⟩, td', ts', rfl, F', N', ec, ig, iw, hlt, hnew, ed, es, ev, eo⟩ := h
  simp only [MSt.mk.injEq, true_and] at ec
  obtain ⟨rfl, rfl, rfl, rfl, rfl, rfl, rfl, rfl, rfl, rfl, rfl, rfl, rfl, rfl, rfl⟩ := ec
  have em : m' = fun y => if y = Str.ofString "due" then some (.str (lDue deed line saved) td') else if y = Str.ofString "since" then some (.int (lSince t deed saved) ts') else if y = Str.ofString "saved" then some (.ref SV') else m y := by
    funext y
    by_cases h1 : y = Str.ofString "due"
    · rw [if_pos h1, h1, ed]
    · rw [if_neg h1]
      by_cases h2 : y = Str.ofString "since"
      · rw [if_pos h2, h2, es]
      · rw [if_neg h2]
        by_cases h3 : y = Str.ofString "saved"
        · rw [if_pos h3, h3, ev]
        · rw [if_neg h3, eo y h1 h2 h3]
  rw [em] at F'
  refine h2 h' tk' gs' sv' ng' ns' SV' td' ts' F' (fun p hp => N' p ?_) ig iw hlt hnew
  unfold MLed
  simp only [List.mem_cons] at hp ⊢
  rcases hp with h | h | h | h | h | h | h | h | h | h | h | h <;> simp only [h, true_or, or_true]
end
end Mine
end
section
open PySem PySem.W PySem.Calls PyProof.Rows PyProof.Rows.LCg
set_option maxHeartbeats 2000000
namespace Mine
section
variable {prog : Program} {w : World} {A : Around} {E : Value → Shared → Prop} {s : Shared} {h₀ : Heap} {L : Addr}
theorem eq_news {news : List (Addr × Obj)} {a b : Addr} {vs us : List Value} {ns ms : List Int} {n1 n2 : Nat} {Q : Value → Shared → Prop} (N : News h₀ L s.heap news) (m1 : (a, W.listOf vs.toArray n1) ∈ news) (i1 : IntsAre vs ns) (m2 : (b, W.listOf us.toArray n2) ∈ news) (i2 : IntsAre us ms) (hu : A.units + 64 < cLine)
    (h : Q (.bool (decide (ns = ms))) s) : wpAny (model prog w) A (compareOp .Eq (.ref a) (.ref b)) Q E s :=
  eq_intsK (News.isList N m1) i1 (News.isList N m2) i2 hu h
theorem ne_news {news : List (Addr × Obj)} {a b : Addr} {vs us : List Value} {ns ms : List Int} {n1 n2 : Nat} {Q : Value → Shared → Prop} (N : News h₀ L s.heap news) (m1 : (a, W.listOf vs.toArray n1) ∈ news) (i1 : IntsAre vs ns) (m2 : (b, W.listOf us.toArray n2) ∈ news) (i2 : IntsAre us ms) (hu : A.units + 64 < cLine)
    (h : Q (.bool (!decide (ns = ms))) s) : wpAny (model prog w) A (compareOp .NotEq (.ref a) (.ref b)) Q E s :=
  ne_intsK (News.isList N m1) i1 (News.isList N m2) i2 hu h
theorem line_first {value slice : PySem.Expr} {news : List (Addr × Obj)} {D : Addr} {vs : List Value} {ns : List Int} {n B : Nat} {u : Tok} {Q : Value → Shared → Prop} (N : News h₀ L s.heap news) (hm : (D, W.listOf vs.toArray n) ∈ news) (hi : IntsAre vs ns) (hne : decide (ns = []) = false) (hb : ns.length > 0 → 0 ≤ ns.getD 0 0 ∧ ns.getD 0 0 < (B : Int))
    (h : 0 ≤ ns.getD 0 0 ∧ ns.getD 0 0 < (B : Int) → ∀ t, Q (.int (ns.getD 0 0) t) s)
    (hs : subscripted slice false (.ref D) (.int 0 u) = operate [.ref D, .int 0 u] (getItem (.ref D) (.int 0 u)) := by with_unfolding_all rfl) :
    wpAny (model prog w) A (subscriptTail value slice (.ref D) (.int 0 u)) Q E s := by
  have hp : ns.length > 0 := List.length_pos_iff.mpr (of_decide_eq_false hne)
  exact ksa_sub N hm hi (by omega) (by omega) (by omega) (h (hb hp)) hs
variable {m : Str → Option Value} {D : Addr} {news news' : List (Addr × Obj)} {n : Nat} {vs : List Value} {ns : List Int}
theorem set_line {k x : Int} {t u : Tok} {Q : Unit → Shared → Prop} (F : Fr h₀ L s.heap m) (N : News h₀ L s.heap news) (U : Upd D (W.listOf vs.toArray n) (W.listOf (vs.set k.toNat (.int x u)).toArray n) news news') (hi : IntsAre vs ns) (hb : 0 ≤ k ∧ k < (ns.length : Int)) (hz : ns.length ≤ 9)
    (h : ∀ h', Fr h₀ L h' m → News h₀ L h' news' → IntsAre (vs.set k.toNat (.int x u)) (ns.set k.toNat x) → Q () { s with heap := h' }) :
    wpAny (model prog w) A (setItem (.ref D) (.int k t) (.int x u)) Q E s :=
  ksa_set F N U hi hb.1 hb.2 (by omega) fun h' F' N' i _ _ => h h' F' N' i
theorem pop_saved {Q : Value → Shared → Prop} (F : Fr h₀ L s.heap m) (N : News h₀ L s.heap news) (U : Upd D (W.listOf vs.toArray n) (W.listOf vs.dropLast.toArray (n + 1)) news news') (hi : IntsAre vs ns) (hne : decide (ns = []) = false)
    (hz : vs.length ≤ 63) (h : ∀ h' t, Fr h₀ L h' m → News h₀ L h' news' → IntsAre vs.dropLast ns.dropLast → Q (.int (ns.getLastD 0) t) { s with heap := h' }) : wpAny (model prog w) A (call (.builtin "list.pop") [.ref D]) Q E s :=
  kpa_pop F N U hi (by rw [IntsAre.len hi]; exact List.length_pos_iff.mpr (of_decide_eq_false hne)) (by rw [PySem.sizeLine_eq]; omega) h
theorem append_int {k : Int} {t : Tok} {Q : Value → Shared → Prop} (F : Fr h₀ L s.heap m) (N : News h₀ L s.heap news) (U : Upd D (W.listOf vs.toArray n) (W.listOf (vs ++ [Value.int k t]).toArray (n + 1)) news news') (hi : IntsAre vs ns) (hz : vs.length ≤ 63)
    (h : ∀ h', Fr h₀ L h' m → News h₀ L h' news' → IntsAre (vs ++ [Value.int k t]) (ns ++ [k]) → Q .none { s with heap := h' }) : wpAny (model prog w) A (call (.builtin "list.append") [.ref D, .int k t]) Q E s :=
  append_K F N (by rw [List.push_toArray]; exact U) (fun h' F' N' => h h' F' N' (hi.append (.cons _ _ .nil))) (by rw [PySem.sizeLine_eq, List.size_toArray]; omega)
end
section
variable {t deed : Int} {line saved gone : List Int}
def Way (t deed : Int) (line saved gone : List Int) (due : Str) (since : Int) (gone1 saved1 : List Int) : Prop := lDue deed line saved = due ∧ lSince t deed saved = since ∧ lGone t deed line gone = gone1 ∧ lSaved t deed saved = saved1
theorem way1 (h : deed < 2) : Way t deed line saved gone (Str.ofString "done") t gone (saved ++ [t]) := by
  unfold Way lDue lSince lGone lSaved
  simp only [if_pos h, and_self]
theorem way2 (h : ¬ deed < 2) (h2 : deed < 4) (h3 : decide (saved = []) = true) : Way t deed line saved gone (Str.ofString "not saved") t gone saved := by
  have h3 := of_decide_eq_true h3
  subst h3
  unfold Way lDue lSince lGone lSaved
  simp only [if_neg h, if_pos h2, if_true, and_self, List.dropLast_nil]
theorem way3 (h : ¬ deed < 2) (h2 : deed < 4) (h3 : decide (saved = []) = false) : Way t deed line saved gone (Str.ofString "done") (saved.getLastD 0) gone saved.dropLast := by
  have h3 := of_decide_eq_false h3
  unfold Way lDue lSince lGone lSaved
  simp only [if_neg h, if_pos h2, if_neg h3, and_self]
theorem way4 (h : ¬ deed < 2) (h2 : ¬ deed < 4) (h3 : deed = 4) : Way t deed line saved gone (Str.ofString "done") 0 gone [] := by
  unfold Way lDue lSince lGone lSaved
  simp only [if_neg h, if_neg h2, if_pos h3, and_self]
theorem way5 (h : ¬ deed < 2) (h2 : ¬ deed < 4) (h3 : ¬ deed = 4) (h4 : decide (line = []) = true) : Way t deed line saved gone (Str.ofString "not shown") t gone saved := by
  have h4 := of_decide_eq_true h4
  unfold Way lDue lSince lGone lSaved
  simp only [if_neg h, if_neg h2, if_neg h3, if_pos h4, and_self]
theorem way6 (h : ¬ deed < 2) (h2 : ¬ deed < 4) (h3 : ¬ deed = 4) (h4 : decide (line = []) = false) : Way t deed line saved gone (Str.ofString "done") t (gone.set (line.getD 0 0).toNat t) saved := by
  have h4 := of_decide_eq_false h4
  unfold Way lDue lSince lGone lSaved
  simp only [if_neg h, if_neg h2, if_neg h3, if_neg h4, and_self]
end
section
variable {w : World} {s : Shared} {h₀ : Heap} {L : Addr} {m : Str → Option Value}
theorem JIf.way {D dd H S CA GO C1 C2 FI HA : Nat} {t1 t2 : Tok} {o1 : Obj} {fs ha : List Value} {nf nh : Nat} {vs hs ss cs gs sv gs' sv' : List Value} {V Hd St gone saved line gone1 saved1 : List Int} {came : List (Int × Int)} {n0 n1 n2 nc ng ns SV ng' ns' SV' : Nat} {o2 : Obj} {rest nl : List (Addr × Obj)} {t deed since : Int} {due : Str} {h' : Heap} {tk' : Nat} {m' : Str → Option Value} {td ts : Tok}
    (hw : Way t deed line saved gone due since gone1 saved1) (F : Fr h₀ L h' m') (N : News h₀ L h' nl)
    (ed : m' (Str.ofString "due") = some (.str due td)) (es : m' (Str.ofString "since") = some (.int since ts)) (ev : m' (Str.ofString "saved") = some (.ref SV')) (eo : ∀ z, z ≠ Str.ofString "due" → z ≠ Str.ofString "since" → z ≠ Str.ofString "saved" → m' z = m z)
    (mD : (D, domObj 59 dd vs.toArray n0) ∈ nl) (mdd : (dd, domDict w H S t1 t2) ∈ nl) (mH : (H, W.listOf hs.toArray n1) ∈ nl) (mS : (S, W.listOf ss.toArray n2) ∈ nl) (mCA : (CA, W.listOf cs.toArray nc) ∈ nl) (mGO : (GO, W.listOf gs'.toArray ng') ∈ nl) (mSV : (SV', W.listOf sv'.toArray ns') ∈ nl)
    (m2 : (C2, o2) ∈ nl) (m1 : (C1, o1) ∈ nl) (mFI : (FI, W.listOf fs.toArray nf) ∈ nl) (mHA : (HA, W.listOf ha.toArray nh) ∈ nl) (mr : ∀ p ∈ rest, p ∈ nl)
    (ig : IntsAre gs' gone1) (iw : IntsAre sv' saved1) (hlt : GO < SV') (hnew : SV' = SV ∨ AllLt SV' rest) :
    JIf w D dd H S CA GO C1 C2 FI HA t1 t2 o1 fs ha nf nh h₀ L m ⟨vs, hs, ss, V, Hd, St, n0, n1, n2, cs, came, nc, gs, gone, ng, SV, sv, saved, ns, o2⟩ rest t deed line s .next { s with heap := h', toks := tk' } := by
  obtain ⟨hd, hs', hg, hv⟩ := hw
  subst hd hs' hg hv
  exact JIf.of F N ed es ev eo mD mdd mH mS mCA mGO mSV m2 m1 mFI mHA mr ig iw hlt hnew
end
end Mine
end
section
open PySem PySem.W PySem.Calls PyProof.Rows PyProof.Rows.LCg
set_option maxHeartbeats 2000000
namespace Mine
theorem lGone_len {t deed : Int} {line gone : List Int} : (lGone t deed line gone).length = gone.length := by
  unfold lGone
  split
  · rfl
  split
  · rfl
  split
  · rfl
  split
  · rfl
  · exact List.length_set ..
theorem lSaved_len {t deed : Int} {saved : List Int} : (lSaved t deed saved).length ≤ saved.length + 1 := by
  unfold lSaved
  split
  · simp
  split
  · rw [List.length_dropLast]; omega
  split
  · simp
  · omega
theorem offC2 {a x y : Nat} {o : Obj} {r : List (Addr × Obj)} (h1 : a ≠ x) (h2 : a ≠ y) (h : OwnOff r [x, y]) : OwnOff ((a, o) :: r) [x, y] := fun p hp b hb => by
  rcases List.mem_cons.mp hp with rfl | hp
  · rcases List.mem_cons.mp hb with rfl | hb
    · exact h1
    · rw [List.mem_singleton.mp hb]; exact h2
  · exact h p hp b hb
theorem All2.set {α β : Type} {R : α → β → Prop} {as : List α} {bs : List β} {a : α} {b : β} (h : All2 R as bs) (hr : R a b) : ∀ i, All2 R (as.set i a) (bs.set i b) := by
  induction h with
  | nil => intro i; exact .nil
  | cons h t ih =>
    intro i
    cases i with
    | zero => exact .cons hr t
    | succ i => exact .cons h (ih i)
section
variable {prog : Program} {w : World} {A : Around} {E : Value → Shared → Prop} {s : Shared} {h₀ : Heap} {L D : Addr} {m : Str → Option Value} {news news' : List (Addr × Obj)} {vs : List Value} {ns : List Int} {n i : Nat}
theorem inner_get {value slice : PySem.Expr} {u : Tok} {Q : Value → Shared → Prop} (N : News h₀ L s.heap news) (hm : (D, W.listOf vs.toArray n) ∈ news) (hi : IntsAre vs ns) (hb : i < ns.length) (hz : ns.length ≤ 9) (h : ∀ t, Q (.int (ns.getD i 0) t) s)
    (hs : subscripted slice false (.ref D) (.int (0 + (i : Int)) u) = operate [.ref D, .int (0 + (i : Int)) u] (getItem (.ref D) (.int (0 + (i : Int)) u)) := by with_unfolding_all rfl) :
    wpAny (model prog w) A (subscriptTail value slice (.ref D) (.int (0 + (i : Int)) u)) Q E s := by
  have e : (0 + (i : Int)).toNat = i := by omega
  exact ksa_sub N hm hi (by omega) (by omega) (by omega) (by rw [e]; exact h) hs
theorem inner_seti {x : Int} {t u : Tok} {Q : Unit → Shared → Prop} (F : Fr h₀ L s.heap m) (N : News h₀ L s.heap news) (U : Upd D (W.listOf vs.toArray n) (W.listOf (vs.set i (.int x u)).toArray n) news news') (hi : IntsAre vs ns) (hb : i < ns.length) (hz : ns.length ≤ 9)
    (h : ∀ h', Fr h₀ L h' m → News h₀ L h' news' → IntsAre (vs.set i (.int x u)) (ns.set i x) → Q () { s with heap := h' }) :
    wpAny (model prog w) A (setItem (.ref D) (.int (0 + (i : Int)) t) (.int x u)) Q E s := by
  have e : (0 + (i : Int)).toNat = i := by omega
  refine ksa_set (k := 0 + (i : Int)) F N (by rw [e]; exact U) hi (by omega) (by omega) (by omega) fun h' F' N' i _ _ => ?_
  rw [e] at i
  exact h h' F' N' i
theorem inner_setr {v : Value} {t : Tok} {Q : Unit → Shared → Prop} (F : Fr h₀ L s.heap m) (N : News h₀ L s.heap news) (U : Upd D (W.listOf vs.toArray n) (W.listOf (vs.set i v).toArray n) news news') (hb : i < vs.length) (hz : vs.length ≤ 9)
    (h : ∀ h', Fr h₀ L h' m → News h₀ L h' news' → Q () { s with heap := h' }) :
    wpAny (model prog w) A (setItem (.ref D) (.int (0 + (i : Int)) t) v) Q E s := by
  have e : (0 + (i : Int)).toNat = i := by omega
  obtain ⟨pre, post, rfl, rfl, a, b⟩ := U.split
  have z := N (D, listOf vs.toArray n) (List.mem_append.mpr (.inr (.head _)))
  refine ki_setAt z.1 (by omega) (by omega) (by rw [List.size_toArray]; omega) (h _ (F.change (Heap.SameBut.update ..) z.2.1 z.2.2) (ki_turn _ N a b ?_ ?_))
  · show vs.toArray.setIfInBounds (0 + (i : Int)).toNat v = (vs.set i v).toArray
    rw [e]
    apply Array.toList_inj.mp
    simp
  · simp
end
end Mine
end
section
open PySem PySem.W PySem.Calls PyProof.Rows PyProof.Rows.LCg
set_option maxHeartbeats 2000000
namespace Mine
section
variable {h₀ h : Heap} {L : Addr}
theorem reled {a b d dd hh ss sv c2 c1 fi ha : Addr × Obj} {tl rest : List (Addr × Obj)} (N : News h₀ L h (a :: b :: (tl ++ (d :: dd :: hh :: ss :: sv :: c2 :: c1 :: fi :: ha :: rest)))) : News h₀ L h (d :: dd :: hh :: ss :: a :: b :: sv :: c2 :: c1 :: fi :: ha :: (tl ++ rest)) := fun p hp => N p (by
  simp only [List.mem_cons, List.mem_append] at hp ⊢
  rcases hp with h | h | h | h | h | h | h | h | h | h | h | h | h <;> simp only [h, true_or, or_true])
theorem off_new {rest : List (Addr × Obj)} {D dd H S CA GO SV SV' C2 C1 FI HA : Nat} (h : OwnOff rest [D, dd, H, S, CA, GO, SV, C2, C1, FI, HA]) (hn : SV' = SV ∨ AllLt SV' rest) : OwnOff rest [D, dd, H, S, CA, GO, SV', C2, C1, FI, HA] := fun p hp b hb => by
  simp only [List.mem_cons, List.not_mem_nil, or_false] at hb
  rcases hb with e | e | e | e | e | e | e | e | e | e | e <;> subst e
  case inr.inr.inr.inr.inr.inr.inl =>
    rcases hn with e | e
    · subst e; exact h p hp _ (by simp)
    · exact offLt e (Nat.le_refl _) p hp
  all_goals exact h p hp _ (by simp)
theorem off_tl {tl rest : List (Addr × Obj)} {D dd H S CA GO SV C2 C1 FI HA : Nat} {d' dd' h' s' sv' c2 c1 fi ha : Obj} (h : OwnOff tl (CA :: GO :: ((D, d') :: (dd, dd') :: (H, h') :: (S, s') :: (SV, sv') :: (C2, c2) :: (C1, c1) :: (FI, fi) :: (HA, ha) :: rest).map (·.1))) : OwnOff tl [D, dd, H, S, CA, GO, SV, C2, C1, FI, HA] := OwnOff.sub h fun x hx => by
  simp only [List.mem_cons, List.not_mem_nil, or_false, List.map_cons] at hx ⊢
  rcases hx with e | e | e | e | e | e | e | e | e | e | e <;> simp only [e, true_or, or_true]
theorem off_tl2 {tl own tl2 : List (Addr × Obj)} {D dd H S CA GO SV C2 C1 FI HA : Nat} {d' dd' h' s' sv' c2 c1 fi ha : Obj} (h : OwnOff tl (CA :: GO :: ((D, d') :: (dd, dd') :: (H, h') :: (S, s') :: (SV, sv') :: (C2, c2) :: (C1, c1) :: (FI, fi) :: (HA, ha) :: (tl2 ++ own)).map (·.1))) : OwnOff tl (own.map (·.1)) := OwnOff.sub h fun x hx => by
  simp only [List.mem_cons, List.map_cons, List.map_append, List.mem_append]
  simp only [hx, or_true]
theorem off_own2 {own tl : List (Addr × Obj)} {D dd H S CA GO SV C2 C1 FI HA : Nat} (h : OwnOff own (D :: dd :: H :: S :: CA :: GO :: SV :: C2 :: C1 :: FI :: HA :: tl.map (·.1))) : OwnOff own (tl.map (·.1)) := OwnOff.sub h fun x hx => by
  simp only [List.mem_cons]
  simp only [hx, or_true]
end
/-- the Domain's own four addresses lie apart from each other and from the rest -/
structure DeedOk (D dd H S : Nat) (rest : List (Addr × Obj)) : Prop where
  d1 : D ≠ dd
  d2 : D ≠ H
  d3 : D ≠ S
  d4 : dd ≠ H
  d5 : dd ≠ S
  d6 : H ≠ S
  off : OwnOff rest [D, dd, H, S]
theorem offC4 {a x y z u : Nat} {o : Obj} {r : List (Addr × Obj)} (h : (a ≠ x ∧ a ≠ y) ∧ a ≠ z ∧ a ≠ u) (hr : OwnOff r [x, y, z, u]) : OwnOff ((a, o) :: r) [x, y, z, u] := fun p hp b hb => by
  rcases List.mem_cons.mp hp with rfl | hp
  · simp only [List.mem_cons, List.not_mem_nil, or_false] at hb
    rcases hb with e | e | e | e <;> subst e
    · exact h.1.1
    · exact h.1.2
    · exact h.2.1
    · exact h.2.2
  · exact hr p hp b hb
theorem DeedOk.of {h₀ h : Heap} {L : Addr} {D dd H S : Nat} {o1 o2 o3 o4 : Obj} {rest : List (Addr × Obj)} (_ : News h₀ L h ((D, o1) :: (dd, o2) :: (H, o3) :: (S, o4) :: rest)) (h1 : D ≠ dd ∧ D ≠ H ∧ D ≠ S ∧ dd ≠ H ∧ dd ≠ S ∧ H ≠ S) (h2 : OwnOff rest [D, dd, H, S]) : DeedOk D dd H S rest :=
  ⟨h1.1, h1.2.1, h1.2.2.1, h1.2.2.2.1, h1.2.2.2.2.1, h1.2.2.2.2.2, h2⟩
theorem dV_len {deed val : Int} {V Hd St : List Int} : (dV deed val V Hd St).length ≤ V.length + Hd.length := by
  unfold dV
  split
  · omega
  split
  · split
    · omega
    · rw [List.length_append, List.length_drop]; omega
  split
  · rw [List.length_append]; omega
  split
  · rw [List.length_erase]; split <;> omega
  · omega
theorem deed_due {w : World} {h₀ : Heap} {L a : Addr} {D dd H S : Nat} {s : Shared} {m mg mb : Str → Option Value} {rest : List (Addr × Obj)} {cn : Str} {nm : List (Str × NameKind)} {mr : List (Str × Const)} {cd : Value} {mean : ExcName → Option Value}
    {deed val : Int} {td tv t1 t2 : Tok} {vs hs ss : List Value} {V Hd St : List Int} {n0 n1 n2 : Nat} {due : Str} {Q : Value → Shared → Prop} {E : Value → Shared → Prop}
    (X₀ : (Mine.hd.heap_39 w.params).In h₀) (B : Below callerA h₀ [] h₀) (T : Top hd.view_39 (looseW hd.view_39 []) mean mg mb h₀)
    (F : Fr h₀ L s.heap m) (N : News h₀ L s.heap ((D, domObj 59 dd vs.toArray n0) :: (dd, domDict w H S t1 t2) :: (H, W.listOf hs.toArray n1) :: (S, W.listOf ss.toArray n2) :: rest))
    (ok : DeedOk D dd H S rest)
    (iV : IntsAre vs V) (iH : IntsAre hs Hd) (iS : IntsAre ss St) (hzv : V.length + Hd.length ≤ 20) (hzs : St.length ≤ 100)
    (hb : St ≠ [] → (V.length : Int) ≤ St.getLastD 0 ∧ St.getLastD 0 ≤ V.length + Hd.length) (hR : dR deed val V St = due)
    (hQ : ∀ h' tk tk' vs' hs' ss' n0' n1' n2', Fr h₀ L h' m → News h₀ L h' ((D, domObj 59 dd vs'.toArray n0') :: (dd, domDict w H S t1 t2) :: (H, W.listOf hs'.toArray n1') :: (S, W.listOf ss'.toArray n2') :: rest) → IntsAre vs' (dV deed val V Hd St) → IntsAre hs' (dH deed val V Hd St) → IntsAre ss' (dS deed V St) → vs'.length ≤ 20 → Q (.str due tk') { s with heap := h', toks := tk }) :
    wpAny (model PySem.Challenge.pw_bm0019_01 w) (callerA.deeper (envOfC cn { kind := .function, names := nm, isGenerator := false, isCoroutine := false, more := mr } L a cd)) (call (.ref 75) [.ref D, .int deed td, .int val tv]) Q E s := by
  subst hR
  exact deed_all X₀ B T F N ok.d1 ok.d2 ok.d3 ok.d4 ok.d5 ok.d6 ok.off iV iH iS hzv hzs hb fun h' tk tk' vs' hs' ss' n0' n1' n2' F' N' i1 i2 i3 => hQ h' tk tk' vs' hs' ss' n0' n1' n2' F' N' i1 i2 i3 (by rw [IntsAre.len i1]; exact Nat.le_trans dV_len hzv)
section
variable {prog : Program} {w : World} {A : Around} {E : Value → Shared → Prop} {s : Shared} {h₀ : Heap} {L : Addr}
theorem ne_sameS {x : Str} {t u : Tok} {Q : Value → Shared → Prop} (h : Q (.bool false) s) : wpAny (model prog w) A (compareOp .NotEq (.str x t) (.str x u)) Q E s :=
  PyProof.Rows.ne_str (by rw [bne_self_eq_false]; exact h)
theorem ne_sameL {news : List (Addr × Obj)} {a b : Addr} {vs us : List Value} {ns : List Int} {n1 n2 : Nat} {Q : Value → Shared → Prop} (N : News h₀ L s.heap news) (m1 : (a, W.listOf vs.toArray n1) ∈ news) (i1 : IntsAre vs ns) (m2 : (b, W.listOf us.toArray n2) ∈ news) (i2 : IntsAre us ns) (hu : A.units + 64 < cLine)
    (h : Q (.bool false) s) : wpAny (model prog w) A (compareOp .NotEq (.ref a) (.ref b)) Q E s :=
  ne_news N m1 i1 m2 i2 hu (by rw [decide_eq_true rfl]; exact h)
theorem get_b {value slice : PySem.Expr} {news : List (Addr × Obj)} {D : Addr} {vs : List Value} {ns : List Int} {n : Nat} {k : Int} {u : Tok} {Q : Value → Shared → Prop} (N : News h₀ L s.heap news) (hm : (D, W.listOf vs.toArray n) ∈ news) (hi : IntsAre vs ns) (hb : 0 ≤ k ∧ k < (ns.length : Int)) (hz : ns.length ≤ 9) (h : ∀ t, Q (.int (ns.getD k.toNat 0) t) s)
    (hs : subscripted slice false (.ref D) (.int k u) = operate [.ref D, .int k u] (getItem (.ref D) (.int k u)) := by with_unfolding_all rfl) :
    wpAny (model prog w) A (subscriptTail value slice (.ref D) (.int k u)) Q E s := ksa_sub N hm hi hb.1 hb.2 (by omega) h hs
end
end Mine
end
section
open PySem PySem.W PySem.Calls PyProof.Rows PyProof.Rows.LCg
set_option maxHeartbeats 2000000
namespace Mine
theorem getD_range {α : Type} {l : List α} {k : Nat} {d : α} (h : ¬ k < l.length) : l.getD k d = d := by
  simp only [List.getD_eq_getElem?_getD, List.getElem?_eq_none (Nat.le_of_not_lt h), Option.getD_none]
theorem ext_getD {α : Type} {l l' : List α} {d : α} (hl : l.length = l'.length) (h : ∀ k, l.getD k d = l'.getD k d) : l = l' := by
  refine List.ext_getElem hl fun k h1 h2 => ?_
  have := h k
  simpa [List.getD_eq_getElem?_getD, h1, h2] using this
/-- a list in strict order is the same as its twin -/
theorem nodup_of_lt {α : Type} {f : α → Int} {l : List α} (h : l.Pairwise fun a b => f a < f b) : l.Nodup := h.imp fun {a b} h e => by subst e; omega
theorem ltT_irrefl (p : Int × Int × Int) : ltT p p = false := by unfold ltT; simp
theorem ltT_asymm {p q : Int × Int × Int} (h : ltT p q = true) : ltT q p = false := by
  unfold ltT at h ⊢
  simp only [decide_eq_true_eq, decide_eq_false_iff_not] at h ⊢
  omega
theorem ltT_nodup {α : Type} {f : α → Int × Int × Int} {l : List α} (h : l.Pairwise fun a b => ltT (f a) (f b) = true) : l.Nodup := h.imp fun {a b} h e => by
  subst e
  rw [ltT_irrefl] at h
  cases h
theorem shown_uniq {came : List (Int × Int)} {gone : List Int} {sk : List Nat} {ts : List (Int × Int × Int)} (hs : ShownIs came gone sk) (hp : ts.Perm (trips came gone gone.length)) (ho : ts.Pairwise fun p q => ltT p q = true) : ts.map (fun p => p.2.2) = sk.map fun k : Nat => (k : Int) := by
  have h1 : sk.Perm ((List.range gone.length).filter fun k => gone.getD k 0 == 0) := by
    refine (List.perm_ext_iff_of_nodup (ltT_nodup hs.2) (List.Pairwise.filter _ List.nodup_range)).mpr fun k => ?_
    rw [hs.1 k, List.mem_filter, List.mem_range]
    simp
  have h2 : (sk.map (keyOf came)).Perm ts := by
    refine (h1.map (keyOf came)).trans (List.Perm.trans ?_ hp.symm)
    exact List.Perm.refl _
  have h3 : sk.map (keyOf came) = ts := by
    refine List.Perm.eq_of_pairwise (le := fun p q => ltT p q = true) (fun a b _ _ h1 h2 => ?_) (List.pairwise_map.mpr hs.2) ho h2
    rw [ltT_asymm h1] at h2
    cases h2
  rw [← h3, List.map_map]
  rfl
theorem split_sorted {f : Nat → Int} {x : Int} : ∀ {l : List Nat}, (l.Pairwise fun a b => f a < f b) → l = (l.filter fun k => !decide (x < f k)) ++ l.filter fun k => decide (x < f k)
  | [], _ => rfl
  | a :: r, h => by
    have ha := (List.pairwise_cons.mp h).1
    have ih := split_sorted (x := x) (List.pairwise_cons.mp h).2
    by_cases e : x < f a
    · have hall : ∀ k ∈ r, x < f k := fun k hk => by have := ha k hk; omega
      have e1 : (r.filter fun k => !decide (x < f k)) = [] := List.filter_eq_nil_iff.mpr fun k hk => by simp [hall k hk]
      have e2 : (r.filter fun k => decide (x < f k)) = r := List.filter_eq_self.mpr fun k hk => by simp [hall k hk]
      rw [List.filter_cons_of_neg (by simp [e]), List.filter_cons_of_pos (by simp [e]), e1, e2]
      rfl
    · rw [List.filter_cons_of_pos (by simp [e]), List.filter_cons_of_neg (by simp [e])]
      rw [List.cons_append, ← ih]
theorem hid_count {gone : List Int} {hk : List Nat} {x : Int} (h : HidIs gone hk) (hx : 0 ≤ x) : hidCount gone x = ((hk.filter fun k => decide (x < gone.getD k 0)).length : Int) := by
  unfold hidCount
  congr 1
  refine List.Perm.length_eq ((List.perm_ext_iff_of_nodup (List.Pairwise.filter _ List.nodup_range) (List.Pairwise.filter _ (nodup_of_lt h.2))).mpr fun k => ?_)
  simp only [List.mem_filter, List.mem_range, decide_eq_true_eq]
  constructor
  · rintro ⟨_, h2⟩
    exact ⟨(h.1 k).mpr (by omega), h2⟩
  · rintro ⟨_, h2⟩
    refine ⟨Classical.byContradiction fun hn => ?_, h2⟩
    rw [getD_range hn] at h2
    omega
/-- nothing is swept -/
theorem swept_none {t since : Int} {came came' : List (Int × Int)} {gone gone' : List Int} {n : Nat} (S : Swept t since came gone n came' gone') (h : ∀ k, gone.getD k 0 ≤ since) : came' = came ∧ gone' = gone := by
  refine ⟨ext_getD (d := (0, 0)) S.lc fun k => ?_, ext_getD (d := 0) S.lg fun k => ?_⟩
  · rw [S.hc k, if_neg (by have := h k; omega)]
  · rw [S.hg k, if_neg (by have := h k; omega)]
/-- what is given back, comes last -/
theorem swept_back {t x i : Int} {came came' : List (Int × Int)} {gone gone' : List Int} {sk hk : List Nat} (S : Swept t x came gone gone.length came' gone') (hs : ShownIs came gone sk) (hh : HidIs gone hk) (hc : ∀ k, (came.getD k (0, 0)).1 ≤ i) (hx : 0 ≤ x) (ht : i < t) :
    ShownIs came' gone' (sk ++ hk.filter fun k => decide (x < gone.getD k 0)) ∧ HidIs gone' (hk.filter fun k => !decide (x < gone.getD k 0)) := by
  have hin : ∀ k, x < gone.getD k 0 → k < gone.length := fun k h => Classical.byContradiction fun hn => by
    rw [getD_range hn] at h; omega
  have ec : ∀ k, came'.getD k (0, 0) = if x < gone.getD k 0 then (t, gone.getD k 0) else came.getD k (0, 0) := fun k => by
    rw [S.hc k]
    by_cases e : x < gone.getD k 0
    · rw [if_pos ⟨hin k e, e⟩, if_pos e]
    · rw [if_neg (by omega), if_neg e]
  have eg : ∀ k, gone'.getD k 0 = if x < gone.getD k 0 then 0 else gone.getD k 0 := fun k => by
    rw [S.hg k]
    by_cases e : x < gone.getD k 0
    · rw [if_pos ⟨hin k e, e⟩, if_pos e]
    · rw [if_neg (by omega), if_neg e]
  refine ⟨⟨fun k => ?_, ?_⟩, ⟨fun k => ?_, ?_⟩⟩
  · rw [S.lg, eg k, List.mem_append, hs.1 k, List.mem_filter, hh.1 k]
    simp only [decide_eq_true_eq]
    by_cases e : x < gone.getD k 0
    · rw [if_pos e]
      have := hin k e
      omega
    · rw [if_neg e]; omega
  · refine List.pairwise_append.mpr ⟨hs.2.imp_of_mem fun {a b} ha hb h => ?_, (List.Pairwise.filter _ hh.2).imp_of_mem fun {a b} ha hb h => ?_, fun a ha b hb => ?_⟩
    · have h1 := ((hs.1 a).mp ha).2
      have h2 := ((hs.1 b).mp hb).2
      unfold keyOf at h ⊢
      rw [ec a, ec b, if_neg (by omega), if_neg (by omega)]
      exact h
    · have h1 := (List.mem_filter.mp ha).2
      have h2 := (List.mem_filter.mp hb).2
      simp only [decide_eq_true_eq] at h1 h2
      have h : gone.getD a 0 < gone.getD b 0 := h
      unfold keyOf ltT
      rw [ec a, ec b, if_pos h1, if_pos h2]
      exact decide_eq_true (.inr ⟨rfl, .inl h⟩)
    · have h1 := ((hs.1 a).mp ha).2
      have h2 := (List.mem_filter.mp hb).2
      simp only [decide_eq_true_eq] at h2
      have h3 := hc a
      unfold keyOf ltT
      rw [ec a, ec b, if_neg (by omega), if_pos h2]
      simp only [decide_eq_true_eq]
      omega
  · rw [eg k, List.mem_filter, hh.1 k]
    by_cases e : x < gone.getD k 0
    · rw [if_pos e]
      refine ⟨fun ⟨_, h⟩ => ?_, fun h => absurd rfl h⟩
      simp only [Bool.not_eq_true', decide_eq_false_iff_not] at h
      exact absurd e h
    · rw [if_neg e]
      refine ⟨fun h => h.1, fun h => ⟨h, ?_⟩⟩
      simp only [Bool.not_eq_true', decide_eq_false_iff_not]
      exact e
  · refine (List.Pairwise.filter _ hh.2).imp_of_mem fun {a b} ha hb h => ?_
    have h1 := (List.mem_filter.mp ha).2
    have h2 := (List.mem_filter.mp hb).2
    simp only [Bool.not_eq_true', decide_eq_false_iff_not] at h1 h2
    rw [eg a, eg b, if_neg h1, if_neg h2]
    exact h
/-- one that is shown is hidden -/
theorem hide_one {t i : Int} {came : List (Int × Int)} {gone : List Int} {sk hk : List Nat} {k0 : Nat} (hs : ShownIs came gone sk) (hh : HidIs gone hk) (hg : ∀ k, gone.getD k 0 ≤ i) (ht : i < t) (h0 : 0 ≤ i) (hk0 : k0 ∈ sk) :
    ShownIs came (gone.set k0 t) (sk.erase k0) ∧ HidIs (gone.set k0 t) (hk ++ [k0]) := by
  obtain ⟨hb, hz⟩ := (hs.1 k0).mp hk0
  have nd := ltT_nodup hs.2
  refine ⟨⟨fun k => ?_, hs.2.sublist (List.erase_sublist)⟩, ⟨fun k => ?_, ?_⟩⟩
  · rw [List.Nodup.mem_erase_iff nd, hs.1 k, List.length_set, getD_set hb]
    by_cases e : k = k0
    · rw [if_pos e]; simp [e]; omega
    · rw [if_neg e]; simp [e]
  · rw [List.mem_append, List.mem_singleton, hh.1 k, getD_set hb]
    by_cases e : k = k0
    · rw [if_pos e]; simp [e]; omega
    · rw [if_neg e]; simp [e]
  · refine List.pairwise_append.mpr ⟨hh.2.imp_of_mem fun {a b} ha hb' h => ?_, List.pairwise_singleton _ _, fun a ha b hb' => ?_⟩
    · have h1 := (hh.1 a).mp ha
      have h2 := (hh.1 b).mp hb'
      rw [getD_set hb, getD_set hb, if_neg (by intro e; subst e; exact h1 hz), if_neg (by intro e; subst e; exact h2 hz)]
      exact h
    · have h1 := (hh.1 a).mp ha
      rw [List.mem_singleton.mp hb', getD_set hb, getD_set hb, if_neg (by intro e; subst e; exact h1 hz), if_pos rfl]
      have := hg a
      omega
theorem erase_map {f : Nat → Int} {val : Int} : ∀ {l : List Nat} {k0 : Nat} {r : List Nat}, (l.filter fun k => f k == val) = k0 :: r → l.Nodup → (l.map f).erase val = (l.erase k0).map f
  | [], _, _, h, _ => by cases h
  | a :: l, k0, r, h, nd => by
    by_cases e : f a = val
    · rw [List.filter_cons_of_pos (by simpa using e)] at h
      injection h with h1 h2
      subst h1
      rw [List.map_cons, e, List.erase_cons_head, List.erase_cons_head]
    · rw [List.filter_cons_of_neg (by simpa using e)] at h
      have hk : k0 ∈ l := (List.mem_filter.mp (h ▸ List.mem_cons_self : k0 ∈ l.filter fun k => f k == val)).1
      have hne : a ≠ k0 := fun e => (List.nodup_cons.mp nd).1 (e ▸ hk)
      rw [List.map_cons, List.erase_cons_tail (by simpa using e), List.erase_cons_tail (by simpa using hne), List.map_cons, erase_map h (List.nodup_cons.mp nd).2]
end Mine
end
section
open PySem PySem.W PySem.Calls PyProof.Rows PyProof.Rows.LCg
set_option maxHeartbeats 2000000
namespace Mine
theorem LInv.vz {W : List Int} {i : Nat} {c : MSt} (hI : LInv W i c) : c.V.length + c.Hd.length = W.length := by
  obtain ⟨sk, hs, eV⟩ := hI.sk
  obtain ⟨hk, hh, eH⟩ := hI.hk
  rw [eV, eH, List.length_map, List.length_map, ← hI.lg, ← List.length_append, ← List.length_range (n := c.gone.length)]
  refine List.Perm.length_eq ((List.perm_ext_iff_of_nodup (List.nodup_append.mpr ⟨ltT_nodup hs.2, nodup_of_lt hh.2, fun a ha b hb e => ?_⟩) List.nodup_range).mpr fun k => ?_)
  · subst e
    exact (hh.1 a).mp hb ((hs.1 a).mp ha).2
  · rw [List.mem_append, hs.1 k, hh.1 k, List.mem_range]
    constructor
    · rintro (h | h)
      · exact h.1
      · exact Classical.byContradiction fun hn => h (getD_range hn)
    · intro h
      by_cases e : c.gone.getD k 0 = 0
      · exact .inl ⟨h, e⟩
      · exact .inr e
theorem LInv.sz {W : List Int} {i : Nat} {c : MSt} (hI : LInv W i c) : c.St.length ≤ i := by
  rw [hI.st, List.length_map]; exact hI.sl
theorem last_map {f : Int → Int} : ∀ {l : List Int}, l ≠ [] → (l.map f).getLastD 0 = f (l.getLastD 0)
  | [], h => absurd rfl h
  | [a], _ => rfl
  | a :: b :: l, _ => by
    have := last_map (f := f) (l := b :: l) (by simp)
    simpa using this
theorem last_mem : ∀ {l : List Int}, l ≠ [] → l.getLastD 0 ∈ l
  | [], h => absurd rfl h
  | [a], _ => by simp
  | a :: b :: l, _ => by
    have := last_mem (l := b :: l) (by simp)
    exact List.Mem.tail a this
theorem LInv.st_last {W : List Int} {i : Nat} {c : MSt} (hI : LInv W i c) (h : c.saved ≠ []) : c.St.getLastD 0 = c.V.length + hidCount c.gone (c.saved.getLastD 0) := by
  rw [hI.st, last_map h]
theorem LInv.st_nil {W : List Int} {i : Nat} {c : MSt} (hI : LInv W i c) : c.St = [] ↔ c.saved = [] := by
  rw [hI.st, List.map_eq_nil_iff]
theorem LInv.hb {W : List Int} {i : Nat} {c : MSt} (hI : LInv W i c) : c.St ≠ [] → (c.V.length : Int) ≤ c.St.getLastD 0 ∧ c.St.getLastD 0 ≤ c.V.length + c.Hd.length := fun h => by
  have h2 : c.saved ≠ [] := fun e => h (hI.st_nil.mpr e)
  obtain ⟨hk, hh, eH⟩ := hI.hk
  rw [hI.st_last h2, hid_count hh (by have := hI.sb _ (last_mem h2); omega), eH, List.length_map]
  have := List.length_filter_le (fun k => decide (c.saved.getLastD 0 < c.gone.getD k 0)) hk
  omega
theorem line_eq {W : List Int} {came : List (Int × Int)} {gone : List Int} {sk : List Nat} {ts : List (Int × Int × Int)} {val : Int} {line : List Int} (hs : ShownIs came gone sk) (hp : ts.Perm (trips came gone gone.length)) (ho : ts.Pairwise fun p q => ltT p q = true)
    (hl : List.filter (fun kv : Int => (W.getD kv.toNat 0 == val)) (ts.map (fun p : Int × Int × Int => p.2.2)) = line) : line = (sk.filter fun k => W.getD k 0 == val).map fun k : Nat => (k : Int) := by
  rw [← hl, shown_uniq hs hp ho, List.filter_map]
  rfl
theorem val_mem {W : List Int} {sk : List Nat} {val : Int} : val ∈ (sk.map fun k => W.getD k 0) ↔ (sk.filter fun k => W.getD k 0 == val) ≠ [] := by
  constructor
  · intro h e
    obtain ⟨k, hk, he⟩ := List.mem_map.mp h
    have : k ∈ (sk.filter fun k => W.getD k 0 == val) := List.mem_filter.mpr ⟨hk, by simpa using he⟩
    rw [e] at this
    cases this
  · intro h
    obtain ⟨k, hk⟩ := List.exists_mem_of_ne_nil _ h
    have := List.mem_filter.mp hk
    exact List.mem_map.mpr ⟨k, this.1, by simpa using this.2⟩
theorem turn_res {W : List Int} {i : Nat} {c : MSt} {deed val : Int} {line : List Int} {due : Str} {ts : List (Int × Int × Int)} (hI : LInv W i c) (hp : ts.Perm (trips c.came c.gone c.gone.length)) (ho : ts.Pairwise fun p q => ltT p q = true)
    (hl : List.filter (fun kv : Int => ((wOf hI).getD kv.toNat 0 == val)) (ts.map (fun p : Int × Int × Int => p.2.2)) = line) (h : lDue deed line c.saved = due) : dR deed val c.V c.St = due := by
  rw [← h]
  unfold dR lDue
  by_cases h1 : deed < 2
  · rw [if_pos h1, if_pos h1]
  rw [if_neg h1, if_neg h1]
  by_cases h2 : deed < 4
  · rw [if_pos h2, if_pos h2]
    by_cases h3 : c.saved = []
    · rw [if_pos h3, if_pos (hI.st_nil.mpr h3)]
    · rw [if_neg h3, if_neg (fun e => h3 (hI.st_nil.mp e))]
  rw [if_neg h2, if_neg h2]
  by_cases h3 : deed = 4
  · rw [if_pos h3, if_pos h3]
  rw [if_neg h3, if_neg h3]
  obtain ⟨sk, hs, eV⟩ := hI.sk
  have e := line_eq hs hp ho hl
  by_cases h4 : line = []
  · rw [if_pos h4, if_neg]
    rw [eV, val_mem]
    rw [h4] at e
    exact fun hn => hn (List.map_eq_nil_iff.mp e.symm)
  · rw [if_neg h4, if_pos]
    rw [eV, val_mem]
    intro hn
    rw [hn] at e
    exact h4 e
end Mine
end
section
open PySem PySem.W PySem.Calls PyProof.Rows PyProof.Rows.LCg
set_option maxHeartbeats 2000000
namespace Mine
section
variable {W : List Int} {i : Nat} {c : MSt} {came9 : List (Int × Int)} {gone8 gone9 : List Int} {since : Int}
theorem swept_ct (S : Swept (1 + (i : Int)) since c.came gone8 gone8.length came9 gone9) (h : ∀ k, (c.came.getD k (0, 0)).1 ≤ (i : Int)) : ∀ k, (came9.getD k (0, 0)).1 ≤ ((i + 1 : Nat) : Int) := fun k => by
  rw [S.hc k]
  have := h k
  split
  · show (1 + (i : Int)) ≤ _
    omega
  · omega
theorem swept_gt (S : Swept (1 + (i : Int)) since c.came gone8 gone8.length came9 gone9) (h : ∀ k, 0 ≤ gone8.getD k 0 ∧ gone8.getD k 0 ≤ ((i + 1 : Nat) : Int)) : ∀ k, 0 ≤ gone9.getD k 0 ∧ gone9.getD k 0 ≤ ((i + 1 : Nat) : Int) := fun k => by
  rw [S.hg k]
  have := h k
  split <;> omega
theorem hid_none {gone : List Int} {x : Int} (h : ∀ k, gone.getD k 0 ≤ x) : hidCount gone x = 0 := by
  unfold hidCount
  rw [List.filter_eq_nil_iff.mpr fun k _ => by have := h k; simp only [decide_eq_true_eq]; omega]
  rfl
variable {vs hs ss cs gs sv : List Value} {n0 n1 n2 nc ng ns SV : Nat} {o2 : Obj} {saved8 St8 : List Int}
theorem law_same (hI : LInv W i c) (sp : saved8.Pairwise (· < ·)) (sb : ∀ x ∈ saved8, 1 ≤ x ∧ x ≤ ((i + 1 : Nat) : Int)) (sl : saved8.length ≤ i + 1) (st : St8 = saved8.map fun x => (c.V.length : Int) + hidCount c.gone x) :
    LInv W (i + 1) ⟨vs, hs, ss, c.V, c.Hd, St8, n0, n1, n2, cs, c.came, nc, gs, c.gone, ng, SV, sv, saved8, ns, o2⟩ :=
  ⟨hI.lc, hI.lg, fun k => by have := hI.ct k; show (c.came.getD k (0, 0)).1 ≤ _; omega, fun k => by have := hI.gt k; show 0 ≤ c.gone.getD k 0 ∧ c.gone.getD k 0 ≤ _; omega, hI.sk, hI.hk, sp, sb, sl, st⟩
theorem law_push (hI : LInv W i c) : LInv W (i + 1) ⟨vs, hs, ss, c.V, c.Hd, c.St ++ [(c.V.length : Int)], n0, n1, n2, cs, c.came, nc, gs, c.gone, ng, SV, sv, c.saved ++ [1 + (i : Int)], ns, o2⟩ := by
  refine law_same hI (List.pairwise_append.mpr ⟨hI.sp, List.pairwise_singleton _ _, fun a ha b hb => ?_⟩) (fun x hx => ?_) (by have := hI.sl; simp; exact this) ?_
  · have := hI.sb a ha
    rw [List.mem_singleton.mp hb]
    omega
  · rcases List.mem_append.mp hx with h | h
    · have := hI.sb x h; omega
    · rw [List.mem_singleton.mp h]; omega
  · rw [List.map_append, ← hI.st, List.map_cons, List.map_nil, hid_none fun k => by have := hI.gt k; omega, Int.add_zero]
theorem law_keep (hI : LInv W i c) : LInv W (i + 1) ⟨vs, hs, ss, c.V, c.Hd, c.St, n0, n1, n2, cs, c.came, nc, gs, c.gone, ng, SV, sv, c.saved, ns, o2⟩ :=
  law_same hI hI.sp (fun x hx => by have := hI.sb x hx; omega) (by have := hI.sl; omega) hI.st
/-- given back, what was hidden later than x -/
theorem law_back {sk hk : List Nat} {x : Int} (hI : LInv W i c) (hs' : ShownIs c.came c.gone sk) (eV : c.V = sk.map fun k => W.getD k 0) (hh : HidIs c.gone hk) (hx : 0 ≤ x) (S : Swept (1 + (i : Int)) x c.came c.gone c.gone.length came9 gone9)
    (sp : saved8.Pairwise (· < ·)) (sb : ∀ y ∈ saved8, 1 ≤ y ∧ y ≤ (i : Int)) (sx : ∀ y ∈ saved8, y ≤ x) (sl : saved8.length ≤ i + 1) (st : St8 = saved8.map fun x => (c.V.length : Int) + hidCount c.gone x) :
    LInv W (i + 1) ⟨vs, hs, ss, c.V ++ (hk.filter fun k => decide (x < c.gone.getD k 0)).map (fun k => W.getD k 0), (hk.filter fun k => !decide (x < c.gone.getD k 0)).map (fun k => W.getD k 0), St8, n0, n1, n2, cs, came9, nc, gs, gone9, ng, SV, sv, saved8, ns, o2⟩ := by
  obtain ⟨h1, h2⟩ := swept_back S hs' hh hI.ct hx (by omega)
  refine ⟨S.lc.trans hI.lc, S.lg.trans hI.lg, swept_ct S hI.ct, swept_gt S (fun k => by have := hI.gt k; omega), ⟨_, h1, by rw [List.map_append, ← eV]⟩, ⟨_, h2, rfl⟩, sp, fun y hy => by have := sb y hy; omega, sl, ?_⟩
  show St8 = saved8.map fun y => ((c.V ++ (hk.filter fun k => decide (x < c.gone.getD k 0)).map (fun k => W.getD k 0)).length : Int) + hidCount gone9 y
  rw [st]
  refine List.map_congr_left fun y hy => ?_
  have hy1 := (sb y hy).1
  have hyx := sx y hy
  rw [hid_count hh (by omega), hid_count h2 (by omega), List.length_append, List.length_map]
  have e1 := split_sorted (x := x) hh.2
  have eg : ∀ k ∈ (hk.filter fun k => !decide (x < c.gone.getD k 0)), gone9.getD k 0 = c.gone.getD k 0 := fun k hk' => by
    have := (List.mem_filter.mp hk').2
    simp only [Bool.not_eq_true', decide_eq_false_iff_not] at this
    rw [S.hg k, if_neg (by omega)]
  have e2 : (hk.filter fun k => decide (y < c.gone.getD k 0)).length = ((hk.filter fun k => !decide (x < c.gone.getD k 0)).filter fun k => decide (y < gone9.getD k 0)).length + (hk.filter fun k => decide (x < c.gone.getD k 0)).length := by
    conv => lhs; rw [e1]
    rw [List.filter_append, List.length_append]
    congr 1
    · rw [List.filter_congr (q := fun k => decide (y < gone9.getD k 0)) fun k hk' => by rw [eg k hk']]
    · rw [List.filter_eq_self.mpr fun k hk' => ?_]
      have := (List.mem_filter.mp hk').2
      simp only [decide_eq_true_eq] at this ⊢
      omega
  omega
theorem law_pop {val : Int} (hI : LInv W i c) (hne : c.saved ≠ []) (S : Swept (1 + (i : Int)) (c.saved.getLastD 0) c.came c.gone c.gone.length came9 gone9) :
    LInv W (i + 1) ⟨vs, hs, ss, dV 2 val c.V c.Hd c.St, dH 2 val c.V c.Hd c.St, c.St.dropLast, n0, n1, n2, cs, came9, nc, gs, gone9, ng, SV, sv, c.saved.dropLast, ns, o2⟩ := by
  obtain ⟨sk, hs', eV⟩ := hI.sk
  obtain ⟨hk, hh, eH⟩ := hI.hk
  have hx := hI.sb _ (last_mem hne)
  have hS : ¬ c.St = [] := fun e => hne (hI.st_nil.mp e)
  have e0 : c.St.getLastD 0 - (c.V.length : Int) = hidCount c.gone (c.saved.getLastD 0) := by rw [hI.st_last hne]; omega
  have e1 := split_sorted (x := c.saved.getLastD 0) hh.2
  have e2 : c.Hd = ((hk.filter fun k => !decide (c.saved.getLastD 0 < c.gone.getD k 0)).map fun k => W.getD k 0) ++ (hk.filter fun k => decide (c.saved.getLastD 0 < c.gone.getD k 0)).map fun k => W.getD k 0 := by
    rw [← List.map_append, ← e1, eH]
  have e3 : c.Hd.length - (c.St.getLastD 0 - (c.V.length : Int)).toNat = ((hk.filter fun k => !decide (c.saved.getLastD 0 < c.gone.getD k 0)).map fun k => W.getD k 0).length := by
    rw [e0, hid_count hh (by omega), e2, List.length_append, List.length_map, List.length_map]
    omega
  have eV2 : dV 2 val c.V c.Hd c.St = c.V ++ (hk.filter fun k => decide (c.saved.getLastD 0 < c.gone.getD k 0)).map fun k => W.getD k 0 := by
    unfold dV
    rw [if_neg (by omega), if_pos (by omega), if_neg hS, e3, e2, List.drop_left]
  have eH2 : dH 2 val c.V c.Hd c.St = (hk.filter fun k => !decide (c.saved.getLastD 0 < c.gone.getD k 0)).map fun k => W.getD k 0 := by
    unfold dH
    rw [if_neg (by omega), if_pos (by omega), if_neg hS, e3, e2, List.take_left]
  rw [eV2, eH2]
  have hsub : ∀ y ∈ c.saved.dropLast, y ∈ c.saved := fun y hy => List.dropLast_subset _ hy
  refine law_back hI hs' eV hh (by omega) S (hI.sp.sublist (List.dropLast_sublist _)) (fun y hy => hI.sb y (hsub y hy)) (fun y hy => ?_) (by rw [List.length_dropLast]; have := hI.sl; omega) (by rw [hI.st, List.map_dropLast])
  have hp := hI.sp
  have e := List.dropLast_concat_getLast hne
  rw [← e] at hp
  have := (List.pairwise_append.mp hp).2.2 y hy _ (List.mem_singleton.mpr rfl)
  rw [List.getLastD_eq_getLast?, List.getLast?_eq_some_getLast hne]
  exact Int.le_of_lt this
theorem law_reset (hI : LInv W i c) (S : Swept (1 + (i : Int)) 0 c.came c.gone c.gone.length came9 gone9) :
    LInv W (i + 1) ⟨vs, hs, ss, c.V ++ c.Hd, [], [], n0, n1, n2, cs, came9, nc, gs, gone9, ng, SV, sv, [], ns, o2⟩ := by
  obtain ⟨sk, hs', eV⟩ := hI.sk
  obtain ⟨hk, hh, eH⟩ := hI.hk
  have hall : ∀ k ∈ hk, 0 < c.gone.getD k 0 := fun k h => by
    have h1 := (hh.1 k).mp h
    have h2 := (hI.gt k).1
    omega
  have e1 : (hk.filter fun k => decide (0 < c.gone.getD k 0)) = hk := List.filter_eq_self.mpr fun k h => by simp only [decide_eq_true_eq]; exact hall k h
  have e2 : (hk.filter fun k => !decide (0 < c.gone.getD k 0)) = [] := List.filter_eq_nil_iff.mpr fun k h => by simp only [Bool.not_eq_true', decide_eq_false_iff_not]; exact fun hn => hn (hall k h)
  have := law_back (vs := vs) (hs := hs) (ss := ss) (n0 := n0) (n1 := n1) (n2 := n2) (cs := cs) (nc := nc) (gs := gs) (ng := ng) (SV := SV) (sv := sv) (ns := ns) (o2 := o2) (saved8 := []) (St8 := []) hI hs' eV hh (Int.le_refl 0) S .nil (fun y hy => by cases hy) (fun y hy => by cases hy) (Nat.zero_le _) rfl
  rw [e1, e2, ← eH] at this
  exact this
end
end Mine
end
section
open PySem PySem.W PySem.Calls PyProof.Rows PyProof.Rows.LCg
set_option maxHeartbeats 2000000
namespace Mine
section
variable {W : List Int} {i : Nat} {c : MSt} {came9 : List (Int × Int)} {gone8 gone9 : List Int}
theorem law_hide {val : Int} {sk r : List Nat} {k0 : Nat} (hI : LInv W i c) (hs' : ShownIs c.came c.gone sk) (eV : c.V = sk.map fun k => W.getD k 0) (hf : (sk.filter fun k => W.getD k 0 == val) = k0 :: r)
    (vs hs ss : List Value) (n0 n1 n2 : Nat) (cs : List Value) (nc : Nat) (gs : List Value) (ng SV : Nat) (sv : List Value) (ns : Nat) (o2 : Obj) :
    LInv W (i + 1) ⟨vs, hs, ss, c.V.erase val, c.Hd ++ [val], c.St, n0, n1, n2, cs, c.came, nc, gs, c.gone.set k0 (1 + (i : Int)), ng, SV, sv, c.saved, ns, o2⟩ := by
  obtain ⟨hk, hh, eH⟩ := hI.hk
  have hk0 := List.mem_filter.mp (hf ▸ List.mem_cons_self : k0 ∈ sk.filter fun k => W.getD k 0 == val)
  have hw : W.getD k0 0 = val := by simpa using hk0.2
  obtain ⟨hb, hz⟩ := (hs'.1 k0).mp hk0.1
  obtain ⟨h1, h2⟩ := hide_one (t := 1 + (i : Int)) (i := (i : Int)) hs' hh (fun k => (hI.gt k).2) (by omega) (by omega) hk0.1
  have eE := erase_map hf (ltT_nodup hs'.2)
  refine ⟨hI.lc, by rw [List.length_set]; exact hI.lg, fun k => by have := hI.ct k; show (c.came.getD k (0, 0)).1 ≤ _; omega, fun k => ?_, ⟨_, h1, by rw [eV]; exact eE⟩, ⟨_, h2, by rw [List.map_append, ← eH, List.map_cons, hw]; rfl⟩, hI.sp, fun y hy => by have := hI.sb y hy; omega, by have := hI.sl; show c.saved.length ≤ _; omega, ?_⟩
  · show 0 ≤ (c.gone.set k0 (1 + (i : Int))).getD k 0 ∧ (c.gone.set k0 (1 + (i : Int))).getD k 0 ≤ _
    rw [getD_set hb]
    have := hI.gt k
    split <;> omega
  · show c.St = c.saved.map fun y => ((c.V.erase val).length : Int) + hidCount (c.gone.set k0 (1 + (i : Int))) y
    rw [hI.st]
    refine List.map_congr_left fun y hy => ?_
    have hy1 := hI.sb y hy
    have hm : val ∈ c.V := by rw [eV]; exact List.mem_map.mpr ⟨k0, hk0.1, hw⟩
    have hpos := List.length_pos_of_mem hm
    rw [hid_count hh (by omega), hid_count h2 (by omega), List.length_erase_of_mem hm, List.filter_append, List.length_append]
    rw [List.filter_cons_of_pos (by rw [getD_set hb, if_pos rfl]; simp only [decide_eq_true_eq]; omega)]
    rw [List.filter_congr (q := fun k => decide (y < (c.gone.set k0 (1 + (i : Int))).getD k 0)) (l := hk) fun k hk' => ?_]
    · simp only [List.filter_nil, List.length_cons, List.length_nil]
      omega
    · have hne : k ≠ k0 := by
        intro e
        subst e
        exact (hh.1 k).mp hk' hz
      rw [getD_set hb, if_neg hne]
theorem turn_law {deed val since8 : Int} {line saved8 : List Int} {ts : List (Int × Int × Int)} (hI : LInv W i c) (hp : ts.Perm (trips c.came c.gone c.gone.length)) (ho : ts.Pairwise fun p q => ltT p q = true)
    (hl : List.filter (fun kv : Int => ((wOf hI).getD kv.toNat 0 == val)) (ts.map (fun p : Int × Int × Int => p.2.2)) = line)
    (hg : lGone (1 + (i : Int)) deed line c.gone = gone8) (hv : lSaved (1 + (i : Int)) deed c.saved = saved8) (hx : lSince (1 + (i : Int)) deed c.saved = since8) (S : Swept (1 + (i : Int)) since8 c.came gone8 gone8.length came9 gone9)
    (vs hs ss : List Value) (n0 n1 n2 : Nat) (cs : List Value) (nc : Nat) (gs : List Value) (ng SV : Nat) (sv : List Value) (ns : Nat) (o2 : Obj) :
    LInv W (i + 1) ⟨vs, hs, ss, dV deed val c.V c.Hd c.St, dH deed val c.V c.Hd c.St, dS deed c.V c.St, n0, n1, n2, cs, came9, nc, gs, gone9, ng, SV, sv, saved8, ns, o2⟩ := by
  have hle : ∀ k, c.gone.getD k 0 ≤ 1 + (i : Int) := fun k => by have := hI.gt k; omega
  by_cases h1 : deed < 2
  · unfold lGone at hg; unfold lSaved at hv; unfold lSince at hx; unfold dV dH dS
    rw [if_pos h1] at hg hv hx ⊢
    rw [if_pos h1, if_pos h1]
    subst hg hv hx
    obtain ⟨rfl, rfl⟩ := swept_none S hle
    exact law_push hI
  by_cases h2 : deed < 4
  · by_cases h3 : c.saved = []
    · unfold lGone at hg; unfold lSaved at hv; unfold lSince at hx; unfold dV dH dS
      have h4 := hI.st_nil.mpr h3
      rw [if_neg h1, if_pos h2] at hg hv hx
      rw [if_neg h1, if_pos h2, if_pos h4, if_neg h1, if_pos h2, if_pos h4, if_neg h1, if_pos h2]
      rw [if_pos h3] at hx
      subst hg hv hx
      obtain ⟨rfl, rfl⟩ := swept_none S hle
      rw [show c.saved.dropLast = c.saved by rw [h3]; rfl, show c.St.dropLast = c.St by rw [h4]; rfl]
      exact law_keep hI
    · have e1 : dV deed val c.V c.Hd c.St = dV 2 val c.V c.Hd c.St := by
        unfold dV
        rw [if_neg h1, if_pos h2, if_neg (by omega : ¬ (2 : Int) < 2), if_pos (by omega : (2 : Int) < 4)]
      have e2 : dH deed val c.V c.Hd c.St = dH 2 val c.V c.Hd c.St := by
        unfold dH
        rw [if_neg h1, if_pos h2, if_neg (by omega : ¬ (2 : Int) < 2), if_pos (by omega : (2 : Int) < 4)]
      rw [e1, e2]
      unfold lGone at hg; unfold lSaved at hv; unfold lSince at hx; unfold dS
      rw [if_neg h1, if_pos h2] at hg hv hx
      rw [if_neg h1, if_pos h2]
      rw [if_neg h3] at hx
      subst hg hv hx
      exact law_pop hI h3 S
  by_cases h3 : deed = 4
  · unfold lGone at hg; unfold lSaved at hv; unfold lSince at hx; unfold dV dH dS
    rw [if_neg h1, if_neg h2, if_pos h3] at hg hv hx
    rw [if_neg h1, if_neg h2, if_pos h3, if_neg h1, if_neg h2, if_pos h3, if_neg h1, if_neg h2, if_pos h3]
    subst hg hv hx
    exact law_reset hI S
  obtain ⟨sk, hs', eV⟩ := hI.sk
  have e := line_eq hs' hp ho hl
  unfold lGone at hg; unfold lSaved at hv; unfold lSince at hx; unfold dV dH dS
  rw [if_neg h1, if_neg h2, if_neg h3] at hg hv hx
  rw [if_neg h1, if_neg h2, if_neg h3, if_neg h1, if_neg h2, if_neg h3, if_neg h1, if_neg h2, if_neg h3]
  subst hv hx
  by_cases h4 : line = []
  · have hm : ¬ val ∈ c.V := by
      rw [eV, val_mem]
      rw [h4] at e
      exact fun hn => hn (List.map_eq_nil_iff.mp e.symm)
    rw [if_pos h4] at hg
    rw [if_neg hm, if_neg hm]
    subst hg
    obtain ⟨rfl, rfl⟩ := swept_none S hle
    exact law_keep hI
  · have hf : (sk.filter fun k => W.getD k 0 == val) ≠ [] := fun hn => h4 (by rw [e, hn]; rfl)
    obtain ⟨k0, r, hf2⟩ := List.exists_cons_of_ne_nil hf
    have hm : val ∈ c.V := by rw [eV, val_mem]; exact hf
    rw [if_neg h4] at hg
    rw [if_pos hm, if_pos hm]
    have e5 : (line.getD 0 0).toNat = k0 := by rw [e, hf2]; rfl
    rw [e5] at hg
    subst hg
    have hk0 := List.mem_filter.mp (hf2 ▸ List.mem_cons_self : k0 ∈ sk.filter fun k => W.getD k 0 == val)
    obtain ⟨hb, _⟩ := (hs'.1 k0).mp hk0.1
    obtain ⟨rfl, rfl⟩ := swept_none S fun k => by
      rw [getD_set hb]
      have := hle k
      split <;> omega
    exact law_hide hI hs' eV hf2 vs hs ss n0 n1 n2 cs nc gs ng SV sv ns o2
theorem shown_val {vs hs ss cs gs sv : List Value} {V Hd St gone saved : List Int} {came : List (Int × Int)} {n0 n1 n2 nc ng ns SV : Nat} {o2 : Obj} {ts : List (Int × Int × Int)} (hI : LInv W i ⟨vs, hs, ss, V, Hd, St, n0, n1, n2, cs, came, nc, gs, gone, ng, SV, sv, saved, ns, o2⟩)
    (hp : ts.Perm (trips came gone gone.length)) (ho : ts.Pairwise fun p q => ltT p q = true) : (ts.map (fun p : Int × Int × Int => p.2.2)).map (fun kv : Int => W.getD kv.toNat 0) = V := by
  obtain ⟨sk, hs', eV⟩ := hI.sk
  have e := shown_uniq hs' hp ho
  rw [e, List.map_map]
  exact eV.symm
theorem law_zero {W : List Int} (vs hs ss : List Value) (n0 n1 n2 : Nat) (cs : List Value) (nc : Nat) (gs : List Value) (ng SV : Nat) (sv : List Value) (ns : Nat) (o2 : Obj) {came : List (Int × Int)} {gone : List Int} (hc : came = cameOf W.length) (hg : gone = List.replicate W.length 0) :
    LInv W 0 ⟨vs, hs, ss, W, [], [], n0, n1, n2, cs, came, nc, gs, gone, ng, SV, sv, [], ns, o2⟩ := by
  subst hc hg
  unfold cameOf
  have eg : ∀ k, (List.replicate W.length (0 : Int)).getD k 0 = 0 := fun k => by
    simp only [List.getD_eq_getElem?_getD, List.getElem?_replicate]
    split <;> rfl
  have ec : ∀ k, k < W.length → ((List.range W.length).map fun (k : Nat) => ((0 : Int), (k : Int))).getD k (0, 0) = (0, (k : Int)) := fun k hk => by
    simp [List.getD_eq_getElem?_getD, hk]
  refine ⟨by simp, by simp, fun k => ?_, fun k => by show 0 ≤ (List.replicate W.length (0 : Int)).getD k 0 ∧ (List.replicate W.length (0 : Int)).getD k 0 ≤ _; rw [eg k]; omega, ⟨List.range W.length, ⟨fun k => ?_, ?_⟩, ?_⟩, ⟨[], ⟨fun k => ?_, .nil⟩, rfl⟩, .nil, fun y hy => (by cases hy), Nat.le_refl _, rfl⟩
  · show (((List.range W.length).map fun (k : Nat) => ((0 : Int), (k : Int))).getD k (0, 0)).1 ≤ _
    by_cases hk : k < W.length
    · rw [ec k hk]; exact Int.le_refl _
    · rw [getD_range (by simpa using hk)]; exact Int.le_refl _
  · show k ∈ List.range W.length ↔ k < (List.replicate W.length (0 : Int)).length ∧ (List.replicate W.length (0 : Int)).getD k 0 = 0
    rw [eg k, List.length_replicate, List.mem_range]
    simp
  · refine List.pairwise_lt_range.imp_of_mem fun {a b} ha hb h => ?_
    have ha := List.mem_range.mp ha
    have hb := List.mem_range.mp hb
    unfold keyOf ltT
    show decide _ = true
    rw [ec a ha, ec b hb]
    exact decide_eq_true (.inr ⟨rfl, .inl (Int.ofNat_lt.mpr h)⟩)
  · show W = (List.range W.length).map fun k => W.getD k 0
    refine List.ext_getElem (by simp) fun k h1 h2 => ?_
    simp [List.getD_eq_getElem?_getD, h1]
  · show k ∈ [] ↔ (List.replicate W.length (0 : Int)).getD k 0 ≠ 0
    rw [eg k]
    simp
end
end Mine
end
section
open PySem PySem.W PySem.Calls PyProof.Rows PyProof.Rows.LCg
set_option maxHeartbeats 2000000
namespace Mine
theorem kst_inner {stored : List Str} {u m₀ : Str → Option Value} {nm z : Str} {v : Value} (h1 : z ≠ nm) (h2 : stored.contains z = false) : kstB (fun z => if stored.contains z then u z else m₀ z) [(nm, v)] z = m₀ z := by
  unfold kstB kstB
  rw [if_neg h1]
  rw [h2]
  rfl
theorem stored_ne {stored : List Str} {z : Str} (h : stored.contains z = false) : ∀ y ∈ stored, z ≠ y := fun y hy e => by
  subst e
  rw [List.contains_iff_mem.mpr hy] at h
  cases h
theorem main_end2 {w : World} {h₀ : Heap} {L : Addr} {s₁ : Shared} {W₀ : List Int} {i : Nat} {D dd H S CA GO C1 C2 FI HA SV : Nat} {t1 t2 : Tok} {o1 o2 : Obj} {fs ha : List Value} {nf nh : Nat} {nm x : Str} {stored : List Str} {m₀ m' : Str → Option Value} {own tl tl2 nl : List (Addr × Obj)} {h' : Heap} {tk : Nat}
    {vs hs ss cs gs sv : List Value} {V Hd St gone saved : List Int} {came : List (Int × Int)} {n0 n1 n2 nc ng ns : Nat}
    (F : Fr h₀ L h' m') (N : News h₀ L h' nl) (hk : m' nm = some (.ref SV))
    (mD : (D, domObj 59 dd vs.toArray n0) ∈ nl) (mdd : (dd, domDict w H S t1 t2) ∈ nl) (mH : (H, W.listOf hs.toArray n1) ∈ nl) (mS : (S, W.listOf ss.toArray n2) ∈ nl) (mCA : (CA, W.listOf cs.toArray nc) ∈ nl) (mGO : (GO, W.listOf gs.toArray ng) ∈ nl) (mSV : (SV, W.listOf sv.toArray ns) ∈ nl)
    (m2 : (C2, o2) ∈ nl) (m1 : (C1, o1) ∈ nl) (mFI : (FI, W.listOf fs.toArray nf) ∈ nl) (mHA : (HA, W.listOf ha.toArray nh) ∈ nl) (mr : ∀ p ∈ tl2 ++ (tl ++ own), p ∈ nl)
    (o1' : OwnOff (tl ++ own) [D, dd, H, S, CA, GO, SV, C2, C1, FI, HA]) (o2' : OwnOff tl2 [D, dd, H, S, CA, GO, SV, C2, C1, FI, HA]) (o3 : OwnOff own (tl.map (·.1))) (o4 : OwnOff tl2 (own.map (·.1)))
    (hlt : GO < SV) (hT : All2 (PairIn (tl2 ++ tl)) cs came) (iV : IntsAre vs V) (iH : IntsAre hs Hd) (iS : IntsAre ss St) (iG : IntsAre gs gone) (iW : IntsAre sv saved) (i2 : ∃ v, o2.data = .cell v)
    (hI : LInv W₀ (i + 1) ⟨vs, hs, ss, V, Hd, St, n0, n1, n2, cs, came, nc, gs, gone, ng, SV, sv, saved, ns, o2⟩) (hr : ∀ z, z ≠ x → z ≠ nm → stored.contains z = false → m' z = m₀ z) :
    InvEndG h₀ L (LoopK (fun c => [(nm, .ref c.SV)]) stored x m₀ (MainK w D dd H S CA GO C1 C2 FI HA t1 t2 o1 fs ha nf nh (LInv W₀) (i + 1))) own s₁ { s₁ with heap := h', toks := tk } :=
  main_end (tl2 := tl2) ⟨vs, hs, ss, V, Hd, St, n0, n1, n2, cs, came, nc, gs, gone, ng, SV, sv, saved, ns, o2⟩ F N (fun p hp => MLed.of (c := ⟨vs, hs, ss, V, Hd, St, n0, n1, n2, cs, came, nc, gs, gone, ng, SV, sv, saved, ns, o2⟩) mD mdd mH mS mCA mGO mSV m2 m1 mFI mHA mr p hp) o1' o2' o3 o4 hlt hT ⟨iV, iH, iS, iG, iW, i2⟩ hI hk hr
end Mine
end
section
open PySem PySem.W PySem.Calls PyProof.Rows PyProof.Rows.LCg
set_option maxHeartbeats 2000000
namespace Mine
theorem range_small1 {n : Nat} (h : n ≤ 100) : Builtin.Range.small 1 ((n : Int) + 1) 1 = true := by
  unfold Builtin.Range.small
  rw [rangeSize_nat, if_pos (by decide)]
  have hf : ∀ i : Int, 0 ≤ i → i ≤ 200 → Builtin.Range.rangeFitsLong i = true := fun i h1 h2 => by
    unfold Builtin.Range.rangeFitsLong
    rw [decide_eq_true (by omega), decide_eq_true (by omega)]; rfl
  rw [hf 1 (by omega) (by omega), hf ((n : Int) + 1) (by omega) (by omega), hf ((n : Int) + 1 + (1 - 1)) (by omega) (by omega)]
  simp [hf (n : Int) (by omega) (by omega)]
theorem sz_of {ys : List Value} {ts : List (Int × Int × Int)} {came : List (Int × Int)} {gone : List Int} {n : Nat} (h : IntsAre ys (ts.map fun p => p.2.2)) (hp : ts.Perm (trips came gone n)) (hn : n ≤ 9) : ys.toArray.size ≤ sizeLine := by
  have e := IntsAre.len h
  have e2 := trips_length came gone n
  rw [List.length_map, hp.length_eq] at e
  rw [sizeLine_eq, List.size_toArray]
  omega
section
variable {prog : Program} {w : World} {A : Around} {E : Value → Shared → Prop} {s : Shared} {h₀ : Heap} {L : Addr}
theorem eq_sameL {news : List (Addr × Obj)} {a b : Addr} {vs us : List Value} {ns : List Int} {n1 n2 : Nat} {Q : Value → Shared → Prop} (N : News h₀ L s.heap news) (m1 : (a, W.listOf vs.toArray n1) ∈ news) (i1 : IntsAre vs ns) (m2 : (b, W.listOf us.toArray n2) ∈ news) (i2 : IntsAre us ns) (hu : A.units + 64 < cLine)
    (h : Q (.bool true) s) : wpAny (model prog w) A (compareOp .Eq (.ref a) (.ref b)) Q E s :=
  eq_news N m1 i1 m2 i2 hu (by rw [decide_eq_true rfl]; exact h)
end
end Mine
end
section
open PySem PySem.W PySem.Calls PyProof.Rows
namespace Mine
local macro_rules | `(tactic| k_inst) => `(tactic| (refine' Mine.InstAt.of_seq ?N ?h1 ?h2; (case N => k_asm); (case h1 => k_mem); (case h2 => k_mem)))
local macro_rules | `(tactic| walk_at "getMethod ref") => `(tactic| (k_here; k_dflt (refine' Mine.method_L ?k1 ?k2 ?k3 ?k4 ?k5 ?k6 ?k7 ?k8 ?k9 ?_; (case k1 => k_asm); (case k2 => k_asm); (case k3 => k_inst); (case k4 => k_is); (case k5 => k_is); (case k6 => k_is); (case k7 => first | exact .inl (by k_is) | exact .inr (by k_is)); (case k8 => k_get); (case k9 => exact rfl); k_whole)))
local macro_rules | `(tactic| walk_at "getAttr ref") => `(tactic| (k_here; k_dflt (refine' Mine.getA_own ?k1 ?k2 ?k3 ?k4 ?k5 ?k6 ?k7 ?k8 ?k9 ?k10 ?k11 ?_; (case k1 => k_asm); (case k2 => k_asm); (case k3 => k_inst); (case k4 => k_is); (case k5 => k_is); (case k6 => k_is); (case k7 => k_is); (case k8 => k_is); (case k9 => k_is); (case k10 => k_get); (case k11 => k_handed); k_whole)))
local macro_rules | `(tactic| walk_at "call builtin:len") => `(tactic| (k_here; (with_reducible show wpAny _ _ (call (Value.builtin "len") [Value.ref _]) _ _ _); k_dflt (refine' Mine.len_L ?k1 ?k2 ?k3 ?k4 ?k5 ?k6 ?k7 ?k8 ?_; (case k1 => k_asm); (case k2 => k_asm); (case k3 => k_asm); (case k4 => k_mem); (case k5 => k_mem); (case k6 => k_is); (case k7 => k_is); (case k8 => walk_at "mine_len"); k_whole); intro tk'))
local macro_rules | `(tactic| walk_at "mine_len") => `(tactic| ((try simp only [List.length_append, List.length_cons, List.length_nil, List.length_map]); first | omega | ((have hx1 := Mine.IntsAre.len (by assumption)); omega)))
local macro_rules | `(tactic| walk_at "call builtin:list.extend") => `(tactic| (k_here; (with_reducible show wpAny _ _ (call (Value.builtin "list.extend") [Value.ref _, Value.ref _]) _ _ _); k_dflt (refine' Mine.list_extend ?k1 ?k2 ?k3 ?k4 ?k5 ?k6 ?k7 ?k8 ?_; (case k1 => k_asm); (case k2 => k_asm); (case k3 => k_asm); (case k4 => k_updF); (case k5 => k_mem); (case k6 => k_is); (case k7 => is_list); (case k8 => walk_at "mine_len"); k_whole); intro n' h' F' N'; (try dsimp only at N'); (try k_sweep)))
local macro_rules | `(tactic| walk_at "delItem ref ref") => `(tactic| (k_here; k_dflt (refine' Mine.delItem_cutK ?F ?N ?U ?p ?z ?_; (case F => k_asm); (case N => k_asm); (case U => k_updF); (case p => first | exact IsPart.none | exact IsPart.int _ _); (case z => walk_at "mine_len"); k_whole); intro n' h' F' N'; (try dsimp only at N'); (try k_sweep)))
local macro_rules | `(tactic| walk_at "subscriptTail Name Slice ref ref") => `(tactic| (k_here; (with_reducible show wpAny _ _ (subscriptTail _ (PySem.Expr.Slice _ none none _) (Value.ref _) (Value.ref _)) _ _ _); k_dflt (refine' Mine.slice_cut ?F ?N ?l ?p ?z ?_ ?s ?t; (case F => k_asm); (case N => k_asm); (case l => k_mem); (case p => kmk_part); (case z => walk_at "mine_len"); (case s => with_unfolding_all rfl); (case t => kmk_pure)); intro D' h' F' N' l1; (try k_lt l1); (try k_sweep)))
local macro_rules | `(tactic| walk_at "mine_len") => `(tactic| ((try simp only [List.length_append, List.length_cons, List.length_nil, List.length_map, List.length_drop, List.length_take]); first | omega | ((have hx1 := Mine.IntsAre.len (by assumption)); omega)))
local macro_rules | `(tactic| walk_at "call builtin:list.pop") => `(tactic| (k_here; (with_reducible show wpAny _ _ (call (Value.builtin _) [Value.ref _]) _ _ _); k_dflt (refine' Mine.pop_none ?a ?N ?m ?e ?_; (case a => rfl); (case N => k_asm); (case m => k_mem); (case e => assumption); k_whole); intro h' tk' e' x'))
local macro_rules | `(tactic| walk_at "call builtin:list.remove") => `(tactic| (k_here; (with_reducible show wpAny _ _ (call (Value.builtin "list.remove") [Value.ref _, Value.int _ _]) _ _ _); k_dflt (refine' Mine.list_remove ?a ?F ?X ?N ?U ?d ?s ?i ?z ?_ ?_; (case a => rfl); (case F => k_asm); (case X => k_asm); (case N => k_asm); (case U => k_updF); (case d => k_mem); (case s => k_is); (case i => l_ints); (case z => walk_at "mine_len"); all_goals k_whole); (rotate_left; (intro hno' h' tk' e' x'); rotate_right; (intro k' hk' hk1' hk2' us' n' h' hI' F' N'; (try dsimp only at N'); (try k_sweep)))))
local macro_rules | `(tactic| walk_at "call ref") => `(tactic| (k_here; (fail_if_success k_inElt); kts_any; k_dflt (refine wpAny_call ?_; refine' Mine.code_defS0E ?k1 ?k2 ?k3 ?k4 ?k5 ?kA ?kF ?k6 ?k7 ?k8 ?k9 ?kB ?_ ?cK ?c2 ?c3 ?c4 ?c5; (case kA => exact rfl); (case kF => exact rfl); (case k2 => k_asm); (case k1 => k_asm); (case k3 => k_asm); (case k4 => k_asm); (case k5 => k_asm); (case k6 => k_is); (case k7 => k_is); (case k8 => k_room); (case k9 => first | exact binds_K (by k_in) rfl (by k_is) rfl rfl rfl | exact BindsTo.of_eq rfl | fail "kts_go: no rule for these arguments"); (case kB => exact locs rfl); (case cK => exact rfl); (case c2 => exact rfl); (case c3 => exact rfl); (case c4 => exact rfl); (case c5 => decide); k_whole; intro g' L' h' FG' F' N' B' X' T' D'; (try dsimp only); (try k_lift B'); (try k_fold))))
local macro_rules | `(tactic| walk_at "subscriptTail Name Name ref int") => `(tactic| (k_here; (with_reducible show wpAny _ _ (subscriptTail _ _ (Value.ref _) (Value.int _ _)) _ _ _); (with_unfolding_all refine' item_litK ?k1 ?k2 ?k3 ?k4 ?_ ?k6; (case k1 => is_list); (case k4 => with_reducible assumption); (case k2 => omega); (case k3 => omega); (case k6 => with_unfolding_all rfl); k_whole)))
local macro_rules | `(tactic| walk_at "call builtin:sorted") => `(tactic| (k_here; (with_reducible show wpAny _ _ (call (Value.builtin _) [Value.ref _]) _ _ _); k_dflt (refine' Mine.sorted_trips ?F ?N ?l ?T ?n ?z ?u ?_; (case F => k_asm); (case N => k_asm); (case l => is_list); (case T => with_reducible assumption); (case n => exact trips_nodup _ _ _); (case z => exact Nat.lt_of_le_of_lt (trips_length _ _ _) (by omega)); (case u => k_units); k_whole); intro D' c' h' vs' ts' F' N' l1 hp' ho' hT'; (try k_lt l1); (try k_sweep)))
local macro_rules | `(tactic| walk_at "call ref") => `(tactic| (k_here; (with_reducible show wpAny _ _ (call (Value.ref 59) [Value.ref _]) _ _ _); k_dflt (refine' Mine.dom_make ?X ?B ?T ?F ?N ?z ?_; (case X => k_asm); (case B => k_asm); (case T => k_asm); (case F => k_asm); (case N => k_asm); (case z => walk_at "mine_len")); intro D' dd' H' S' n0' t1' t2' h' tk' l1' l2' l3' l4' l5' F' N'; (try k_lt2 l2'); (try k_sweep)))
local macro_rules | `(tactic| walk_at "last pyIter ref") => `(tactic| ((with_reducible show wpAny _ _ (pyIter (Value.ref _)) (fun it s₂ => LoopAtV _ _ _ _ _ _ _ _ _ it s₂) _ _); refine Mine.Stop.of ?_))
local macro_rules | `(tactic| walk_at "pyIter ref") => `(tactic| ((with_reducible show wpAny _ _ (pyIter (Value.ref _)) (fun it s₂ => LoopAtV _ _ _ _ _ _ _ _ _ it s₂) _ _); refine Mine.Stop.of ?_))
local macro_rules | `(tactic| walk_at "CompSrc") => `(tactic| refine Mine.Stop.of ?_)
local macro_rules | `(tactic| walk_at "CompSrcT") => `(tactic| refine Mine.Stop.of ?_)
local macro_rules | `(tactic| walk_at "call type:list") => `(tactic| (k_here; (with_reducible show wpAny _ _ (call (Value.type "list") [Value.ref _]) _ _ _); k_dflt (refine' Mine.call_list_dom ?hh ?F ?X ?N ?hx ?hdx ?hsub ?hs ?hi ?hz ?_; (case hh => exact rfl); (case F => k_asm); (case X => k_asm); (case N => k_asm); (case hx => k_mem); (case hdx => k_mem); (case hsub => k_is); (case hs => k_is); (case hi => k_is); (case hz => walk_at "mine_len")); intro D' h' tk' c' F' N' l1; (try k_lt l1); (try k_sweep)))
local macro_rules | `(tactic| walk_at "eval IfExp") => `(tactic| ((rename Mine.Halt => hH9); clear hH9; refine Mine.Stop.of ?_))
local macro_rules | `(tactic| walk_at "exec If") => `(tactic| ((rename Mine.Halt => hH9); clear hH9; refine Mine.Stop.of ?_))
local macro_rules | `(tactic| walk_at "mine_sub") => `(tactic| (intro p hp; repeat (first | exact hp | refine List.Mem.tail _ ?_)))
local macro_rules | `(tactic| walk_at "call ref") => `(tactic| (k_here; (with_reducible show wpAny _ _ (call (Value.ref 68) [Value.ref _, Value.ref _]) _ _ _); k_dflt (refine' Mine.shown_from ?X ?B ?T ?F ?N ?ha ?hb ?hT ?hs ?iG ?hl ?hz ?_; (case X => k_asm); (case B => k_asm); (case T => k_asm); (case F => k_asm); (case N => k_asm); (case ha => k_mem); (case hb => k_mem); (case hT => with_reducible assumption); (case hs => walk_at "mine_sub"); (case iG => with_reducible assumption); (case hl => omega); (case hz => omega)); intro D' ys' ts' h' tk' F' N' ne' iY' hp' hs'; (try k_sweep)))
local macro_rules | `(tactic| walk_at "mine_mem") => `(tactic| ((repeat (first | (with_reducible exact List.Mem.head _) | refine List.Mem.tail _ ?_)); done))
local macro_rules | `(tactic| k_mem) => `(tactic| (refine (‹∀ q ∈ _, q ∈ _ :: _ :: _ :: _› : ∀ q ∈ _, q ∈ _) _ ?_; walk_at "mine_mem"))
local macro_rules | `(tactic| k_ne) => `(tactic| (refine neN ?_; (try dsimp only); first | exact Mine.Apart.ne (by assumption) | exact Mine.Apart.en (by assumption)))
local macro_rules | `(tactic| walk_at "compareOp Eq ref ref") => `(tactic| (k_here; (with_reducible show wpAny _ _ (compareOp CmpOp.Eq (Value.ref _) (Value.ref _)) _ _ _); k_dflt (refine' Mine.eq_news ?N ?m1 ?i1 ?m2 ?i2 ?u ?_; (case N => k_asm); (case m1 => k_mem); (case i1 => with_reducible assumption); (case m2 => k_mem); (case i2 => (first | exact IntsAre.nil | with_reducible assumption)); (case u => units_room); k_whole)))
local macro_rules | `(tactic| walk_at "compareOp NotEq ref ref") => `(tactic| (k_here; (with_reducible show wpAny _ _ (compareOp CmpOp.NotEq (Value.ref _) (Value.ref _)) _ _ _); k_dflt (refine' Mine.ne_news ?N ?m1 ?i1 ?m2 ?i2 ?u ?_; (case N => k_asm); (case m1 => k_mem); (case i1 => with_reducible assumption); (case m2 => k_mem); (case i2 => (first | exact IntsAre.nil | with_reducible assumption)); (case u => units_room); k_whole)))
local macro_rules | `(tactic| walk_at "subscriptTail Name Constant ref int") => `(tactic| (k_here; (with_reducible show wpAny _ _ (subscriptTail _ _ (Value.ref _) (Value.int _ _)) _ _ _); k_dflt (refine' Mine.line_first ?N ?m ?i ?e ?b ?_ ?k; (case N => k_asm); (case m => k_mem); (case i => with_reducible assumption); (case e => assumption); (case b => with_reducible assumption); (case k => with_unfolding_all rfl); k_whole); intro hb9 _))
local macro_rules | `(tactic| walk_at "setItem ref int") => `(tactic| (k_here; (with_reducible show wpAny _ _ (setItem (Value.ref _) (Value.int _ _) (Value.int _ _)) _ _ _); k_dflt (refine' Mine.set_line ?F ?N ?U ?i ?b ?z ?_; (case F => k_asm); (case N => k_asm); (case U => k_upd); (case i => with_reducible assumption); (case b => with_reducible assumption); (case z => omega); k_whole); intro h' F' N' i'; (try k_sweep)))
local macro_rules | `(tactic| walk_at "call builtin:list.pop") => `(tactic| (k_here; (with_reducible show wpAny _ _ (call (Value.builtin _) [Value.ref _]) _ _ _); k_dflt (refine' Mine.pop_saved ?F ?N ?U ?i ?e ?z ?_; (case F => k_asm); (case N => k_asm); (case U => k_upd); (case i => with_reducible assumption); (case e => assumption); (case z => assumption); k_whole); intro h' t' F' N' i'; (try k_sweep)))
local macro_rules | `(tactic| walk_at "call builtin:list.append") => `(tactic| (k_here; (with_reducible show wpAny _ _ (call (Value.builtin _) [Value.ref _, Value.int _ _]) _ _ _); k_dflt (refine' Mine.append_int ?F ?N ?U ?i ?z ?_; (case F => k_asm); (case N => k_asm); (case U => k_upd); (case i => with_reducible assumption); (case z => assumption); k_whole); intro h' F' N' i'; (try k_sweep)))
local macro_rules | `(tactic| walk_at "mine_fact") => `(tactic| with_reducible ((repeat (first | refine Eq.trans (if_pos (by assumption)) ?_ | refine Eq.trans (if_neg (by assumption)) ?_ | refine Eq.trans (if_pos (of_decide_eq_true (by assumption))) ?_ | refine Eq.trans (if_neg (of_decide_eq_false (by assumption))) ?_)); exact rfl))
local macro_rules | `(tactic| walk_at "subscriptTail Name Name ref int") => `(tactic| (k_here; (with_reducible show wpAny _ _ (subscriptTail _ _ (Value.ref _) (Value.int (0 + _) _)) _ _ _); k_dflt (refine' Mine.inner_get ?N ?m ?i ?b ?z ?_ ?k; (case N => k_asm); (case m => k_mem); (case i => with_reducible assumption); (case b => with_reducible assumption); (case z => with_reducible assumption); (case k => with_unfolding_all rfl); k_whole); intro _))
local macro_rules | `(tactic| walk_at "setItem ref int") => `(tactic| (k_here; (with_reducible show wpAny _ _ (setItem (Value.ref _) (Value.int (0 + _) _) (Value.int _ _)) _ _ _); k_dflt (refine' Mine.inner_seti ?F ?N ?U ?i ?b ?z ?_; (case F => k_asm); (case N => k_asm); (case U => k_upd); (case i => with_reducible assumption); (case b => with_reducible assumption); (case z => with_reducible assumption); k_whole); intro h' F' N' i'; (try k_sweep)))
local macro_rules | `(tactic| walk_at "setItem ref int") => `(tactic| (k_here; (with_reducible show wpAny _ _ (setItem (Value.ref _) (Value.int (0 + _) _) (Value.ref _)) _ _ _); k_dflt (refine' Mine.inner_setr ?F ?N ?U ?b ?z ?_; (case F => k_asm); (case N => k_asm); (case U => k_upd); (case b => with_reducible assumption); (case z => with_reducible assumption); k_whole); intro h' F' N'; (try k_sweep)))
local macro_rules | `(tactic| walk_at "call ref") => `(tactic| (k_here; (with_reducible show wpAny _ _ (call (Value.ref 75) [Value.ref _, Value.int _ _, Value.int _ _]) _ _ _); k_dflt (refine' Mine.deed_due ?X ?B ?T ?F ?N ?o ?iV ?iH ?iS ?zv ?zs ?hb ?hR ?_; (case X => k_asm); (case B => k_asm); (case T => k_asm); (case F => k_asm); (case N => k_asm); (case o => with_reducible assumption); (case iV => with_reducible assumption); (case iH => with_reducible assumption); (case iS => with_reducible assumption); (case zv => with_reducible assumption); (case zs => with_reducible assumption); (case hb => with_reducible assumption); (case hR => with_reducible assumption)); intro h' tk' tq' vs' hs' ss' n0' n1' n2' F' N' iV' iH' iS' lV'; (try k_sweep)))
local macro_rules | `(tactic| walk_at "compareOp NotEq str str") => `(tactic| with_reducible refine Mine.ne_sameS ?_)
local macro_rules | `(tactic| walk_at "compareOp NotEq ref ref") => `(tactic| (k_here; (with_reducible show wpAny _ _ (compareOp CmpOp.NotEq (Value.ref _) (Value.ref _)) _ _ _); k_dflt (refine' Mine.ne_sameL ?N ?m1 ?i1 ?m2 ?i2 ?u ?_; (case N => k_asm); (case m1 => k_mem); (case i1 => with_reducible assumption); (case m2 => k_mem); (case i2 => with_reducible assumption); (case u => units_room); k_whole)))
local macro_rules | `(tactic| walk_at "eval ListComp") => `(tactic| ((with_reducible show wpAny _ _ (eval (Expr.ListComp _ _ _ { line := 74, col := _, endLine := _, endCol := _ }) _) _ _ _); refine Mine.Stop.of ?_))
local macro_rules | `(tactic| walk_at "subscriptTail Name Name ref int") => `(tactic| (k_here; (with_reducible show wpAny _ _ (subscriptTail _ _ (Value.ref _) (Value.int _ _)) _ _ _); k_dflt (refine' Mine.get_b ?N ?m ?i ?b ?z ?_ ?k; (case N => k_asm); (case m => k_mem); (case i => with_reducible assumption); (case b => with_reducible assumption); (case z => with_reducible assumption); (case k => with_unfolding_all rfl); k_whole); intro _))
local macro_rules | `(tactic| walk_at "compareOp Eq ref ref") => `(tactic| (k_here; (with_reducible show wpAny _ _ (compareOp CmpOp.Eq (Value.ref _) (Value.ref _)) _ _ _); k_dflt (refine' Mine.eq_sameL ?N ?m1 ?i1 ?m2 ?i2 ?u ?_; (case N => k_asm); (case m1 => k_mem); (case i1 => with_reducible assumption); (case m2 => k_mem); (case i2 => with_reducible assumption); (case u => units_room); k_whole)))
set_option maxRecDepth 100000 in
set_option maxHeartbeats 8000000 in
theorem law_ok : PySem.Challenge.rw_bm0019_01.Holds := by
  w_top off
  refine Mine.hd ?_
  k_go0
  (all_goals try k_fold)
  k_steps
  unfold Mine.Stop
  refine PyProof.Rows.LCg.CompSrc.range (by rfl) (by k_asm) (by k_asm) (by assumption) (range_small ?sm) (range_size _) ?hs ?_
  case sm => omega
  case hs => (rw [sizeLine_eq]; omega)
  intro g'
  dsimp only
  refine cameC ?fin ?turn
  case turn =>
    intro i ys nw hi hg v I oI C oC D m₂ h tk E' hv hoC hm F N off hIC hID hCD
    obtain ⟨tv, rfl⟩ := hv
    k_steps
    rename I < _ ∧ _ => l1
    exact turn_came (by k_asm) (by k_asm) l1 off hg
  case fin =>
    intro ys nw hg D h tk F N off
    obtain ⟨tl, rfl, hoff, hT⟩ := hg
    have N2 := relist N
    have hoff2 := reoff off hoff
    have hne2 := offA (base_ne off)
    simp only [List.cons_append, List.nil_append] at N2
    simp only [List.map_cons, List.map_nil] at hoff2
    dsimp only [OffA] at hne2
    obtain ⟨e1, e2, e3, e4, e5, e6, e7, e8, _⟩ := hne2
    clear N off hoff
    dsimp only
    k_steps
    unfold Mine.Stop
    rename _ < _ ∧ _ => lS
    obtain ⟨s1, s2, s3, s4, s5, s6, s7, s8, s9, s10, s11, sA⟩ := lS
    rename _ < _ ∧ _ => lG
    obtain ⟨g1, g2, g3, g4, g5, g6, g7, g8, g9, g10, gA⟩ := lG
    refine mainR (Str.ofString "saved") [Str.ofString "deed", Str.ofString "place", Str.ofString "line", Str.ofString "due", Str.ofString "since", Str.ofString "k"] (hh := rfl) (hr := by assumption) (hsmall := ?hsmall) (hsz := rangeSize_nat _ _) (F := by k_asm) (N := by k_asm) ?hoff ?hlt hT (by assumption) (by assumption) ?h2 ?hm ?hI ?turn ?done
    case hsmall => exact range_small1 (by omega)
    case hoff => exact hoff_mk hoff2 gA sA
    case hlt => exact s1
    case h2 => exact ⟨_, by assumption⟩
    case hm => rfl
    case hI =>
      refine law_zero _ _ _ _ _ _ _ _ _ _ _ _ _ _ rfl ?_
      rw [Int.toNat_natCast, List.flatten_replicate_singleton]
    case turn =>
      intro i c t u h tk own tl2 hi htl hown hlt hT2 ok hI F N
      have hoff3 := off_own htl hown (by simp)
      have iV := ok.iV
      have iH := ok.iH
      have iS := ok.iS
      have iG := ok.iG
      have iW := ok.iW
      obtain ⟨v2, o2e⟩ := ok.o2
      have iL := hI.lc
      have iL2 := hI.lg
      have hT3 := pairs_mono (n' := tl2 ++ own) (fun p hp => List.mem_append_left _ hp) hT2
      unfold MLed at N
      generalize hrest : tl2 ++ own = rest at N hoff3 hT3
      have hsv : c.sv.length ≤ 63 := (by have e1 := IntsAre.len iW; have e2 := hI.sl; omega)
      have hH : Mine.Halt := trivial
      k_steps
      unfold Mine.Stop
      refine join_int (by k_asm) (by k_asm) ?w1 ?w2
      case w1 =>
        k_steps
        all_goals exact JV.intro (by k_asm) (by k_asm)
      case w2 =>
        intro val tv h5 tk5 F5 N5
        k_steps
        unfold Mine.Stop
        rename List.Perm _ _ => hp5
        rename List.Pairwise _ _ => hs5
        have hk5 := ks_bound hp5
        refine LCt.CompSrcT.ledger (by rfl) (by k_asm) (by k_asm) (.head _) ?sz ?_
        case sz => exact sz_of (by with_reducible assumption) hp5 (by rw [iL2]; exact List.length_take_le ..)
        intro g6
        dsimp only
        refine lineT (fun kv => ((wOf hI).getD kv.toNat 0 == val)) (.head _) (by assumption) ?lfin ?lturn ?lturn2
        case lturn =>
          intro kv tv6 I6 oI6 C6 oC6 D6 ys6 nw6 m6 h6 tk6 Qb Eb hkv hb6 hN6 hm6 F6 N6 hQb
          have hup : ∀ q ∈ _, q ∈ (I6, oI6) :: (C6, oC6) :: (D6, PyProof.Rows.LCg.lst ys6) :: nw6 := fun q hq => .tail _ (.tail _ (.tail _ (hb6 q hq)))
          have hkb := hk5 kv hkv
          k_steps
          exact hQb _
        case lturn2 =>
          intro kv tv6 I6 oI6 C6 oC6 D6 ys6 nw6 m6 h6 tk6 Q6 E6 hN6 hm6 F6 N6 hQ6
          k_steps
          exact hQ6
        case lfin =>
          intro ys6 nw6 hb6 iL6 D6 h6 tk6 F6 N6 off6
          obtain ⟨d1, d2, d3, d4⟩ := line_ne off6 hb6
          have N7 := line_led N6 hb6
          clear N6 off6 hb6
          generalize hline : List.filter (fun kv : Int => ((wOf hI).getD kv.toNat 0 == val)) (List.map (fun p : Int × Int × Int => p.2.2) _) = line at iL6
          have hl0 := line_head hline hk5
          have hH : Mine.Halt := trivial
          k_steps
          unfold Mine.Stop
          refine join_if (t := 1 + (i : Int)) (N := by k_asm) (F := by k_asm) (hd := rfl) hT3 iV iH iS iG iW iL6 ?p1 ?p2
          case p2 =>
            intro h8 tk8 gs8 sv8 ng8 ns8 SV8 td8 ts8 F8 N8 iG8 iW8 hlt8 hnew8
            generalize hgone8 : lGone _ _ _ _ = gone8 at iG8
            generalize hsaved8 : lSaved _ _ _ = saved8 at iW8
            generalize hsince8 : lSince _ _ _ = since8 at F8
            generalize hdue8 : lDue _ _ _ = due8 at F8
            have hgl : gone8.length = c.gone.length := hgone8 ▸ lGone_len
            have hg9 : c.gone.length ≤ 9 := (by rw [iL2]; exact List.length_take_le ..)
            k_steps
            unfold Mine.Stop
            rename IsRange _ _ _ _ _ _ _ _ => hr9
            rw [← iL2, ← hgl] at hr9
            refine' innerR (sub := tl2) (x := Str.ofString "k") (t := 1 + (i : Int)) (since := since8) (came := c.came) (gone := gone8) rfl hr9 ?hz ?hcl ?F ?N ?hoff ?hT iG8 ?turn9 ?done9
            case F => k_asm
            case N => k_asm
            case hz => omega
            case hcl => (rw [hgl, iL, iL2])
            case hT => exact hT2
            case hoff =>
              iterate 9 (refine offC2 ?_ ?_ ?_; (first | exact Apart.ne (by assumption) | exact Apart.en (by assumption) | omega); (first | exact Apart.ne (by assumption) | exact Apart.en (by assumption) | omega))
              exact OwnOff.sub hoff3 (by simp)
            case turn9 =>
              intro i9 cs9 came9 gs9 gone9 nc9 ng9 k9 h9 tk9 own9 tl9 rest9 hi9 lc9 lg9 hr9 hof9 otl9 oow9 hT9 iG9 S9 F9 N9
              have b1 : i9 < gone9.length := by omega
              have b2 : gone9.length ≤ 9 := by omega
              have lt9 := All2.length hT9
              have b3 : i9 < cs9.length := by omega
              have b4 : cs9.length ≤ 9 := by omega
              k_steps
              · refine' inner_new (x := Str.ofString "k") (ta := _) (tb := _) hr9 otl9 oow9 ?hT ?iG S9 hi9 ?hcl ?hle ?l1 ?F ?N ?hm
                case F => k_asm
                case N => k_asm
                case iG => with_reducible assumption
                case hcl => (rw [hgl, iL, iL2])
                case hle => with_reducible assumption
                case l1 => with_reducible assumption
                case hT => (refine All2.set (pairs_mono (fun p hp => .tail _ hp) hT9) ?_ _; exact ⟨_, _, _, rfl, .head _⟩)
                case hm => exact fun z hz => if_neg hz
              · refine' inner_keep (x := Str.ofString "k") hr9 otl9 oow9 hT9 iG9 S9 ?hle ?F ?N ?hm
                case F => k_asm
                case N => k_asm
                case hle => with_reducible assumption
                case hm => exact fun z hz => if_neg hz
            case done9 =>
              intro cs9 came9 gs9 gone9 nc9 ng9 tl9 u9 h9 tk9 otl9 hT9 iG9 S9 F9 N9
              have N10 := reled N9
              have hoff10 := OwnOff.app (off_tl otl9) (off_new hoff3 hnew8)
              have hT10 := pairs_mono (n' := tl9 ++ rest) (fun p hp => (List.mem_append.mp hp).elim (fun h => List.mem_append_left _ h) fun h => List.mem_append_right _ (by rw [← hrest]; exact List.mem_append_left _ h)) hT9
              clear N9
              generalize hrest9 : tl9 ++ rest = rest9 at N10 hoff10 hT10
              have hzv : c.V.length + c.Hd.length ≤ 20 := (by rw [hI.vz, ← iL2]; omega)
              have hzs : c.St.length ≤ 100 := Nat.le_trans hI.sz (by omega)
              have hbb := hI.hb
              have hdr := turn_res hI hp5 hs5 hline hdue8
              have hI9 := turn_law hI hp5 hs5 hline hgone8 hsaved8 hsince8 S9
              have hof8 := off_new hoff3 hnew8
              have hof9 := off_tl otl9
              have ho49 := off_tl2 (own := own) (tl2 := tl2) (by rw [hrest]; exact otl9)
              have ho39 := off_own2 hown
              have hO : DeedOk _ _ _ _ _ := DeedOk.of N10 ?q1 ?q2
              case q1 => exact ⟨by omega, by omega, by omega, by omega, by omega, by omega⟩
              case q2 =>
                iterate 7 (refine offC4 ?_ ?_; · (refine ⟨⟨?_, ?_⟩, ?_, ?_⟩ <;> (first | exact Apart.ne (by assumption) | exact Apart.en (by assumption) | omega)))
                exact OwnOff.sub hoff10 (by simp)
              have hcg : came9.length = gone9.length := (by have q1 := S9.lc; have q2 := S9.lg; omega)
              have hg10 : gone9.length ≤ 9 := (by have q2 := S9.lg; omega)
              have hgw : gone9.length = (wOf hI).length := S9.lg.trans (hgl.trans iL2)
              k_steps
              unfold Mine.Stop
              refine LCg.ListComp_U (F₀ := by k_asm) (by with_unfolding_all rfl) (by decide) (by rfl) (by decide) (by rfl) ?_
              lcg_toSrc
              unfold Mine.Stop
              rename List.Perm _ _ => hp10
              rename List.Pairwise _ _ => hs10
              have hk10 := ks_bound hp10
              refine LCg.CompSrc.ledger (by rfl) (by k_asm) (by k_asm) (.head _) ?sz10 ?_
              case sz10 => exact sz_of (by with_reducible assumption) hp10 hg10
              intro g10
              dsimp only
              refine firstC (fun kv => (wOf hI).getD kv.toNat 0) (.head _) (by assumption) ?ffin ?fturn
              case fturn =>
                intro kv tv6 I6 oI6 C6 oC6 D6' ys6 nw6 m6 h6 tk6 Qb Eb hkv hb6 hN6 hm6 F6 N6 hQb
                have hup : ∀ q ∈ _, q ∈ (I6, oI6) :: (C6, oC6) :: (D6', PyProof.Rows.LCg.lst ys6) :: nw6 := fun q hq => .tail _ (.tail _ (.tail _ (hb6 q hq)))
                have hkb : 0 ≤ kv ∧ kv < ((wOf hI).length : Int) := ⟨(hk10 kv hkv).1, by rw [← hgw]; exact (hk10 kv hkv).2⟩
                have hw9 : (wOf hI).length ≤ 9 := hgw ▸ hg10
                k_steps
                exact hQb _ _
              case ffin =>
                intro ys7 nw7 hb7 iL7 D7 h7 tk7 F7 N7 off7
                have N11 := line_led N7 hb7
                clear N7 off7 hb7
                rw [shown_val (hI9 [] [] [] 0 0 0 [] 0 [] 0 0 [] 0 c.o2) hp10 hs10] at iL7
                k_steps
                refine' main_end2 (own := own) (tl := tl2) (tl2 := tl9) ?F ?N ?hk ?mD ?mdd ?mH ?mS ?mCA ?mGO ?mSV ?m2 ?m1 ?mFI ?mHA ?mr ?o1 hof9 ho39 ho49 hlt8 hT9 ?iV ?iH ?iS ?iG ?iW ?i2 ?hI ?hr
                case F => k_asm
                case N => k_asm
                case hk => rfl
                case mD => walk_at "mine_mem"
                case mdd => walk_at "mine_mem"
                case mH => walk_at "mine_mem"
                case mS => walk_at "mine_mem"
                case mCA => walk_at "mine_mem"
                case mGO => walk_at "mine_mem"
                case mSV => walk_at "mine_mem"
                case m2 => walk_at "mine_mem"
                case m1 => walk_at "mine_mem"
                case mFI => walk_at "mine_mem"
                case mHA => walk_at "mine_mem"
                case mr => (rw [hrest, hrest9]; walk_at "mine_sub")
                case o1 => (rw [hrest]; exact hof8)
                case iV => with_reducible assumption
                case iH => with_reducible assumption
                case iS => with_reducible assumption
                case iG => with_reducible assumption
                case iW => with_reducible assumption
                case i2 => exact ⟨_, by assumption⟩
                case hI => exact hI9 _ _ _ _ _ _ _ _ _ _ _ _ _ _
                case hr =>
                  intro z h1 h2 h3
                  have q := stored_ne h3
                  have nk : z ≠ Str.ofString "k" := q _ (by walk_at "mine_mem")
                  have n1 : z ≠ Str.ofString "due" := q _ (by walk_at "mine_mem")
                  have n2 : z ≠ Str.ofString "since" := q _ (by walk_at "mine_mem")
                  have n3 : z ≠ Str.ofString "line" := q _ (by walk_at "mine_mem")
                  have n4 : z ≠ Str.ofString "deed" := q _ (List.Mem.head _)
                  have n5 : z ≠ Str.ofString "place" := q _ (by walk_at "mine_mem")
                  refine Eq.trans (if_neg nk) ?_
                  refine Eq.trans (if_neg n1) ?_
                  refine Eq.trans (if_neg n2) ?_
                  refine Eq.trans (if_neg h2) ?_
                  refine Eq.trans (if_neg n2) ?_
                  refine Eq.trans (if_neg n1) ?_
                  refine Eq.trans (if_neg n3) ?_
                  refine Eq.trans (if_neg n4) ?_
                  refine Eq.trans (if_neg n5) ?_
                  refine Eq.trans (if_neg h1) ?_
                  exact kst_inner h2 h3
          k_steps
          · refine' JIf.way (way1 ‹_ < (2 : Int)›) ?F ?N ?ed ?es ?ev ?eo ?mD ?mdd ?mH ?mS ?mCA ?mGO ?mSV ?m2 ?m1 ?mFI ?mHA ?mr ?ig ?iw ?hlt ?hnew
            case F => k_asm
            case N => k_asm
            case ed => rfl
            case es => rfl
            case ev => rfl
            case mD => walk_at "mine_mem"
            case mdd => walk_at "mine_mem"
            case mH => walk_at "mine_mem"
            case mS => walk_at "mine_mem"
            case mCA => walk_at "mine_mem"
            case mGO => walk_at "mine_mem"
            case m2 => walk_at "mine_mem"
            case m1 => walk_at "mine_mem"
            case mFI => walk_at "mine_mem"
            case mHA => walk_at "mine_mem"
            case mr => walk_at "mine_sub"
            case ig => with_reducible assumption
            case iw => (first | with_reducible assumption | exact IntsAre.nil)
            case mSV => (first | walk_at "mine_mem" | exact List.Mem.head _)
            case hlt => (first | with_reducible assumption | (rename _ < _ ∧ _ => lz; obtain ⟨_, _, _, _, _, _, _, q8, _, _, _, _, _, qA⟩ := lz; exact q8))
            case hnew => (first | exact .inl rfl | (rename _ < _ ∧ _ => lz; obtain ⟨_, _, _, _, _, _, _, q8, _, _, _, _, _, qA⟩ := lz; exact .inr qA))
            case eo => exact fun _ _ _ _ => rfl
          · refine' JIf.way (way2 ‹¬ _ < (2 : Int)› ‹_ < (4 : Int)› ‹decide (_ = []) = true›) ?F ?N ?ed ?es ?ev ?eo ?mD ?mdd ?mH ?mS ?mCA ?mGO ?mSV ?m2 ?m1 ?mFI ?mHA ?mr ?ig ?iw ?hlt ?hnew
            case F => k_asm
            case N => k_asm
            case ed => rfl
            case es => rfl
            case ev => rfl
            case mD => walk_at "mine_mem"
            case mdd => walk_at "mine_mem"
            case mH => walk_at "mine_mem"
            case mS => walk_at "mine_mem"
            case mCA => walk_at "mine_mem"
            case mGO => walk_at "mine_mem"
            case m2 => walk_at "mine_mem"
            case m1 => walk_at "mine_mem"
            case mFI => walk_at "mine_mem"
            case mHA => walk_at "mine_mem"
            case mr => walk_at "mine_sub"
            case ig => with_reducible assumption
            case iw => (first | with_reducible assumption | exact IntsAre.nil)
            case mSV => (first | walk_at "mine_mem" | exact List.Mem.head _)
            case hlt => (first | with_reducible assumption | (rename _ < _ ∧ _ => lz; obtain ⟨_, _, _, _, _, _, _, q8, _, _, _, _, _, qA⟩ := lz; exact q8))
            case hnew => (first | exact .inl rfl | (rename _ < _ ∧ _ => lz; obtain ⟨_, _, _, _, _, _, _, q8, _, _, _, _, _, qA⟩ := lz; exact .inr qA))
            case eo => (intro z h1 h2 h3; (try dsimp only); refine Eq.trans (if_neg h1) ?_; rfl)
          · refine' JIf.way (way3 ‹¬ _ < (2 : Int)› ‹_ < (4 : Int)› ‹decide (_ = []) = false›) ?F ?N ?ed ?es ?ev ?eo ?mD ?mdd ?mH ?mS ?mCA ?mGO ?mSV ?m2 ?m1 ?mFI ?mHA ?mr ?ig ?iw ?hlt ?hnew
            case F => k_asm
            case N => k_asm
            case ed => rfl
            case es => rfl
            case ev => rfl
            case mD => walk_at "mine_mem"
            case mdd => walk_at "mine_mem"
            case mH => walk_at "mine_mem"
            case mS => walk_at "mine_mem"
            case mCA => walk_at "mine_mem"
            case mGO => walk_at "mine_mem"
            case m2 => walk_at "mine_mem"
            case m1 => walk_at "mine_mem"
            case mFI => walk_at "mine_mem"
            case mHA => walk_at "mine_mem"
            case mr => walk_at "mine_sub"
            case ig => with_reducible assumption
            case iw => (first | with_reducible assumption | exact IntsAre.nil)
            case mSV => (first | walk_at "mine_mem" | exact List.Mem.head _)
            case hlt => (first | with_reducible assumption | (rename _ < _ ∧ _ => lz; obtain ⟨_, _, _, _, _, _, _, q8, _, _, _, _, _, qA⟩ := lz; exact q8))
            case hnew => (first | exact .inl rfl | (rename _ < _ ∧ _ => lz; obtain ⟨_, _, _, _, _, _, _, q8, _, _, _, _, _, qA⟩ := lz; exact .inr qA))
            case eo => (intro z h1 h2 h3; (try dsimp only); refine Eq.trans (if_neg h2) ?_; rfl)
          · refine' JIf.way (way4 ‹¬ _ < (2 : Int)› ‹¬ _ < (4 : Int)› ‹_ = (4 : Int)›) ?F ?N ?ed ?es ?ev ?eo ?mD ?mdd ?mH ?mS ?mCA ?mGO ?mSV ?m2 ?m1 ?mFI ?mHA ?mr ?ig ?iw ?hlt ?hnew
            case F => k_asm
            case N => k_asm
            case ed => rfl
            case es => rfl
            case ev => rfl
            case mD => walk_at "mine_mem"
            case mdd => walk_at "mine_mem"
            case mH => walk_at "mine_mem"
            case mS => walk_at "mine_mem"
            case mCA => walk_at "mine_mem"
            case mGO => walk_at "mine_mem"
            case m2 => walk_at "mine_mem"
            case m1 => walk_at "mine_mem"
            case mFI => walk_at "mine_mem"
            case mHA => walk_at "mine_mem"
            case mr => walk_at "mine_sub"
            case ig => with_reducible assumption
            case iw => (first | with_reducible assumption | exact IntsAre.nil)
            case mSV => (first | walk_at "mine_mem" | exact List.Mem.head _)
            case hlt => (first | with_reducible assumption | (rename _ < _ ∧ _ => lz; obtain ⟨_, _, _, _, _, _, _, q8, _, _, _, _, _, qA⟩ := lz; exact q8))
            case hnew => (first | exact .inl rfl | (rename _ < _ ∧ _ => lz; obtain ⟨_, _, _, _, _, _, _, q8, _, _, _, _, _, qA⟩ := lz; exact .inr qA))
            case eo => (intro z h1 h2 h3; (try dsimp only); refine Eq.trans (if_neg h3) ?_; refine Eq.trans (if_neg h2) ?_; rfl)
          · refine' JIf.way (way5 ‹¬ _ < (2 : Int)› ‹¬ _ < (4 : Int)› ‹¬ _ = (4 : Int)› ‹decide (_ = []) = true›) ?F ?N ?ed ?es ?ev ?eo ?mD ?mdd ?mH ?mS ?mCA ?mGO ?mSV ?m2 ?m1 ?mFI ?mHA ?mr ?ig ?iw ?hlt ?hnew
            case F => k_asm
            case N => k_asm
            case ed => rfl
            case es => rfl
            case ev => rfl
            case mD => walk_at "mine_mem"
            case mdd => walk_at "mine_mem"
            case mH => walk_at "mine_mem"
            case mS => walk_at "mine_mem"
            case mCA => walk_at "mine_mem"
            case mGO => walk_at "mine_mem"
            case m2 => walk_at "mine_mem"
            case m1 => walk_at "mine_mem"
            case mFI => walk_at "mine_mem"
            case mHA => walk_at "mine_mem"
            case mr => walk_at "mine_sub"
            case ig => with_reducible assumption
            case iw => (first | with_reducible assumption | exact IntsAre.nil)
            case mSV => (first | walk_at "mine_mem" | exact List.Mem.head _)
            case hlt => (first | with_reducible assumption | (rename _ < _ ∧ _ => lz; obtain ⟨_, _, _, _, _, _, _, q8, _, _, _, _, _, qA⟩ := lz; exact q8))
            case hnew => (first | exact .inl rfl | (rename _ < _ ∧ _ => lz; obtain ⟨_, _, _, _, _, _, _, q8, _, _, _, _, _, qA⟩ := lz; exact .inr qA))
            case eo => (intro z h1 h2 h3; (try dsimp only); refine Eq.trans (if_neg h1) ?_; rfl)
          · refine' JIf.way (way6 ‹¬ _ < (2 : Int)› ‹¬ _ < (4 : Int)› ‹¬ _ = (4 : Int)› ‹decide (_ = []) = false›) ?F ?N ?ed ?es ?ev ?eo ?mD ?mdd ?mH ?mS ?mCA ?mGO ?mSV ?m2 ?m1 ?mFI ?mHA ?mr ?ig ?iw ?hlt ?hnew
            case F => k_asm
            case N => k_asm
            case ed => rfl
            case es => rfl
            case ev => rfl
            case mD => walk_at "mine_mem"
            case mdd => walk_at "mine_mem"
            case mH => walk_at "mine_mem"
            case mS => walk_at "mine_mem"
            case mCA => walk_at "mine_mem"
            case mGO => walk_at "mine_mem"
            case m2 => walk_at "mine_mem"
            case m1 => walk_at "mine_mem"
            case mFI => walk_at "mine_mem"
            case mHA => walk_at "mine_mem"
            case mr => walk_at "mine_sub"
            case ig => with_reducible assumption
            case iw => (first | with_reducible assumption | exact IntsAre.nil)
            case mSV => (first | walk_at "mine_mem" | exact List.Mem.head _)
            case hlt => (first | with_reducible assumption | (rename _ < _ ∧ _ => lz; obtain ⟨_, _, _, _, _, _, _, q8, _, _, _, _, _, qA⟩ := lz; exact q8))
            case hnew => (first | exact .inl rfl | (rename _ < _ ∧ _ => lz; obtain ⟨_, _, _, _, _, _, _, q8, _, _, _, _, _, qA⟩ := lz; exact .inr qA))
            case eo => exact fun _ _ _ _ => rfl
    case done =>
      intro c tl9 u9 h9 tk9 hI F9 N9
      unfold MLed at N9
      k_steps
end Mine
end
theorem PySem.Challenge.cw_bm0019_01_holds : PySem.Challenge.rw_bm0019_01.Holds := by
  exact Mine.law_ok
