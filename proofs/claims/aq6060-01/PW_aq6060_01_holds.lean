import PyProof.Rows.All
import Wide.All
import OpenK.AllK
import Wide.FinOn
import KE.KTryDeep
import Lean
import PySem.Challenge.RW_aq6060_01
open PySem PySem.W PySem.Calls PyProof.Rows Builtin Builtin.ObjectAttr
set_option Elab.async false
set_option linter.unusedVariables false
set_option linter.unusedSimpArgs false

section PA
set_option maxRecDepth 100000
set_option maxHeartbeats 4000000
namespace Mine

abbrev subObj (C dx : Addr) (vs : Array Value) (n : Nat) : Obj := { cls := .ref C, dict := some dx, data := .seq vs n }

theorem inst_sub {h : Heap} {x dx C : Addr} {vs : Array Value} {n : Nat} {od : Obj} (hx : h.get? x = some (subObj C dx vs n)) (hd : h.get? dx = some od) : InstAt h x (subObj C dx vs n) C (some od) := ⟨hx, rfl, rfl, hd⟩

/-! ## a class whose instances are lists -/
def makesL (K : Frag) (C : Addr) : Bool := match K.lookup C with
  | some ⟨_, _, .cls cd, sl⟩ => !cd.abstract && !cd.hasDel && (sl.toList[4]?).join == some (.builtin "list.__new__") && !cd.mro.isEmpty && cd.mro.contains (.ref C) && cd.mro.contains (.type "list") &&
      specialIn K (.ref C) "__call__" == some (some (.builtin "type.__call__")) && instIn K (.ref C) (.type "type") == some true
  | _ => false
structure MakesL (M : Model) (h : Heap) (C : Addr) : Prop where
  obj : ∃ oc od cd sl, h.get? C = some ⟨oc, od, .cls cd, sl⟩ ∧ cd.abstract = false ∧ cd.hasDel = false ∧ cd.mro.isEmpty = false
  made : Looks M h (Bind.madeBy (.ref C)) (some "list.__new__")
  base : Looks M h (Bind.staticBase (.ref C)) (.ref C)
  self : Looks M h (isSubtype (.ref C) (.ref C)) true
  top : Looks M h (isSubtype (.ref C) (.type "list")) true
  call : Looks M h (specialOf (.ref C) "__call__") (some (.builtin "type.__call__"))
  typ : Looks M h (isInstance (.ref C) (.type "type")) true
theorem makesL_of {K : Frag} {M : Model} {h : Heap} (X : K.In h) {C : Addr} (e : makesL K C = true) : MakesL M h C := by
  unfold makesL at e
  split at e
  · rename_i oc od cd sl ho
    simp only [Bool.and_eq_true, Bool.not_eq_true', beq_iff_eq] at e
    obtain ⟨⟨⟨⟨⟨⟨⟨e1, e2⟩, e3⟩, e4⟩, e5⟩, e6⟩, e7⟩, e8⟩ := e
    have hc : clsIn K C = some cd := by unfold clsIn; rw [ho]
    have hm : Looks M h (mroOf (.ref C)) cd.mro := (looks_clsIn X hc).andThen .now
    obtain ⟨c, l, hl⟩ : ∃ c l, cd.mro = c :: l := by cases q : cd.mro with | nil => rw [q] at e4; cases e4 | cons c l => exact ⟨c, l, rfl⟩
    have made : Looks M h (Bind.madeBy (.ref C)) (some "list.__new__") := by
      intro A Q E s k q
      unfold Bind.madeBy
      refine wpAny_bind (hm A _ E s k ?_)
      rw [hl, List.forIn_cons]
      refine wpAny_bind (wpAny_bind (wpAny_bind (wpAny_bind (wpAny_loadPart (k _ _ (X _ _ ho)) (wpAny_pure ?_)))))
      dsimp only
      rw [← Array.getElem?_toList, e3]
      exact wpAny_pure (wpAny_pure (wpAny_pure q))
    refine ⟨⟨oc, od, cd, sl, X _ _ ho, e1, e2, e4⟩, made, ?_, looks_mroIn X ?_, looks_mroIn X ?_, looks_specialIn X e7, looks_instIn X e8⟩
    · intro A Q E s k q
      unfold Bind.staticBase
      refine wpAny_bind (hm A _ E s k ?_)
      rw [hl, List.forIn_cons]
      exact wpAny_bind (wpAny_bind (wpAny_bind (made A _ E s k (wpAny_pure (wpAny_pure (wpAny_pure q))))))
    · unfold mroIn; rw [hc, Option.bind_some, if_neg (by rw [e4]; decide), e5]
    · unfold mroIn; rw [hc, Option.bind_some, if_neg (by rw [e4]; decide), e6]
  · cases e

theorem ln_kind : builtinKind "list.__new__" = some .builtinFn := by decide +kernel
theorem ln_split : splitId "list.__new__" = some ("list", "__new__") := by decide +kernel
theorem ln_args (a : Value) (rest : List Value) : argsOk "list.__new__" ⟨a :: rest, []⟩ := by unfold argsOk; kernel_rfl

section
variable {prog : Program} {w : World} {A : Around} {K : Frag} {C : Addr} {R : Result → Shared → Prop} {h : Heap} {g : Array GenState} {d : Drawn} {t : Nat} {os : OsState}
theorem new_L {rest : List Value} (Y : MakesL (model prog w) h C)
    (hq : R (.ok (.ret (.ref (h.objs.size + 1)))) ⟨(h.push emptyDict).push (subObj C h.objs.size #[] 0), g, d, t, os⟩) :
    codeAny (model prog w) A (.call (.builtin "list.__new__") ⟨.ref C :: rest, []⟩) R ⟨h, g, d, t, os⟩ := by
  obtain ⟨⟨oc, od, cd, sl, hC, e1, e2, e4⟩, made, base, self, top, call, typ⟩ := Y
  refine codeAny_call_builtin_code (Code.quiet_builtin _ (by decide +kernel)) ?_
  have ha := ln_args (.ref C) rest
  simp only [checkBuiltinCall, ln_kind, ln_split]
  have tyC : Looks (model prog w) h (isType (.ref C)) true := (Looks.ld (part := some headPart) hC).andThen .now
  repeat lk
  refine codeAny_builtin_stack F.entry_list_new rfl fun p st => ?_
  have hown := owner_list_new
  simp only [hown]
  have hC' := Heap.get?_push_of_some (subObj C (h.push emptyDict).objs.size.pred #[] 0) (Heap.get?_push_of_some emptyDict hC)
  have fin : ∀ A', wpAny (model prog w) A' (newDict >>= fun v => match v with
      | .ref d => newObj (.ref C) (.seq #[]) (some d) >>= ret
      | _ => unsupported "internal:list.__new__") (fun fin s' => match fin with | .done f => R (.ok f) s' | .again c' => c'.quiet = true ∧ codeAny (model prog w) A c' R s') (fun e s' => R (.error e) s') ⟨h, g, d, t, os⟩ := by
    intro A'
    unfold newDict
    refine wpAny_bind (wpAny_newObj_type ?_ (Nat.zero_le _))
    refine wpAny_bind ?_
    show wpAny _ _ (newObjAsIs _ _ _) _ _ _
    unfold newObjAsIs classHasDel
    refine wpAny_bind (wpAny_alloc (wpAny_bind (wpAny_bind (wpAny_load (Heap.get?_push_of_some _ (Heap.get?_push_of_some _ hC)) (wpAny_pure ?_)))))
    rw [e2]
    refine wpAny_pure (wpAny_pure ?_)
    show R _ _
    rw [Heap.size_push]
    exact hq
  repeat (first | exact fin _ | lk)

theorem makeL_core {rest : List Value} {fI : Addr} (Y : MakesL (model prog w) h C) (hi : Looks (model prog w) h (typeLookup (.ref C) "__init__") (some (.ref fI)))
    (hb : ∀ self, Looks (model prog w) h (bindSpecial (.ref fI) self) (.ref fI, [self]))
    (hq : codeAny (model prog w) (A.under (.builtin "type.__call__" ⟨.ref C :: rest, []⟩)) (.call (.ref fI) ⟨.ref (h.objs.size + 1) :: rest, []⟩) (InitBack (h.objs.size + 1) R) ⟨(h.push emptyDict).push (subObj C h.objs.size #[] 0), g, d, t, os⟩) :
    codeAny (model prog w) A (.call (.ref C) ⟨rest, []⟩) R ⟨h, g, d, t, os⟩ := by
  have Y' := Y
  obtain ⟨⟨oc, od, cd, sl, hC, e1, e2, e4⟩, made, base, self, top, call, typ⟩ := Y
  refine codeAny_of_tree ?_
  show wpAny _ _ (callAny (.ref C) _) _ _ _
  refine nd_load hC ?_
  show wpAny _ _ (callAny.viaDunder (.ref C) _) _ _ _
  unfold callAny.viaDunder
  refine wpAny_bind (call.at ?_)
  dsimp only
  rw [tc_bind]
  refine wpAny_bind (wpAny_pure (wpAny_bind (wpAny_pure ?_)))
  refine wpAny_pure (a := Fin.again (.call (.builtin "type.__call__") ⟨.ref C :: rest, []⟩)) (And.intro rfl ?_)
  refine codeAny_call_builtin_at (Code.quiet_builtin _ (by decide +kernel)) entry_typeCall (check_slot tc_kind tc_split typ (tc_args _ _ _) ?_)
  unfold Builtin.«type.__call__»
  have hm : Looks (model prog w) h (mroOf (.ref C)) cd.mro := ((Looks.ld (part := none) hC).andThen .now).andThen .now
  repeat (first | simp only [e4, Bool.false_eq_true, if_false] | with_reducible refine wpAny_call ?_ | lk)
  refine new_L Y' ?_
  have k : ∀ b o, h.get? b = some o → ((h.push emptyDict).push (subObj C h.objs.size #[] 0)).get? b = some o := fun b o e => Heap.get?_push_of_some _ (Heap.get?_push_of_some _ e)
  have hx : ((h.push emptyDict).push (subObj C h.objs.size #[] 0)).get? (h.objs.size + 1) = some (subObj C h.objs.size #[] 0) := by heap_get
  have t1 : Looks (model prog w) ((h.push emptyDict).push (subObj C h.objs.size #[] 0)) (typeOf (.ref (h.objs.size + 1))) (.ref C) := (Looks.ld hx).andThen .now
  have s1 := self.keeps k
  have i1 := hi.keeps k
  have b1 := (hb (.ref (h.objs.size + 1))).keeps k
  unfold isInstance callSpecial? specialOf
  repeat (first | with_reducible refine wpAny_call ?_ | lk)
  refine codeAny_mono hq fun r s' z => ?_
  rcases r with e | (v | _ | _ | _) <;> first | exact z | exact z.elim | skip
  obtain ⟨rfl, z⟩ := z
  exact wpAny_pure (wpAny_pure z)
end

section
variable {prog : Program} {w : World} {A : Around} {K : Frag} {C x : Addr} {s : Shared} {h₀ : Heap} {L : Addr} {m : Str → Option Value} {news : List (Addr × Obj)} {R : Result → Shared → Prop}
theorem makeL {rest : List Value} {fI : Addr} (F : Fr h₀ L s.heap m) (N : News h₀ L s.heap news) (X : K.In s.heap) (hm : makesL K C = true)
    (hi : findIn K (.ref C) "__init__" = some (some (.ref fI))) (hf : typeIn K (.ref fI) = some (.type "function"))
    (h : ∀ x dx h', Fr h₀ L h' m → News h₀ L h' ((x, subObj C dx #[] 0) :: (dx, dictOf [] 0) :: news) → s.heap.objs.size = dx → x = dx + 1 →
      codeAny (model prog w) (A.under (.builtin "type.__call__" ⟨.ref C :: rest, []⟩)) (.call (.ref fI) ⟨.ref x :: rest, []⟩) (InitBack x R) { s with heap := h' }) :
    codeAny (model prog w) A (.call (.ref C) ⟨rest, []⟩) R s := by
  obtain ⟨hh, g, d, t, os⟩ := s
  refine makeL_core (makesL_of X hm) (looks_findIn X hi) (fun self => bind_fn X self hf) (h _ hh.objs.size _ ((F.push _).push _) ?_ rfl rfl)
  have := (N.push F emptyDict).push (F.push _) (subObj C hh.objs.size #[] 0)
  rwa [Heap.size_push] at this
end

/-! ## a field of such an instance is stored -/
theorem refuse_list (self : Value) : refuseLoop self "__setattr__" [.type "list", .type "object"] = pure () := by kernel_rfl
def mroL (K : Frag) (C : Addr) : Bool := (clsIn K C).any fun cd => cd.mro == [.ref C, .type "list", .type "object"]

section
variable {prog : Program} {w : World} {A : Around} {E : Value → Shared → Prop} {K : Frag} {C x dx : Addr} {s : Shared} {h₀ : Heap} {L : Addr} {m : Str → Option Value} {news news' : List (Addr × Obj)} {R : Result → Shared → Prop}
theorem mroL_of (e : mroL K C = true) : ∃ cd, clsIn K C = some cd ∧ cd.mro = [.ref C, .type "list", .type "object"] := by
  obtain ⟨cd, hc, h⟩ := any_some e
  exact ⟨cd, hc, beq_iff_eq.mp h⟩
theorem mroL_in (e : mroL K C = true) : mroIn K C (.type "object") = some true := by
  obtain ⟨cd, hc, h⟩ := mroL_of e
  unfold mroIn; rw [hc, Option.bind_some, h]; rfl
theorem mroL_list (e : mroL K C = true) : mroIn K C (.type "list") = some true := by
  obtain ⟨cd, hc, h⟩ := mroL_of e
  unfold mroIn; rw [hc, Option.bind_some, h]; rfl

theorem setL_dict {ox : Obj} {es es' : List DictEntry} {n n' : Nat} {name : Str} {v : Value} {Q : Unit → Shared → Prop} (F : Fr h₀ L s.heap m) (X₀ : K.In h₀) (N : News h₀ L s.heap news) (I : InstAt s.heap x ox C (some (dictOf es n))) (hd : ox.dict = some dx)
    (hs : findIn K (.ref C) "__setattr__" = some (some (.builtin "object.__setattr__"))) (hp : mroL K C = true) (ht : takerIn K C name = some none) (hh : hasDictIn K C = true) (hl : (getL name es).isSome = true)
    (e : (putL name (PyData.keyHash w.params name) (.str name (s.toks + 1)) v es, putN name es n) = (es', n')) (U : Upd dx (dictOf es n) (dictOf es' n') news news') (hz : es'.length ≤ 1000)
    (h : ∀ h', Fr h₀ L h' m → News h₀ L h' news' → Q () { s with heap := h', toks := s.toks + 2 }) :
    wpAny (model prog w) A (setAttr (.ref x) name v) Q E s := by
  obtain ⟨pre, post, rfl, rfl, a, b⟩ := U.split
  obtain ⟨e1, e2⟩ := Prod.mk.inj e
  refine set_plain (X₀.keeps F.keep) I hs ?_
  obtain ⟨hh', g, d, tk, os⟩ := s
  dsimp only at F N I e ⊢
  have SF := PySem.F.store_object
  have X := X₀.keeps F.keep
  obtain ⟨cd, hc, ho⟩ := mroL_of hp
  have sub : Looks (model prog w) hh' (isInstance (.ref x) (.type "object")) true := I.type.andThen (looks_mroIn X (mroL_in hp))
  refine codeAny_call_builtin SF.slot.plain SF.entry (@check_slot (model prog w) _ _ ⟨hh', g, d, tk + 1, os⟩ "object.__setattr__" "object" "__setattr__" (.ref x) [.str name tk, v] [] _ SF.kind SF.split sub (SF.args (.ref x) (.str name tk) v) ?_)
  obtain ⟨attr, ha, hr⟩ := Option.bind_eq_some_iff.mp ht
  have hm : Looks (model prog w) hh' (mroOf (.ref C)) cd.mro := (looks_clsIn X hc).andThen .now
  have L3 : Looks (model prog w) hh' (storeTaker? attr) none := by
    cases attr with
    | none => exact .now
    | some a =>
      obtain ⟨b, hb, hbn⟩ := Option.map_eq_some_iff.mp hr
      refine (looks_takesIn X hb).andThen ?_
      cases b with
      | true => cases hbn
      | false => exact .now
  rw [osa_eq, refuse_eq]
  refine wpAny_bind (wpAny_bind (I.type.at (wpAny_bind (hm.at ?_))))
  rw [ho, refuseLoop_ref, refuse_list]
  refine wpAny_pure (wpAny_bind (I.type.at (wpAny_bind ((looks_findIn X ha).at (wpAny_bind (L3.at ?_))))))
  dsimp only
  obtain ⟨cd', hc', hd'⟩ := any_some hh
  rw [hc] at hc'
  obtain rfl := Option.some.inj hc'
  obtain ⟨U1, U2⟩ := news_upd (f := Obj.putName name (PyData.keyHash w.params name) (.str name (tk + 1)) v) F N a b (by rw [putName_dict, e1, e2]) rfl
  have D := (N (dx, dictOf es n) (by simp)).1
  have D' := (U2 (dx, dictOf es' n') (by simp)).1
  obtain ⟨hx, hcl, hn, -⟩ := I
  obtain ⟨oc, odi, oda, osl⟩ := ox
  dsimp only at hcl hd
  subst hcl hd
  refine wpAny_bind (wpAny_pure (wpAny_bind (wpAny_bind (wpAny_loadPart hx (wpAny_bind ((looks_clsIn X hc).at ?_))))))
  rw [hd']
  refine wpAny_pure (a := some dx) (wpAny_bind (wpAny_pure (wpAny_bind ?_)))
  unfold nsSet
  refine wpAny_bind (wpAny_bind (wpAny_askSetting (wpAny_pure (wpAny_bind (wpAny_mkText (wpAny_bind (wpAny_loadPart D ?_)))))))
  dsimp only
  have c : (!es.toArray.any (·.key.isStr name) && es.toArray.any (·.refKey)) = false := by
    unfold getL at hl
    simp only [List.any_toArray]
    split at hl
    · rename_i en he
      rw [List.any_eq_true.mpr ⟨en, List.mem_of_find?_eq_some he, List.find?_some he⟩]; rfl
    · split at hl
      · cases hl
      · rename_i z; rw [Bool.not_eq_true] at z; rw [z, Bool.and_false]
  rw [aRefKeyMayBeTheName_at, c]
  refine wpAny_updatePart D ?_
  refine wpAny_bind (wpAny_lookBehind D' (pastItsLine_dict (by rw [List.size_toArray, sizeLine_eq]; omega)) ?_)
  exact wpAny_pure (h _ U1 U2)
end
end Mine
end PA

section PB
set_option maxRecDepth 100000
set_option maxHeartbeats 4000000
namespace Mine

abbrev seqO (c : Value) (d : Option Addr) (vs : Array Value) (n : Nat) : Obj := ⟨c, d, .seq vs n, #[]⟩

section
variable {prog : Program} {w : World} {A : Around} {E : Value → Shared → Prop} {s : Shared} {h₀ : Heap} {L a : Addr} {m : Str → Option Value} {news : List (Addr × Obj)} {c : Value} {d : Option Addr} {vs : Array Value} {n : Nat}

theorem check_method {M : Model} {i owner nm : String} {self : Value} {rest : List Value} {Q : Unit → Shared → Prop}
    (hk : builtinKind i = some .method) (hs : splitId i = some (owner, nm)) (hi : Looks M s.heap (isInstance self (.type owner)) true) (ha : argsOk i ⟨self :: rest, []⟩) (q : Q () s) :
    wpAny M A (checkBuiltinCall i ⟨self :: rest, []⟩) Q E s := by
  simp only [checkBuiltinCall, hk, hs]
  refine wpAny_bind (hi.here ?_)
  simp only [Bool.not_true, Bool.false_eq_true, if_false]
  cases hsig : Manifest.signature? i with
  | none => exact wpAny_pure q
  | some sig =>
    simp only [argsOk, hsig] at ha
    have h2 : Bind.checkArgs i sig ⟨self :: rest, []⟩ = pure () := ha
    show wpAny M A (Bind.checkArgs i sig ⟨self :: rest, []⟩) Q E s
    rw [h2]; exact wpAny_pure q

/-- what a built-in's tree must end in -/
def Ends (prog : Program) (w : World) (A : Around) (Q E : Value → Shared → Prop) (fin : Fin) (s' : Shared) : Prop := match fin with
  | .done f => wants Q E (.ok f) s'
  | .again c => c.quiet = true ∧ codeAny (model prog w) A c (wants Q E) s'

theorem call_bi {id owner nm : String} {b : Builtin} {self : Value} {rest : List Value} {Q : Value → Shared → Prop} (hk : builtinKind id = some .method ∨ builtinKind id = some .slot) (hs : splitId id = some (owner, nm)) (hp : plainId id = true)
    (hb : entryFor table id = some b) (hi : Looks (model prog w) s.heap (isInstance self (.type owner)) true) (ha : argsOk id ⟨self :: rest, []⟩)
    (hc : wpAny (model prog w) A.in1 (b ⟨self :: rest, []⟩) (Ends prog w A Q E) E s) : wpAny (model prog w) A (call (.builtin id) (self :: rest)) Q E s := by
  refine wpAny_call (codeAny_call_builtin hp hb ?_)
  have hc' := wpAny_mono (Q' := fun fin s' => match fin with | .done f => wants Q E (.ok f) s' | .again c' => c'.quiet = true ∧ codeAny (model prog w) A c' (wants Q E) s') hc (fun fin s' z => by cases fin <;> exact z) fun _ _ z => z
  rcases hk with hk | hk
  · exact check_method hk hs hi ha hc'
  · exact check_slot hk hs hi ha hc'

/-- the list-like thing's items are turned -/
theorem upd_seq {vs' : Array Value} {f : Array Value → Array Value} {news' : Nat → List (Addr × Obj)} {Q : Unit → Shared → Prop} (F : Fr h₀ L s.heap m) (N : News h₀ L s.heap news) (U : ∀ k, Upd a (seqO c d vs n) (seqO c d vs' k) news (news' k)) (hf : f vs = vs')
    (h1 : vs.size ≤ sizeLine) (h2 : vs'.size ≤ sizeLine + 1) (h : ∀ k h', Fr h₀ L h' m → News h₀ L h' (news' k) → Q () { s with heap := h' }) : wpAny (model prog w) A (Builtin.List.listUpdate (.ref a) f) Q E s := by
  obtain ⟨pre, post, e1, e2, h3, h4⟩ := (U (if vs'.size == vs.size then n else n + 1)).split
  subst e1
  have ho := (N (a, seqO c d vs n) (by simp)).1
  refine listUpdate_at ho rfl ?_ h1 (by rw [hf]; exact h2)
  obtain ⟨U1, U2⟩ := news_upd (f := Obj.mapSeq f) (o' := seqO c d vs' (if vs'.size == vs.size then n else n + 1)) F N h3 h4 (by subst hf; rfl) rfl
  exact h _ _ U1 (by rw [e2]; exact U2)

theorem upd_get {o o' : Obj} {news' : List (Addr × Obj)} (N : News h₀ L s.heap news) (U : Upd a o o' news news') : s.heap.get? a = some o := by
  obtain ⟨pre, post, e1, e2, h3, h4⟩ := U.split
  subst e1
  exact (N (a, o) (by simp)).1

theorem l_append {v : Value} {news' : Nat → List (Addr × Obj)} {Q : Value → Shared → Prop} (F : Fr h₀ L s.heap m) (N : News h₀ L s.heap news) (hi : Looks (model prog w) s.heap (isInstance (.ref a) (.type "list")) true)
    (U : ∀ k, Upd a (seqO c d vs n) (seqO c d (vs.push v) k) news (news' k)) (hz : vs.size ≤ 1000)
    (h : ∀ k h', Fr h₀ L h' m → News h₀ L h' (news' k) → Q .none { s with heap := h' }) : wpAny (model prog w) A (call (.builtin "list.append") [.ref a, v]) Q E s := by
  refine call_bi (.inl (by decide +kernel)) (by decide +kernel : splitId "list.append" = some ("list", "append")) (by decide +kernel) PySem.F.entry_list_append hi (PySem.F.args_list_append_2 _ _) ?_
  unfold Builtin.«list.append»
  refine wpAny_bind (wpAny_pure (wpAny_bind (upd_seq F N U rfl (by rw [sizeLine_eq]; omega) (by rw [Array.size_push, sizeLine_eq]; omega) fun k h' F' N' => ?_)))
  exact wpAny_pure (h k h' F' N')

theorem l_reverse {news' : Nat → List (Addr × Obj)} {Q : Value → Shared → Prop} (F : Fr h₀ L s.heap m) (N : News h₀ L s.heap news) (hi : Looks (model prog w) s.heap (isInstance (.ref a) (.type "list")) true)
    (U : ∀ k, Upd a (seqO c d vs n) (seqO c d vs.reverse k) news (news' k)) (hz : vs.size ≤ 1000)
    (h : ∀ k h', Fr h₀ L h' m → News h₀ L h' (news' k) → Q .none { s with heap := h' }) : wpAny (model prog w) A (call (.builtin "list.reverse") [.ref a]) Q E s := by
  refine call_bi (.inl (by decide +kernel)) (by decide +kernel : splitId "list.reverse" = some ("list", "reverse")) (by decide +kernel) PySem.F.entry_list_reverse hi (by unfold argsOk; kernel_rfl) ?_
  unfold Builtin.«list.reverse»
  refine wpAny_bind (wpAny_pure (wpAny_bind (upd_seq F N U rfl (by rw [sizeLine_eq]; omega) (by rw [Array.size_reverse, sizeLine_eq]; omega) fun k h' F' N' => ?_)))
  exact wpAny_pure (h k h' F' N')

theorem l_insert {i : Int} {t : Tok} {v : Value} {news' : Nat → List (Addr × Obj)} {Q : Value → Shared → Prop} (F : Fr h₀ L s.heap m) (N : News h₀ L s.heap news) (hi : Looks (model prog w) s.heap (isInstance (.ref a) (.type "list")) true)
    (U : ∀ k, Upd a (seqO c d vs n) (seqO c d ((vs.extract 0 i.toNat).push v ++ vs.extract i.toNat vs.size) k) news (news' k)) (hz : vs.size ≤ 1000) (h0 : 0 ≤ i) (hn : i.toNat ≤ vs.size)
    (h : ∀ k h', Fr h₀ L h' m → News h₀ L h' (news' k) → Q .none { s with heap := h' }) : wpAny (model prog w) A (call (.builtin "list.insert") [.ref a, .int i t, v]) Q E s := by
  refine call_bi (.inl (by decide +kernel)) (by decide +kernel : splitId "list.insert" = some ("list", "insert")) (by decide +kernel) PySem.F.entry_list_insert hi (PySem.F.args_list_insert_3 _ _ _) ?_
  have hfit : Builtin.List.listFitsIndex i = true := by
    unfold Builtin.List.listFitsIndex
    simp only [Bool.and_eq_true, decide_eq_true_eq]
    omega
  have e : Builtin.«list.insert» ⟨[.ref a, .int i t, v], []⟩ = (do
      if !Builtin.List.listFitsIndex i then
        rule "list.insert.index-too-large"; raiseError "OverflowError" "Python int too large to convert to C ssize_t"
      Builtin.List.listUpdate (.ref a) fun xs =>
        let k := if i < 0 then (i + xs.size).toNat else min i.toNat xs.size
        (xs.extract 0 k).push v ++ xs.extract k xs.size
      ret .none) := by kernel_rfl
  rw [e, hfit]
  show wpAny _ _ (Builtin.List.listUpdate _ _ >>= fun _ => ret .none) _ _ _
  refine wpAny_bind (upd_seq F N U (by dsimp only; rw [if_neg (by omega), Nat.min_eq_left hn]) (by rw [sizeLine_eq]; omega) (by simp only [Array.size_append, Array.size_push, Array.size_extract, sizeLine_eq]; omega) fun k h' F' N' => ?_)
  exact wpAny_pure (h k h' F' N')
end
end Mine
end PB

section PC
set_option maxRecDepth 100000
set_option maxHeartbeats 4000000
namespace Mine

section
variable {prog : Program} {w : World} {A : Around} {E : Value → Shared → Prop} {s : Shared} {h₀ : Heap} {L a : Addr} {m : Str → Option Value} {news : List (Addr × Obj)} {c : Value} {d : Option Addr} {vs : Array Value} {n : Nat}

theorem fits_small {i : Int} (h0 : 0 ≤ i) (h1 : i ≤ 1000) : Builtin.List.listFitsIndex i = true := by
  unfold Builtin.List.listFitsIndex
  simp only [Bool.and_eq_true, decide_eq_true_eq]
  omega
theorem seqIdx {i : Int} {k : Nat} (h0 : 0 ≤ i) (h1 : i.toNat < k) : seqIndex? i k = some i.toNat := by
  unfold seqIndex?
  simp only [show ¬ i < 0 from by omega, if_false]
  rw [if_pos (by simp only [Bool.and_eq_true, decide_eq_true_eq]; omega)]
theorem size_erase_le (xs : Array Value) (i : Nat) : (xs.eraseIdxIfInBounds i).size ≤ xs.size := by
  unfold Array.eraseIdxIfInBounds
  split
  · rw [Array.size_eraseIdx]; omega
  · exact Nat.le_refl _

theorem l_pop {i : Int} {t : Tok} {v : Value} {news' : Nat → List (Addr × Obj)} {Q : Value → Shared → Prop} (F : Fr h₀ L s.heap m) (N : News h₀ L s.heap news) (hi : Looks (model prog w) s.heap (isInstance (.ref a) (.type "list")) true)
    (U : ∀ k, Upd a (seqO c d vs n) (seqO c d (vs.eraseIdxIfInBounds i.toNat) k) news (news' k)) (hz : vs.size ≤ 1000) (h0 : 0 ≤ i) (hv : vs[i.toNat]? = some v)
    (h : ∀ k h', Fr h₀ L h' m → News h₀ L h' (news' k) → Q v { s with heap := h' }) : wpAny (model prog w) A (call (.builtin "list.pop") [.ref a, .int i t]) Q E s := by
  have hn : i.toNat < vs.size := (Array.getElem?_eq_some_iff.mp hv).1
  refine call_bi (.inl (by decide +kernel)) (by decide +kernel : splitId "list.pop" = some ("list", "pop")) (by decide +kernel) PySem.F.entry_list_pop hi (PySem.F.args_list_pop_2 _ _) ?_
  have e : Builtin.«list.pop» ⟨[.ref a, .int i t], []⟩ = (do
      if !Builtin.List.listFitsIndex i then rule "list.pop.index-too-large"; raiseError "OverflowError" "Python int too large to convert to C ssize_t"
      let xs ← Builtin.List.listItems (.ref a)
      if xs.isEmpty then rule "list.pop.empty"; raiseError "IndexError" "pop from empty list"
      match (seqIndex? i xs.size).bind fun k => xs[k]?.map (k, ·) with
      | some (k, x) => Builtin.List.listUpdate (.ref a) (·.eraseIdxIfInBounds k); ret x
      | none => rule "list.pop.out-of-range"; raiseError "IndexError" "pop index out of range") := by kernel_rfl
  rw [e, fits_small h0 (by omega)]
  show wpAny _ _ (Builtin.List.listItems _ >>= _) _ _ _
  refine wpAny_bind (listItems_at (upd_get N (U 0)) rfl ?_)
  have hne : vs.isEmpty = false := by rw [Array.isEmpty_eq_false_iff]; intro q; rw [q] at hn; exact absurd hn (Nat.not_lt_zero _)
  simp only [hne, Bool.false_eq_true, if_false, seqIdx h0 hn, Option.bind_some, hv, Option.map_some]
  refine wpAny_bind (upd_seq F N U rfl (by rw [sizeLine_eq]; omega) (by have := size_erase_le vs i.toNat; rw [sizeLine_eq]; omega) fun k h' F' N' => ?_)
  exact wpAny_pure (h k h' F' N')

theorem l_delitem {i : Int} {t : Tok} {news' : Nat → List (Addr × Obj)} {Q : Value → Shared → Prop} (F : Fr h₀ L s.heap m) (N : News h₀ L s.heap news) (hi : Looks (model prog w) s.heap (isInstance (.ref a) (.type "list")) true)
    (U : ∀ k, Upd a (seqO c d vs n) (seqO c d (vs.eraseIdxIfInBounds i.toNat) k) news (news' k)) (hz : vs.size ≤ 1000) (h0 : 0 ≤ i) (hn : i.toNat < vs.size)
    (h : ∀ k h', Fr h₀ L h' m → News h₀ L h' (news' k) → Q .none { s with heap := h' }) : wpAny (model prog w) A (call (.builtin "list.__delitem__") [.ref a, .int i t]) Q E s := by
  refine call_bi (.inr (by decide +kernel)) (by decide +kernel : splitId "list.__delitem__" = some ("list", "__delitem__")) (by decide +kernel) PySem.F.entry_list_delitem hi (by unfold argsOk; kernel_rfl) ?_
  unfold Builtin.«list.__delitem__»
  refine wpAny_bind (wpAny_pure ?_)
  dsimp only
  refine wpAny_bind (wpAny_listSubscript_int (fits_small h0 (by omega)) ?_)
  refine wpAny_bind (listItems_at (upd_get N (U 0)) rfl ?_)
  simp only [seqIdx h0 hn]
  refine wpAny_bind (upd_seq F N U rfl (by rw [sizeLine_eq]; omega) (by have := size_erase_le vs i.toNat; rw [sizeLine_eq]; omega) fun k h' F' N' => ?_)
  exact wpAny_pure (h k h' F' N')

theorem l_extend {b : Addr} {us : Array Value} {k₁ : Nat} {news' : Nat → List (Addr × Obj)} {Q : Value → Shared → Prop} (F : Fr h₀ L s.heap m) (N : News h₀ L s.heap news) (hi : Looks (model prog w) s.heap (isInstance (.ref a) (.type "list")) true)
    (hb : (b, listOf us k₁) ∈ news) (U : ∀ k, Upd a (seqO c d vs n) (seqO c d (vs ++ us) k) news (news' k)) (hz : vs.size + us.size ≤ 1000)
    (h : ∀ k h', Fr h₀ L h' m → News h₀ L h' (news' k) → Q .none { s with heap := h' }) : wpAny (model prog w) A (call (.builtin "list.extend") [.ref a, .ref b]) Q E s := by
  refine call_bi (.inl (by decide +kernel)) (by decide +kernel : splitId "list.extend" = some ("list", "extend")) (by decide +kernel) PySem.F.entry_list_extend hi (by unfold argsOk; kernel_rfl) ?_
  unfold Builtin.«list.extend»
  refine wpAny_bind (wpAny_pure ?_)
  unfold Builtin.List.listExtendWith
  have ho := (N _ hb).1
  refine wpAny_bind (wpAny_typeOf (T := "list") ⟨_, ho, rfl⟩ ?_)
  rw [if_pos (by simp)]
  refine wpAny_bind (listItems_at ho rfl (wpAny_bind (listItems_at (upd_get N (U 0)) rfl ?_)))
  have hl : Builtin.List.listTooLong (vs.size + us.size) = false := by
    unfold Builtin.List.listTooLong; rw [sizeLine_eq]; simp only [decide_eq_false_iff_not]; omega
  simp only [hl, Bool.and_false, Bool.false_eq_true, if_false]
  refine wpAny_bind (upd_seq F N U rfl (by rw [sizeLine_eq]; omega) (by rw [Array.size_append, sizeLine_eq]; omega) fun k h' F' N' => ?_)
  exact wpAny_pure (h k h' F' N')
end
end Mine
end PC

section PD
set_option maxRecDepth 100000
set_option maxHeartbeats 4000000
namespace Mine

section
variable {prog : Program} {w : World} {A : Around} {E : Value → Shared → Prop} {s : Shared} {h₀ : Heap} {L a : Addr} {m : Str → Option Value} {news : List (Addr × Obj)} {c : Value} {d : Option Addr} {vs : Array Value} {n : Nat}

theorem push_news {h : Heap} (F : Fr h₀ L h m) (N : News h₀ L h news) (o : Obj) : Fr h₀ L (h.push o) m ∧ News h₀ L (h.push o) news :=
  ⟨F.push o, fun p hp => ⟨Heap.get?_push_of_some _ (N p hp).1, (N p hp).2⟩⟩

/-- the items of an int list sorted, the list being anything whose data are a sequence -/
theorem l_sort {ns : List Int} {g : Obj → List (Addr × Obj)} {Q : Value → Shared → Prop} (F : Fr h₀ L s.heap m) (N : News h₀ L s.heap news) (hi : Looks (model prog w) s.heap (isInstance (.ref a) (.type "list")) true)
    (U : UpdF a (seqO c d vs n) news g) (hI : IntsAre vs.toList ns) (h64 : vs.size < 64)
    (h : ∀ out ns' k h', IntsAre out.toList ns' → ns'.Perm ns → ns'.Pairwise (· ≤ ·) → Fr h₀ L h' m → News h₀ L h' (g (seqO c d out k)) → Q .none { s with heap := h' }) :
    wpAny (model prog w) A (call (.builtin "list.sort") [.ref a]) Q E s := by
  refine call_bi (.inl (by decide +kernel)) (by decide +kernel : splitId "list.sort" = some ("list", "sort")) (by decide +kernel) PyProof.Rows.entry_list_sort hi (PyProof.Rows.args_list_sort _) ?_
  obtain ⟨l⟩ := vs
  dsimp only at hI
  rw [list_sort_plain]
  obtain ⟨pre, post, e1, e2, h1, h2⟩ := U.split
  rw [e1] at N
  have ho := (N (a, seqO c d l.toArray n) (by simp)).1
  have hsz : l.toArray.size = l.length := by simp
  have h64' : l.length < 64 := h64
  refine wpAny_bind (listItems_at ho rfl ?_)
  refine wpAny_bind (listUpdate_at ho rfl ?_ (by rw [hsz, sizeLine_eq]; omega) (Nat.zero_le _))
  obtain ⟨F1, N1⟩ := news_upd (f := Obj.mapSeq fun _ => (#[] : Array Value)) (o' := seqO c d #[] (if (#[] : Array Value).size == l.toArray.size then n else n + 1)) F N h1 h2 rfl rfl
  generalize (if (#[] : Array Value).size == l.toArray.size then n else n + 1) = k1 at F1 N1
  have ho1 := (N1 (a, seqO c d #[] k1) (by simp)).1
  refine wpAny_bind (seqEpoch_at ho1 rfl ?_)
  refine wpAny_bind (wpAny_newTuple ?_ (by rw [sizeLine_eq]; show l.length ≤ _; omega))
  refine wpAny_bind (wpAny_newList ?_ (Nat.zero_le _))
  refine wpAny_holding ?_
  obtain ⟨F2, N2⟩ := push_news F1 N1 (seqObj "tuple" l.toArray 0)
  obtain ⟨F3, N3⟩ := push_news F2 N2 (seqObj "list" #[] 0)
  have ho6 := (N3 (a, seqO c d #[] k1) (by simp)).1
  have fin : ∀ st' : SortSt, (arrOf st').Perm (pairsOf l) → SortedTo (arrOf st') (pairsOf l).size →
      Ends prog w A Q E (.done (.ret .none)) { s with heap := (((s.heap.update a (Obj.mapSeq fun _ => (#[] : Array Value))).push (seqObj "tuple" l.toArray 0)).push (seqObj "list" #[] 0)).update a (Obj.mapSeq fun _ => (arrOf st').map (·.2)) } := by
    intro st' hp hs
    obtain ⟨ns', q1, q2, q3⟩ := sorted_out hI hp hs
    obtain ⟨F4, N4⟩ := news_upd (f := Obj.mapSeq fun _ => (arrOf st').map (·.2)) (o' := seqO c d ((arrOf st').map (·.2)) (if ((arrOf st').map (·.2)).size == (#[] : Array Value).size then k1 else k1 + 1)) F3 N3 h1 h2 rfl rfl
    exact h _ ns' _ _ q1 q2 q3 F4 (by rw [e2]; exact N4)
  show wpAny (model prog w) _ _ _ E { s with heap := ((s.heap.update a (Obj.mapSeq fun _ => (#[] : Array Value))).push (seqObj "tuple" l.toArray 0)).push (seqObj "list" #[] 0) }
  dsimp only
  by_cases q2 : l.toArray.size < 2
  · rw [if_pos q2, if_pos q2]
    refine wpAny_bind (wpAny_pure ?_)
    rw [StateT.run_pure]
    refine wpAny_bind (wpAny_pure ?_)
    dsimp only
    refine wpAny_bind (seqEpoch_at ho6 rfl ?_)
    refine wpAny_bind (listUpdate_at ho6 rfl ?_ (Nat.zero_le _) (hsz2 := by rw [Array.size_map]; show (pairsOf l).size ≤ _; rw [pairsOf_size, sizeLine_eq]; omega))
    simp only [bne_self_eq_false, Bool.false_eq_true, if_false]
    refine wpAny_pure (fin (SortSt.mk' general' (l.toArray.zip l.toArray) #[] 7 none) (Array.Perm.refl _) ?_)
    intro i j hij hj
    have : i = j := by rw [pairsOf_size] at hj; omega
    subst this; exact Int.le_refl _
  · rw [if_neg q2, if_neg q2]
    obtain ⟨v₁, v₂, rest, rfl⟩ : ∃ v₁ v₂ rest, l = v₁ :: v₂ :: rest := by
      match l, hsz, q2 with
      | [], _, q2 => simp at q2
      | [_], _, q2 => simp at q2
      | v₁ :: v₂ :: rest, _, _ => exact ⟨v₁, v₂, rest, rfl⟩
    rw [keyKind_ints hI]
    refine wpAny_bind (wpAny_pure ?_)
    refine wpAny_bind (wpAny_mono (wpS_sortRuns (a₀ := pairsOf (v₁ :: v₂ :: rest)) (st := SortSt.mk' oneType' ((v₁ :: v₂ :: rest).toArray.zip (v₁ :: v₂ :: rest).toArray) #[] 7 none)
      (Q := fun _ st' => (arrOf st').Perm (pairsOf (v₁ :: v₂ :: rest)) ∧ failedOf st' = none ∧ SortedTo (arrOf st') (pairsOf (v₁ :: v₂ :: rest)).size)
      hI.intKeys ⟨Array.Perm.refl _, rfl, rfl, rfl⟩ (by rw [pairsOf_size]; simp) (by rw [pairsOf_size]; exact h64') fun st' a1 a2 a3 => ⟨a1, a2, a3⟩) ?_ fun _ _ e => e)
    rintro ⟨⟨⟩, st'⟩ s' ⟨rfl, hp, hf, hs⟩
    dsimp only
    refine wpAny_bind (seqEpoch_at ho6 rfl ?_)
    refine wpAny_bind (listUpdate_at ho6 rfl ?_ (Nat.zero_le _) (hsz2 := by refine Nat.le_trans (Nat.le_of_eq ((Array.size_map ..).trans (hp.size_eq.trans (pairsOf_size _)))) ?_; rw [sizeLine_eq]; omega))
    rw [hf]
    simp only [bne_self_eq_false, Bool.false_eq_true, if_false]
    exact wpAny_pure (fin st' hp hs)
end
end Mine
end PD

section PE
set_option maxRecDepth 100000
set_option maxHeartbeats 4000000
namespace Mine

/-! ## lists of ints, as values -/
def iv : Value → Option Int
  | .int i _ => some i
  | _ => none
theorem ia_iff : ∀ {vs : List Value} {ns : List Int}, IntsAre vs ns ↔ vs.map iv = ns.map some := by
  intro vs
  induction vs with
  | nil => intro ns; constructor
           · intro h; cases h; rfl
           · intro h; cases ns with
             | nil => exact .nil
             | cons => cases h
  | cons v r ih =>
    intro ns
    constructor
    · intro h; cases h with | cons n t h => simp only [List.map_cons, iv]; rw [ih.mp h]
    · intro h
      cases ns with
      | nil => cases h
      | cons n ns =>
        simp only [List.map_cons, List.cons.injEq] at h
        obtain ⟨h1, h2⟩ := h
        cases v with
        | int i t =>
          have := Option.some.inj h1
          subst this
          exact .cons _ _ (ih.mpr h2)
        | _ => exact absurd h1 (by simp [iv])
theorem ia_len {vs : List Value} {ns : List Int} (h : IntsAre vs ns) : vs.length = ns.length := by
  have := congrArg List.length (ia_iff.mp h); simpa using this
theorem ia_size {vs : Array Value} {ns : List Int} (h : IntsAre vs.toList ns) : vs.size = ns.length := by
  rw [← ia_len h]; simp
theorem ia_append {a b : List Value} {x y : List Int} (h : IntsAre a x) (k : IntsAre b y) : IntsAre (a ++ b) (x ++ y) := by
  rw [ia_iff] at *; simp [h, k]
theorem ia_take {a : List Value} {x : List Int} (h : IntsAre a x) (k : Nat) : IntsAre (a.take k) (x.take k) := by
  rw [ia_iff] at *; simp [List.map_take, h]
theorem ia_drop {a : List Value} {x : List Int} (h : IntsAre a x) (k : Nat) : IntsAre (a.drop k) (x.drop k) := by
  rw [ia_iff] at *; simp [List.map_drop, h]
theorem ia_reverse {a : List Value} {x : List Int} (h : IntsAre a x) : IntsAre a.reverse x.reverse := by
  rw [ia_iff] at *; simp [h]
theorem ia_one (i : Int) (t : Tok) : IntsAre [.int i t] [i] := .cons _ _ .nil
theorem ia_push {a : Array Value} {x : List Int} (h : IntsAre a.toList x) (i : Int) (t : Tok) : IntsAre (a.push (.int i t)).toList (x ++ [i]) := by
  rw [Array.toList_push]; exact ia_append h (ia_one i t)
theorem ia_erase {a : Array Value} {x : List Int} (h : IntsAre a.toList x) (k : Nat) : IntsAre (a.eraseIdxIfInBounds k).toList (x.eraseIdx k) := by
  unfold Array.eraseIdxIfInBounds
  split
  · rw [Array.toList_eraseIdx, List.eraseIdx_eq_take_drop_succ, List.eraseIdx_eq_take_drop_succ]
    exact ia_append (ia_take h _) (ia_drop h _)
  · rename_i q
    rw [List.eraseIdx_of_length_le (by rw [← ia_len h]; simpa using q)]
    exact h
theorem ia_insert {a : Array Value} {x : List Int} (h : IntsAre a.toList x) (k : Nat) (i : Int) (t : Tok) :
    IntsAre ((a.extract 0 k).push (.int i t) ++ a.extract k a.size).toList (x.take k ++ [i] ++ x.drop k) := by
  rw [Array.toList_append, Array.toList_push, Array.toList_extract, Array.toList_extract]
  refine ia_append (ia_append ?_ (ia_one i t)) ?_
  · simpa [List.extract_eq_take_drop] using ia_take h k
  · rw [List.extract_eq_take_drop, List.take_of_length_le (by simp)]
    exact ia_drop h k
theorem ia_get {a : Array Value} {x : List Int} (h : IntsAre a.toList x) {k : Nat} {i : Int} (hk : x[k]? = some i) : ∃ t, a[k]? = some (.int i t) := by
  have e := ia_iff.mp h
  have := congrArg (·[k]?) e
  simp only [List.getElem?_map, hk, Option.map_some, Array.getElem?_toList] at this
  cases q : a[k]? with
  | none => rw [q] at this; cases this
  | some v =>
    rw [q] at this
    simp only [Option.map_some, Option.some.injEq] at this
    cases v with
    | int j t => exact ⟨t, by rw [Option.some.inj this]⟩
    | _ => exact absurd this (by simp [iv])

section
variable {prog : Program} {w : World} {A : Around} {E : Value → Shared → Prop} {s : Shared} {h₀ : Heap} {L a : Addr} {m : Str → Option Value} {news : List (Addr × Obj)} {c : Value} {d : Option Addr} {vs : Array Value} {n : Nat}

theorem l_remove_loop {x : Int} {t : Tok} {ns : List Int} {j : Nat} {news' : Nat → List (Addr × Obj)} {Q : Value → Shared → Prop} (F : Fr h₀ L s.heap m) (N : News h₀ L s.heap news)
    (U : ∀ k, Upd a (seqO c d vs n) (seqO c d (vs.eraseIdxIfInBounds j) k) news (news' k)) (hz : vs.size ≤ 1000) (hI : IntsAre vs.toList ns) (hj : ns[j]? = some x) (hno : ∀ i, i < j → ns[i]? ≠ some x)
    (h : ∀ k h', Fr h₀ L h' m → News h₀ L h' (news' k) → Q .none { s with heap := h' }) : ∀ (k i : Nat), j - i = k → i ≤ j → codeAny (model prog w) A (.builtin "list.remove.loop" ⟨[.ref a, .int x t, rawInt i], []⟩) (wants Q E) s := by
  intro k
  induction k with
  | zero =>
    intro i e1 e2
    have : i = j := by omega
    subst this
    refine codeAny_builtin PySem.MeetsSeq.entry_remove_loop ?_
    rw [Around.under_plainId PySem.MeetsSeq.plain_remove_loop _]
    unfold Builtin.«list.remove.loop»
    obtain ⟨t', ht'⟩ := ia_get hI hj
    refine wpAny_bind (listItems_at (upd_get N (U 0)) rfl ?_)
    simp only [Int.toNat_natCast, ht']
    refine wpAny_bind (wpAny_eqBool_int ?_)
    simp only [beq_self_eq_true, if_true]
    refine wpAny_bind (upd_seq F N U rfl (by rw [sizeLine_eq]; omega) (by have := size_erase_le vs i; rw [sizeLine_eq]; omega) fun k h' F' N' => ?_)
    exact wpAny_pure (h k h' F' N')
  | succ k ih =>
    intro i e1 e2
    have hlt : i < j := by omega
    obtain ⟨y, hy⟩ : ∃ y, ns[i]? = some y := by
      have : j < ns.length := (List.getElem?_eq_some_iff.mp hj).1
      exact ⟨ns[i], List.getElem?_eq_getElem (by omega)⟩
    refine codeAny_builtin PySem.MeetsSeq.entry_remove_loop ?_
    rw [Around.under_plainId PySem.MeetsSeq.plain_remove_loop _]
    unfold Builtin.«list.remove.loop»
    obtain ⟨t', ht'⟩ := ia_get hI hy
    refine wpAny_bind (listItems_at (upd_get N (U 0)) rfl ?_)
    simp only [Int.toNat_natCast, ht']
    refine wpAny_bind (wpAny_eqBool_int ?_)
    have hne : (y == x) = false := by rw [beq_eq_false_iff_ne]; intro q; exact hno i hlt (by rw [hy, q])
    simp only [hne, Bool.false_eq_true, if_false]
    exact wpAny_pure ⟨plainId_quiet PySem.MeetsSeq.plain_remove_loop _, ih (i + 1) (by omega) (by omega)⟩

theorem l_remove {x : Int} {t : Tok} {ns : List Int} {j : Nat} {news' : Nat → List (Addr × Obj)} {Q : Value → Shared → Prop} (F : Fr h₀ L s.heap m) (N : News h₀ L s.heap news) (hi : Looks (model prog w) s.heap (isInstance (.ref a) (.type "list")) true)
    (U : ∀ k, Upd a (seqO c d vs n) (seqO c d (vs.eraseIdxIfInBounds j) k) news (news' k)) (hz : vs.size ≤ 1000) (hI : IntsAre vs.toList ns) (hj : ns[j]? = some x) (hno : ∀ i, i < j → ns[i]? ≠ some x)
    (h : ∀ k h', Fr h₀ L h' m → News h₀ L h' (news' k) → Q .none { s with heap := h' }) : wpAny (model prog w) A (call (.builtin "list.remove") [.ref a, .int x t]) Q E s := by
  refine call_bi (.inl (by decide +kernel)) (by decide +kernel : splitId "list.remove" = some ("list", "remove")) (by decide +kernel) PySem.F.entry_list_remove hi (by unfold argsOk; kernel_rfl) ?_
  unfold Builtin.«list.remove»
  refine wpAny_bind (wpAny_pure (wpAny_pure ⟨plainId_quiet PySem.MeetsSeq.plain_remove_loop _, ?_⟩))
  exact l_remove_loop F N U hz hI hj hno h j 0 (by omega) (by omega)

/-- a[p:p+1] = a list of one item -/
theorem l_setslice {sl b : Addr} {p q : Int} {t₁ t₂ : Tok} {us : Array Value} {k₁ : Nat} {osl : Obj} {news' : Nat → List (Addr × Obj)} {Q : Value → Shared → Prop} (F : Fr h₀ L s.heap m) (N : News h₀ L s.heap news) (hi : Looks (model prog w) s.heap (isInstance (.ref a) (.type "list")) true)
    (hsl : s.heap.get? sl = some osl) (hc : osl.cls = .type "slice") (hd : osl.data = .fields #[.int p t₁, .int q t₂, .none]) (hq : q = p + 1) (hb : (b, listOf us k₁) ∈ news) (hab : a ≠ b)
    (U : ∀ k, Upd a (seqO c d vs n) (seqO c d (vs.extract 0 p.toNat ++ us ++ vs.extract (p.toNat + 1) vs.size) k) news (news' k)) (hz : vs.size + us.size ≤ 1000) (h0 : 0 ≤ p) (hn : p.toNat < vs.size)
    (h : ∀ k h', Fr h₀ L h' m → News h₀ L h' (news' k) → Q .none { s with heap := h' }) : wpAny (model prog w) A (call (.builtin "list.__setitem__") [.ref a, .ref sl, .ref b]) Q E s := by
  refine call_bi (.inr (by decide +kernel)) (by decide +kernel : splitId "list.__setitem__" = some ("list", "__setitem__")) (by decide +kernel) PySem.F.entry_list_setitem hi (by unfold argsOk; kernel_rfl) ?_
  unfold Builtin.«list.__setitem__»
  refine wpAny_bind (wpAny_pure ?_)
  dsimp only
  have Tsl : s.TypeIs (.ref sl) "slice" := ⟨_, hsl, hc⟩
  unfold Builtin.List.listSubscript?
  refine wpAny_bind (wpAny_bind (wpAny_specialOf Tsl slice_no_index (wpAny_pure ?_)))
  dsimp only
  refine wpAny_bind (wpAny_typeOf Tsl ?_)
  rw [if_neg (by simp)]
  refine wpAny_bind ?_
  rw [listSliceParts_eq]
  have fld : ∀ i v, (#[Value.int p t₁, .int q t₂, .none])[i]? = some v → ∀ {Q' : Value → Shared → Prop} {E' : Value → Shared → Prop}, Q' v s → wpAny (model prog w) A.in1 (field (.ref sl) i) Q' E' s := fun i v e _ _ z => wpAny_field hsl hd e z
  refine wpAny_bind (fld 2 .none rfl (wpAny_bind (wpAny_listPart IsPart.none ?_)))
  rw [if_neg (by decide)]
  refine wpAny_bind (fld 0 (.int p t₁) rfl (wpAny_bind (wpAny_listPart (IsPart.int p t₁) ?_)))
  refine wpAny_bind (fld 1 (.int q t₂) rfl (wpAny_bind (wpAny_listPart (IsPart.int q t₂) ?_)))
  refine wpAny_pure ?_
  dsimp only
  have hne : Builtin.List.listSameRef (.ref a) (.ref b) = false := by simp [Builtin.List.listSameRef, hab]
  have hob := (N _ hb).1
  rw [hne, if_neg (by decide)]
  refine wpAny_bind ?_
  unfold Builtin.List.listAllItems
  refine wpAny_bind (wpAny_typeOf (T := "list") ⟨_, hob, rfl⟩ ?_)
  rw [if_pos (by simp)]
  refine listItems_at hob rfl ?_
  refine wpAny_bind (listItems_at (upd_get N (U 0)) rfl ?_)
  refine wpAny_bind ?_
  have hs := sliceIndices_raw (some p) (some q) none vs.size (by simp)
  have hbd : sliceBounds (some p) (some q) none vs.size = (p, p + 1, 1) := by
    simp only [sliceBounds, Option.getD_none, show (1 : Int) > 0 from by decide, if_true, show ¬ p < 0 from by omega, if_false, show ¬ q < 0 from by omega]
    simp only [Prod.mk.injEq, and_true]
    omega
  rw [hbd] at hs
  refine wpAny_of_eq hs ?_
  dsimp only
  rw [if_pos (by decide)]
  refine wpAny_bind (wpAny_rule ?_)
  have hl : Builtin.List.listTooLong (vs.size + us.size) = false := by
    unfold Builtin.List.listTooLong; rw [sizeLine_eq]; simp only [decide_eq_false_iff_not]; omega
  rw [hl, if_neg (by decide)]
  have e1 : (Max.max p (p + 1)).toNat = p.toNat + 1 := by omega
  rw [e1]
  refine wpAny_bind (upd_seq F N U rfl (by rw [sizeLine_eq]; omega) (by simp only [Array.size_append, Array.size_extract, sizeLine_eq]; omega) fun k h' F' N' => ?_)
  exact wpAny_bind (wpAny_letGo (wpAny_pure (h k h' F' N')))
theorem ia_setslice {a b : Array Value} {x y : List Int} (h : IntsAre a.toList x) (hb : IntsAre b.toList y) (k : Nat) : IntsAre (a.extract 0 k ++ b ++ a.extract (k + 1) a.size).toList (x.take k ++ y ++ x.drop (k + 1)) := by
  rw [Array.toList_append, Array.toList_append, Array.toList_extract, Array.toList_extract]
  refine ia_append (ia_append ?_ hb) ?_
  · simpa [List.extract_eq_take_drop] using ia_take h k
  · rw [List.extract_eq_take_drop, List.take_of_length_le (by simp)]
    exact ia_drop h _
end
end Mine
end PE

section PF
set_option maxRecDepth 100000
set_option maxHeartbeats 4000000
namespace Mine

def IsSeq (h : Heap) (l : Addr) (items : Array Value) : Prop := ∃ o n, h.get? l = some o ∧ o.data = .seq items n
theorem IsSeq.mono {h h' : Heap} {l : Addr} {items : Array Value} (x : IsSeq h l items) (e : ∀ o, h.get? l = some o → h'.get? l = some o) : IsSeq h' l items :=
  let ⟨o, n, a, b⟩ := x; ⟨o, n, e _ a, b⟩

section
variable {prog : Program} {w : World} {A : Around} {E : Value → Shared → Prop} {s : Shared}

theorem next_item {it l : Addr} {i : Nat} {items : Array Value} {x : Value} {Q : Option Value → Shared → Prop} (hit : s.heap.IsListIter it l i)
    (hl : IsSeq s.heap l items) (hx : items[i]? = some x)
    (hQ : ∀ h', h'.IsListIter it l (i + 1) → Heap.SameBut it s.heap h' → Q (some x) { s with heap := h' }) :
    wpAny (model prog w) A (pyNext (.ref it)) Q E s := by
  obtain ⟨o, ho, hc, hd⟩ := id hit
  obtain ⟨ol, nl, hol, hdl⟩ := hl
  unfold pyNext
  refine wpAny_bind (wpAny_attempt (wpAny_callSpecial?_slot (name := Str.ofString "__next__") hit.typeIs slot_listiter_next
    (wpAny_call_entry slot_listiter_next hit.typeIs entry_listiter_next ?_ (args_listiter_next _))))
  show wpAny _ _ (field (.ref it) 0 >>= _) _ _ s
  refine wpAny_bind (wpAny_field ho hd (x := .ref l) rfl ?_)
  show wpAny _ _ (if (Value.ref l == Value.none) = true then _ else _) _ _ s
  rw [if_neg (show ¬ ((Value.ref l == Value.none) = true) from Bool.false_ne_true)]
  show wpAny _ _ (field (.ref it) 1 >>= _) _ _ s
  refine wpAny_bind (wpAny_field ho hd (x := .int i 0) rfl ?_)
  show wpAny _ _ (seqItems? (.ref l) >>= _) _ _ s
  refine wpAny_bind (wpAny_seqItems hol hdl ?_)
  simp only [Int.toNat_natCast, hx]
  refine wpAny_bind (wpAny_setField ho hd (by simp) (wpAny_pure ⟨x, rfl, wpAny_pure (hQ _ ?_ (Heap.SameBut.update ..))⟩))
  exact ⟨_, Heap.get?_update_self _ ho (Obj.isFreed_of_fields (Obj.data_mapFields hd _)), (Obj.cls_mapFields ..).trans hc, by
    rw [Obj.data_mapFields hd]; simp [rawInt]⟩

theorem next_end {it l : Addr} {i : Nat} {items : Array Value} {Q : Option Value → Shared → Prop} (hh : A.handled = none)
    (hit : s.heap.IsListIter it l i) (hl : IsSeq s.heap l items) (hx : items[i]? = none)
    (hQ : ∀ h', Heap.ExtBut it s.heap h' → Q none { s with heap := h' }) : wpAny (model prog w) A (pyNext (.ref it)) Q E s := by
  obtain ⟨o, ho, hc, hd⟩ := id hit
  obtain ⟨ol, nl, hol, hdl⟩ := hl
  unfold pyNext
  refine wpAny_bind (wpAny_attempt (wpAny_callSpecial?_slot (name := Str.ofString "__next__") hit.typeIs slot_listiter_next
    (wpAny_call_entry slot_listiter_next hit.typeIs entry_listiter_next ?_ (args_listiter_next _))))
  show wpAny _ _ (field (.ref it) 0 >>= _) _ _ s
  refine wpAny_bind (wpAny_field ho hd (x := .ref l) rfl ?_)
  show wpAny _ _ (if (Value.ref l == Value.none) = true then _ else _) _ _ s
  rw [if_neg (show ¬ ((Value.ref l == Value.none) = true) from Bool.false_ne_true)]
  show wpAny _ _ (field (.ref it) 1 >>= _) _ _ s
  refine wpAny_bind (wpAny_field ho hd (x := .int i 0) rfl ?_)
  show wpAny _ _ (seqItems? (.ref l) >>= _) _ _ s
  refine wpAny_bind (wpAny_seqItems hol hdl ?_)
  simp only [Int.toNat_natCast, hx]
  refine wpAny_bind (wpAny_rule (wpAny_bind (wpAny_setField ho hd (by simp) ?_)))
  show wpAny _ _ (newExc (.type "StopIteration") [] >>= _) _ _ _
  refine wpAny_bind ?_
  simp only [newExc, newTuple]
  refine wpAny_bind (wpAny_newObj_type ?_ (by size_fits))
  refine wpAny_bind (m := firstArgMember _ _) (wpAny_of_eq (a := Value.none) (by first | rfl | (simp only [firstArgMember]; rfl)) ?_)
  refine wpAny_newObj_type ?_ (by size_fits)
  simp only [raiseNew]
  refine wpAny_bind (wpAny_handled ?_)
  rw [show A.in1.handled = none from hh]
  refine wpAny_bind (wpAny_pure (wpAny_throw ?_))
  refine wpAny_bind (wpAny_isInstance (T := "StopIteration") (b := true) ⟨_, Heap.get?_push_size _ rfl, rfl⟩ isSubtype_stop ?_)
  exact wpAny_pure (hQ _ (((Heap.SameBut.update ..).extBut.push _).push _))

theorem walks_seq (hh : A.handled = none) (I ax : Addr) (hne : ax ≠ I) (items : Array Value) :
    Walks prog w A I [I, ax] [I] items.size (fun i v => items[i]? = some v) (fun i h => h.IsListIter I ax i ∧ IsSeq h ax items) where
  sub := fun b hb => by simp at hb; simp [hb]
  frame := fun _ _ _ st hk => ⟨st.1.at fun o e => hk I (by simp) o e, st.2.mono fun o e => hk ax (by simp) o e⟩
  item := fun i s Q E hi st hQ => by
    refine next_item st.1 st.2 (x := items[i]) (by simp [hi]) fun h' hit' hs' => ?_
    exact hQ _ h' s.toks (by simp [hi]) ⟨hit', st.2.mono fun o e => hs'.extBut _ _ hne e⟩ fun b o hb e => hs'.extBut b o (fun h => hb (by simp [h])) e
  done := fun s Q E st hQ => next_end hh st.1 st.2 (by simp) fun h' he' => hQ h' s.toks fun b o hb e => he' b o (fun h => hb (by simp [h])) e
  self := fun _ _ _ _ st hQ => wpAny_pyIter_listiter st.1 hQ

theorem special_none {M : Model} {v : Value} {name : Str} {id : String} {refuse : Sem Value} {Q : Option Value → Shared → Prop} (hsp : Looks M s.heap (specialOf v name) (some (.builtin id))) (hb : ∀ self, bindSpecial (.builtin id) self = pure (.builtin id, [self]))
    (hc : wpAny M A (call (.builtin id) [v]) (fun r => Q (some r)) E s) : wpAny M A (callSpecialIfBoundUnlessNone? v name refuse) Q E s := by
  simp only [callSpecialIfBoundUnlessNone?, bindSpecialIfBound?]
  refine wpAny_holding (wpAny_bind (wpAny_bind (hsp.here ?_)))
  simp only [hb]
  refine wpAny_bind (wpAny_askSetting (wpAny_ite ?_))
  have fin : wpAny M A (if (Value.builtin id == Value.none) = true then (refuse >>= fun v => pure (some v)) else (call (.builtin id) [v] >>= fun v => pure (some v))) Q E s := by
    simp only [builtin_beq_none, Bool.false_eq_true, if_false]
    exact wpAny_bind (wpAny_mono hc (fun v s' h' => wpAny_pure h') fun _ _ h' => h')
  split
  · exact wpAny_bind (wpAny_pure (wpAny_pure fin))
  · exact wpAny_tryCatch (wpAny_bind (wpAny_pure (wpAny_pure fin)))

theorem iter_slot {v tv : Value} {id : String} {Q : Value → Shared → Prop} (hT : Looks (model prog w) s.heap (typeOf v) tv) (hl : Looks (model prog w) s.heap (typeLookup tv "__iter__") (some (.builtin id))) (hb : ∀ self, bindSpecial (.builtin id) self = pure (.builtin id, [self]))
    (hc : wpAny (model prog w) A (call (.builtin id) [v]) (fun it s' => ∃ T' r, s'.TypeIs it T' ∧ typeLookup (.type T') "__next__" = pure (some r) ∧ Q it s') E s) :
    wpAny (model prog w) A (pyIter v) Q E s := by
  have hsp : Looks (model prog w) s.heap (specialOf v "__iter__") (some (.builtin id)) := hT.andThen hl
  unfold pyIter
  refine wpAny_bind (hsp.here ?_)
  show wpAny _ A (callSpecialIfBoundUnlessNone? v "__iter__" _ >>= _) Q E s
  refine wpAny_bind (special_none hsp hb (wpAny_mono hc (fun it s' z => ?_) fun _ _ z => z))
  obtain ⟨T', r, h1, h2, h3⟩ := z
  dsimp only
  exact wpAny_bind (wpAny_specialOf h1 h2 (wpAny_pure h3))

theorem iter_L {a : Addr} {tv : Value} {Q : Value → Shared → Prop} (hT : Looks (model prog w) s.heap (typeOf (.ref a)) tv) (hi : Looks (model prog w) s.heap (isSubtype tv (.type "list")) true) (hl : Looks (model prog w) s.heap (typeLookup tv "__iter__") (some (.builtin "list.__iter__")))
    (hQ : Q (.ref s.heap.objs.size) { s with heap := s.heap.push { cls := .type "list_iterator", data := .fields #[.ref a, .int 0 0] } }) :
    wpAny (model prog w) A (pyIter (.ref a)) Q E s := by
  refine iter_slot hT hl slot_list_iter.bind (call_bi (.inr (by decide +kernel)) (by decide +kernel : splitId "list.__iter__" = some ("list", "__iter__")) (by decide +kernel) PySem.entry_list_iter ?_ (args_list_iter _) ?_)
  · exact hT.andThen hi
  · show wpAny _ _ (do ret (← newFields "list_iterator" [.ref a, rawInt 0])) _ _ s
    exact wpAny_bind (wpAny_newObj_type (wpAny_pure ⟨"list_iterator", _, ⟨_, Heap.get?_push_size _ rfl, rfl⟩, slot_listiter_next.lookup, hQ⟩))
end
end Mine
end PF

section PG
set_option maxRecDepth 100000
set_option maxHeartbeats 4000000
namespace Mine

/-- what a turn of a loop ends in -/
def TurnPost (h₀ : Heap) (L I : Addr) (oI : Obj) (J : (Str → Option Value) → List (Addr × Obj) → Prop) (s : Shared) (Q : Flow → Shared → Prop) (f : Flow) (s₂ : Shared) : Prop :=
  match f with
  | .ret v => Q (.ret v) s₂
  | .brk => Q .next s₂
  | _ => ∃ h' tk m' nx, s₂ = { s with heap := h', toks := tk } ∧ Fr h₀ L h' m' ∧ News h₀ L h' ((I, oI) :: nx) ∧ (∀ p ∈ nx, p.1 ≠ I) ∧ J m' nx

section
variable {prog : Program} {w : World} {A : Around} {E : Value → Shared → Prop} {s : Shared} {env : Env} {h₀ : Heap} {x : Str} {body : List Stmt} {Q : Flow → Shared → Prop}

theorem loop_seq {l : Addr} {o : Obj} {items : Array Value} {k : Nat} {m₀ : Str → Option Value} {news : List (Addr × Obj)} (J : Nat → (Str → Option Value) → List (Addr × Obj) → Prop)
    (hh : A.handled = none) (hd : o.data = .seq items k) (hlo : (l, o) ∈ news) (F : Fr h₀ env.locals s.heap m₀) (N : News h₀ env.locals s.heap news) (hj : J 0 m₀ news) (hkeep : ∀ i m nx, J i m nx → (l, o) ∈ nx)
    (hpy : ∀ {Q' : Value → Shared → Prop}, Q' (.ref s.heap.objs.size) { s with heap := s.heap.push { cls := .type "list_iterator", data := .fields #[.ref l, .int 0 0] } } → wpAny (model prog w) A (pyIter (.ref l)) Q' E s)
    (turn : ∀ i v m₁ nx h tk oI, items[i]? = some v → J i m₁ nx → (∀ p ∈ nx, p.1 ≠ s.heap.objs.size) → Fr h₀ env.locals h (fun y => if y = x then some v else m₁ y) → News h₀ env.locals h ((s.heap.objs.size, oI) :: nx) →
      wpAny (model prog w) A (execs body env) (TurnPost h₀ env.locals s.heap.objs.size oI (J (i + 1)) s Q) E { s with heap := h, toks := tk })
    (done : ∀ m₁ nx h tk, J items.size m₁ nx → (∀ p ∈ nx, p.1 ≠ s.heap.objs.size) → Fr h₀ env.locals h m₁ → News h₀ env.locals h nx → Q .next { s with heap := h, toks := tk }) :
    wpAny (model prog w) A (pyIter (.ref l)) (fun it s₂ => LoopAtV prog w A h₀ env x body Q E it s₂) E s := by
  have hol : s.heap.get? l = some o := (N _ hlo).1
  have hls : IsSeq s.heap l items := ⟨o, k, hol, hd⟩
  have hne : l ≠ s.heap.objs.size := Nat.ne_of_lt (Heap.lt_size hol)
  refine hpy ?_
  have W := walks_seq (prog := prog) (w := w) hh s.heap.objs.size l hne items
  refine ⟨_, _, _, items.size, _, _, m₀, news, J, rfl, W, ?_, ?_, ?_, ⟨⟨_, Heap.get?_push_size _ rfl, rfl, rfl⟩, hls.mono fun o e => Heap.get?_push_of_some _ e⟩, F.push _, (fun p hp => ⟨Heap.get?_push_of_some _ (N p hp).1, (N p hp).2⟩), hj, ?_, ?_⟩
  · intro hm
    rcases List.mem_cons.mp hm with e | hm
    · exact absurd F.ns.lt (e ▸ Nat.lt_irrefl _)
    · exact (N _ hlo).2.1 ((List.mem_singleton.mp hm).symm)
  · intro b hb
    rw [List.mem_singleton.mp hb]
    exact next_is_new F
  · intro p hp hI
    exact absurd (Heap.lt_size (N p hp).1) ((List.mem_singleton.mp hI) ▸ Nat.lt_irrefl _)
  · rintro i v m₁ nx s₁ own ⟨hh', tk', rfl⟩ hin hP hJ hoff hown hget hall hst F₁ N₁
    have hoff' : ∀ p ∈ nx, p.1 ≠ s.heap.objs.size := fun p hp e => hoff p hp (by rw [e]; exact List.mem_singleton.mpr rfl)
    obtain ⟨oI, hoI, -, -⟩ := hst.1
    have hIown : (s.heap.objs.size, oI) ∈ own := hall _ (by simp) (next_is_new F) _ hoI
    have hlN := hkeep _ _ _ hJ
    have hlo' : hh'.get? l = some o := (N₁ _ (List.mem_append.mpr (.inr hlN))).1
    have N₂ : News h₀ env.locals hh' ((s.heap.objs.size, oI) :: nx) := fun p hp => by
      rcases List.mem_cons.mp hp with rfl | hp
      · exact N₁ _ (List.mem_append.mpr (.inl hIown))
      · exact N₁ _ (List.mem_append.mpr (.inr hp))
    refine wpAny_mono (turn i v m₁ nx hh' tk' oI hP hJ hoff' F₁ N₂) (fun f s₂ p => ?_) fun _ _ e => e
    have fin : (∃ h' tk m' nx', s₂ = { s with heap := h', toks := tk } ∧ Fr h₀ env.locals h' m' ∧ News h₀ env.locals h' ((s.heap.objs.size, oI) :: nx') ∧ (∀ p ∈ nx', p.1 ≠ s.heap.objs.size) ∧ J (i + 1) m' nx') →
        LoopStepU h₀ env.locals [s.heap.objs.size] own (J (i + 1)) { s with heap := hh', toks := tk' } .next s₂ := by
      rintro ⟨h', tk, m', nx', e, F', N', ho, hJ'⟩
      refine ⟨rfl, h', tk, m', nx', e, F', fun p hp => ?_, fun p hp hI => ho p hp (List.mem_singleton.mp hI), hJ'⟩
      rcases List.mem_append.mp hp with hp | hp
      · have h2 : hh'.get? p.1 = some p.2 := hget p hp
        rcases List.mem_cons.mp (hown p hp) with h1 | h1
        · rw [h1, hoI] at h2
          have h3 : p = (s.heap.objs.size, oI) := Prod.ext h1 (Option.some.inj h2).symm
          rw [h3]; exact N' _ (.head _)
        · have h1 := List.mem_singleton.mp h1
          rw [h1, hlo'] at h2
          have h3 : p = (l, o) := Prod.ext h1 (Option.some.inj h2).symm
          rw [h3]; exact N' _ (.tail _ (hkeep _ _ _ hJ'))
      · exact N' _ (.tail _ hp)
    cases f with
    | ret v => exact .ret p
    | brk => exact .brk p
    | next => exact .next (fin p)
    | cont => exact .cont (fin p)
  · rintro h' tk m' nx F' N' hoff hJ
    exact done m' nx h' tk hJ (fun p hp e => hoff p hp (by rw [e]; exact List.mem_singleton.mpr rfl)) F' N'

theorem loop_range {r : Addr} {b₀ : Int} {t₀ u₀ v₀ : Tok} {n : Nat} {m₀ : Str → Option Value} {news : List (Addr × Obj)} (J : Nat → (Str → Option Value) → List (Addr × Obj) → Prop)
    (hh : A.handled = none) (hr : IsRange s.heap r 0 b₀ 1 t₀ u₀ v₀) (hn : b₀ = n) (hsmall : n ≤ 1000) (F : Fr h₀ env.locals s.heap m₀) (N : News h₀ env.locals s.heap news) (hj : J 0 m₀ news)
    (turn : ∀ (i : Nat) t m₁ nx h tk oI, i < n → J i m₁ nx → (∀ p ∈ nx, p.1 ≠ s.heap.objs.size) → Fr h₀ env.locals h (fun y => if y = x then some (.int (i : Int) t) else m₁ y) → News h₀ env.locals h ((s.heap.objs.size, oI) :: nx) →
      wpAny (model prog w) A (execs body env) (TurnPost h₀ env.locals s.heap.objs.size oI (J (i + 1)) s Q) E { s with heap := h, toks := tk })
    (done : ∀ m₁ nx h tk, J n m₁ nx → (∀ p ∈ nx, p.1 ≠ s.heap.objs.size) → Fr h₀ env.locals h m₁ → News h₀ env.locals h nx → Q .next { s with heap := h, toks := tk }) :
    wpAny (model prog w) A (pyIter (.ref r)) (fun it s₂ => LoopAtV prog w A h₀ env x body Q E it s₂) E s := by
  subst hn
  have hsm : Builtin.Range.small 0 (n : Int) 1 = true := small_one (by omega) (by omega) (by omega) (by omega)
  have hsz : Builtin.Range.rangeSize 0 (n : Int) 1 = (n : Int) := by
    have h1 := rangeSize_nat 0 (n : Int)
    simpa using h1
  refine wpAny_pyIter_range hr hsm ?_
  have W := Walks.range (prog := prog) (w := w) hh s.heap.objs.size 0 1 n
  refine ⟨_, _, _, n, _, _, m₀, news, J, rfl, W, ?_, ?_, ?_, ?_, F.push _, (fun p hp => ⟨Heap.get?_push_of_some _ (N p hp).1, (N p hp).2⟩), hj, ?_, ?_⟩
  · intro hm
    exact absurd F.ns.lt ((List.mem_singleton.mp hm) ▸ Nat.lt_irrefl _)
  · intro b hb
    rw [List.mem_singleton.mp hb]
    exact next_is_new F
  · intro p hp hI
    exact absurd (Heap.lt_size (N p hp).1) ((List.mem_singleton.mp hI) ▸ Nat.lt_irrefl _)
  · show IsRangeIter _ _ _ _ _
    rw [hsz]; simpa using Heap.get?_push_size _ rfl
  · rintro i v m₁ nx s₁ own ⟨hh', tk', rfl⟩ hin ⟨t, hP⟩ hJ hoff hown hget hall hst F₁ N₁
    subst hP
    have hoff' : ∀ p ∈ nx, p.1 ≠ s.heap.objs.size := fun p hp e => hoff p hp (by rw [e]; exact List.mem_singleton.mpr rfl)
    obtain ⟨oI, hoI⟩ : ∃ oI, hh'.get? s.heap.objs.size = some oI := ⟨_, hst⟩
    have hIown : (s.heap.objs.size, oI) ∈ own := hall _ (by simp) (next_is_new F) _ hoI
    have N₂ : News h₀ env.locals hh' ((s.heap.objs.size, oI) :: nx) := fun p hp => by
      rcases List.mem_cons.mp hp with rfl | hp
      · exact N₁ _ (List.mem_append.mpr (.inl hIown))
      · exact N₁ _ (List.mem_append.mpr (.inr hp))
    rw [show ((0 : Int) + (i : Nat) * 1) = (i : Int) by omega] at F₁
    refine wpAny_mono (turn i t m₁ nx hh' tk' oI hin hJ hoff' F₁ N₂) (fun f s₂ p => ?_) fun _ _ e => e
    have fin : (∃ h' tk m' nx', s₂ = { s with heap := h', toks := tk } ∧ Fr h₀ env.locals h' m' ∧ News h₀ env.locals h' ((s.heap.objs.size, oI) :: nx') ∧ (∀ p ∈ nx', p.1 ≠ s.heap.objs.size) ∧ J (i + 1) m' nx') →
        LoopStepU h₀ env.locals [s.heap.objs.size] own (J (i + 1)) { s with heap := hh', toks := tk' } .next s₂ := by
      rintro ⟨h', tk, m', nx', e, F', N', ho, hJ'⟩
      refine ⟨rfl, h', tk, m', nx', e, F', fun p hp => ?_, fun p hp hI => ho p hp (List.mem_singleton.mp hI), hJ'⟩
      rcases List.mem_append.mp hp with hp | hp
      · have h2 : hh'.get? p.1 = some p.2 := hget p hp
        have h1 := List.mem_singleton.mp (hown p hp)
        rw [h1, hoI] at h2
        have h3 : p = (s.heap.objs.size, oI) := Prod.ext h1 (Option.some.inj h2).symm
        rw [h3]; exact N' _ (.head _)
      · exact N' _ (.tail _ hp)
    cases f with
    | ret v => exact .ret p
    | brk => exact .brk p
    | next => exact .next (fin p)
    | cont => exact .cont (fin p)
  · rintro h' tk m' nx F' N' hoff hJ
    exact done m' nx h' tk hJ (fun p hp e => hoff p hp (by rw [e]; exact List.mem_singleton.mpr rfl)) F' N'
end
end Mine
end PG

section PH
set_option maxRecDepth 100000
set_option maxHeartbeats 4000000
namespace Mine

/-! ## a dict keyed by ints, as a map -/
def DM (prog : Program) (w : World) (o : Obj) (f : Int → Option Value) (c : Nat) : Prop :=
  ∃ es ep, o.ExactDict ∧ o.data = .dict es ep ∧ KeysOf (intKind prog w) es ∧ es.size ≤ c ∧ ∀ k, findBy (intKind prog w).is es k = f k
theorem DM.map {prog : Program} {w : World} {o : Obj} {f : Int → Option Value} {c : Nat} (x : DM prog w o f c) {h : Heap} {d : Addr} (ho : h.get? d = some o) : h.MapOf (intKind prog w) d f :=
  let ⟨es, ep, a, b, k, _, e⟩ := x; ⟨o, es, ep, ho, a, b, k, e⟩
theorem DM.le {prog : Program} {w : World} {o : Obj} {f : Int → Option Value} {c : Nat} (x : DM prog w o f c) {h : Heap} {d : Addr} (ho : h.get? d = some o) : h.DictLe d c := by
  obtain ⟨es, ep, a, b, k, l, e⟩ := x
  intro o' es' ep' ho' hd'
  rw [ho] at ho'
  obtain rfl := Option.some.inj ho'
  rw [b] at hd'
  injection hd' with h1 h2
  exact h1 ▸ l
theorem DM.nil (prog : Program) (w : World) (n : Nat) : DM prog w (dictOf [] n) (fun _ => none) 0 :=
  ⟨#[], n, ⟨rfl, rfl, rfl⟩, rfl, fun e he => by simp at he, Nat.le_refl _, fun k => rfl⟩
theorem DM.more {prog : Program} {w : World} {o : Obj} {f : Int → Option Value} {c c' : Nat} (x : DM prog w o f c) (h : c ≤ c') : DM prog w o f c' :=
  let ⟨es, ep, a, b, k, l, e⟩ := x; ⟨es, ep, a, b, k, Nat.le_trans l h, e⟩

section
variable {prog : Program} {w : World} {A : Around} {E : Value → Shared → Prop} {s : Shared} {h₀ : Heap} {L D : Addr} {m : Str → Option Value} {news : List (Addr × Obj)} {o : Obj} {f : Int → Option Value} {c : Nat} {k : Int} {t : Tok} {v : Value}

theorem dm_notin {Q : Value → Shared → Prop} (N : News h₀ L s.heap news) (hD : (D, o) ∈ news) (x : DM prog w o f c) (hd : (D == sysModules) = false)
    (h : Q (.bool (!(f k).isSome)) { s with toks := s.toks + 1 }) : wpAny (model prog w) A (compareOp .NotIn (.int k t) (.ref D)) Q E s :=
  wpAny_notIn_of (intKind_is prog w k t) hd (x.map (N _ hD).1) h
theorem dm_in {Q : Value → Shared → Prop} (N : News h₀ L s.heap news) (hD : (D, o) ∈ news) (x : DM prog w o f c) (hd : (D == sysModules) = false)
    (h : Q (.bool (f k).isSome) { s with toks := s.toks + 1 }) : wpAny (model prog w) A (compareOp .In (.int k t) (.ref D)) Q E s :=
  wpAny_in_of (intKind_is prog w k t) hd (x.map (N _ hD).1) h
theorem dm_get {Q : Value → Shared → Prop} (N : News h₀ L s.heap news) (hD : (D, o) ∈ news) (x : DM prog w o f c) (hv : f k = some v)
    (h : Q v { s with toks := s.toks + 1 }) : wpAny (model prog w) A (getItem (.ref D) (.int k t)) Q E s :=
  wpAny_getItem_of (intKind_is prog w k t) (x.map (N _ hD).1) hv h
theorem dm_set {g : Obj → List (Addr × Obj)} {Q : Unit → Shared → Prop} (F : Fr h₀ L s.heap m) (N : News h₀ L s.heap news) (U : UpdF D o news g) (x : DM prog w o f c) (hc : c ≤ 1000)
    (h : ∀ o' h', Fr h₀ L h' m → News h₀ L h' (g o') → DM prog w o' (fun z => if z = k then some v else f z) (c + 1) → Q () { s with heap := h', toks := s.toks + 1 }) :
    wpAny (model prog w) A (setItem (.ref D) (.int k t) v) Q E s := by
  obtain ⟨pre, post, rfl, hg, a, b⟩ := U.split
  have hD : (D, o) ∈ pre ++ (D, o) :: post := by simp
  have ho := (N _ hD).1
  have hle := x.le ho
  have hm := x.map ho
  obtain ⟨es, ep, hx, hd, hk, hl, hf⟩ := x
  have hkey := intKind_is prog w k t
  have done : ∀ (fo : Obj → Obj) (es' : Array DictEntry) (ep' : Nat), (fo o).ExactDict → (fo o).data = .dict es' ep' → KeysOf (intKind prog w) es' → es'.size ≤ c + 1 →
      (∀ z, findBy (intKind prog w).is es' z = if z = k then some v else f z) → Q () { s with heap := s.heap.update D fo, toks := s.toks + 1 } := by
    intro fo es' ep' q1 q2 q3 q4 q5
    obtain ⟨F', N'⟩ := news_upd (f := fo) (o' := fo o) F N a b rfl (Obj.isFreed_of_dict q2)
    exact h _ _ F' (by rw [hg]; exact N') ⟨es', ep', q1, q2, q3, q4, q5⟩
  unfold setItem
  try with_reducible refine wpAny_holding ?_
  refine wpAny_bind (wpAny_sequenceKey hm.typeIs (by decide) ?_)
  refine wpAny_bind (wpAny_callSpecial?_slot (name := Str.ofString "__setitem__") hm.typeIs slot_dict_setitem
    (wpAny_call_entry slot_dict_setitem hm.typeIs entry_dict_setitem ?_ (args_dict_setitem _ _ _)))
  show wpAny _ _ (Builtin.Dict.notOrdered "__setitem__" ⟨[.ref D, .int k t, v], []⟩ >>= _) _ _ s
  refine wpAny_bind (wpAny_notOrdered_dict hm.typeIs ?_)
  show wpAny _ _ (dictSet D (.int k t) v >>= _) _ _ s
  refine wpAny_bind ?_
  unfold dictSet
  try with_reducible refine wpAny_holding ?_
  refine wpAny_bind ((intKind prog w).pyHash hkey ?_)
  unfold dictSetHashed
  try with_reducible refine wpAny_holding ?_
  refine wpAny_bind (wpAny_dictFind_of (s := { s with toks := s.toks + 1 }) hkey ho hd hk ?_)
  cases hi : es.findIdx? fun e => (intKind prog w).is k e.key with
  | some i =>
    refine wpAny_bind (wpAny_rule (wpAny_bind (wpAny_updateDict (s := { s with toks := s.toks + 1 }) ho hd (wpAny_point (wpAny_pure ⟨.none, rfl, wpAny_pure ?_⟩)))))
    exact done _ (es.modify i fun e => { e with val := v }) ep (hx.mapDict _) (Obj.data_mapDict hd _) (hk.modify _ _) (by rw [Array.size_modify]; omega) fun z => by rw [findBy_modify (intKind prog w).is (intKind prog w).inj es k z v i hi, hf]
  | none =>
    refine wpAny_bind (wpAny_rule (wpAny_updateDictKeys (hz := by rw [sizeLine_eq]; omega) (s := { s with toks := s.toks + 1 }) ho hd (wpAny_pure ⟨.none, rfl, wpAny_pure ?_⟩)))
    exact done _ (es.push ⟨(intKind prog w).hash k, .int k t, v⟩) (ep + 1) (hx.mapDictKeys _) (Obj.data_mapDictKeys hd _) (hk.push hkey _) (by rw [Array.size_push]; omega) fun z => by rw [findBy_push (intKind prog w).is es k z _ _ v (KeyKind.is_eq_decide hkey) hi, hf]

theorem new_dict {env : Env} {pos : Pos} {Q : Value → Shared → Prop} (F : Fr h₀ L s.heap m) (N : News h₀ L s.heap news) (hbig : h₀.NoLimit)
    (k : ∀ d h', Fr h₀ L h' m → News h₀ L h' ((d, dictOf [] 0) :: news) → s.heap.objs.size = d → (d == sysModules) = false → Q (.ref d) { s with heap := h' }) : wpAny (model prog w) A (eval (.Dict [] [] pos) env) Q E s :=
  wpAny_Dict_empty (k _ _ (F.push _) (News.push F N _) rfl (F.notModules (modules_low hbig)))
end
end Mine
end PH

section PM
set_option maxRecDepth 100000
set_option maxHeartbeats 4000000
namespace Mine

structure Stop (P : Prop) : Prop where
  out : P

theorem inst_of_news {h₀ h : Heap} {L x C dx : Addr} {news : List (Addr × Obj)} {od : Obj} {vs : Array Value} {n : Nat} (N : News h₀ L h news) (h1 : (x, subObj C dx vs n) ∈ news) (h2 : (dx, od) ∈ news) :
    InstAt h x (subObj C dx vs n) C (some od) := inst_sub (N _ h1).1 (N _ h2).1
theorem allLt_all {d : Addr} {l : List (Addr × Obj)} (h : AllLt d l) : ∀ p ∈ l, p.1 < d := by
  induction l with
  | nil => intro p hp; cases hp
  | cons q r ih =>
    obtain ⟨h1, h2⟩ := h
    intro p hp
    rcases List.mem_cons.mp hp with e | hp
    · rw [e]; exact h1
    · exact ih h2 p hp
theorem allLt_ne {d : Addr} {l : List (Addr × Obj)} (h : AllLt d l) : ∀ p ∈ l, p.1 ≠ d := fun p hp => Nat.ne_of_lt (allLt_all h p hp)
theorem map_has {m : Str → Option Value} {k : Str} {v : Option Value} (h : m k = v) : m = fun y => if y = k then v else m y := by
  funext y; by_cases e : y = k
  · simp [e, h]
  · simp [e]

section
variable {prog : Program} {w : World} {A : Around} {E : Value → Shared → Prop} {s : Shared} {h₀ : Heap} {L D : Addr} {m : Str → Option Value} {news : List (Addr × Obj)} {o : Obj} {f : Int → Option Value} {c : Nat} {k : Int} {t : Tok} {v : Value}
theorem new_dictK {env : Env} {pos : Pos} {Q : Value → Shared → Prop} (F : Fr h₀ L s.heap m) (N : News h₀ L s.heap news) (hbig : h₀.NoLimit)
    (k : ∀ d h', Fr h₀ L h' m → News h₀ L h' ((d, dictOf [] 0) :: news) → (∀ p ∈ news, p.1 < d) → (d == sysModules) = false → Q (.ref d) { s with heap := h' }) : wpAny (model prog w) A (eval (.Dict [] [] pos) env) Q E s :=
  new_dict F N hbig fun d h' F' N' e lo => k d h' F' N' (fun p hp => e ▸ Heap.lt_size (N p hp).1) lo
theorem dm_tail {value slice : Expr} {Q : Value → Shared → Prop} (N : News h₀ L s.heap news) (hD : (D, o) ∈ news) (x : DM prog w o f c) (hv : f k = some v)
    (h : Q v { s with toks := s.toks + 1 }) (hs : subscripted slice false (.ref D) (.int k t) = operate [.ref D, .int k t] (getItem (.ref D) (.int k t)) := by with_unfolding_all rfl) :
    wpAny (model prog w) A (subscriptTail value slice (.ref D) (.int k t)) Q E s :=
  tail_any (x.map (N _ hD).1).typeIs slot_dict_getitem.lookup (dm_get N hD x hv h) hs
end

abbrev attrD (P : Params) (t1 t2 : Tok) (b : Bool) (D : Addr) (k : Nat) : Obj :=
  dictOf [⟨PyData.keyHash P (Str.ofString "clean"), .str (Str.ofString "clean") t1, .bool b⟩, ⟨PyData.keyHash P (Str.ofString "_dict"), .str (Str.ofString "_dict") t2, .ref D⟩] k
theorem put_d (a h1 h2 : Int) (t1 t2 : Tok) (key v vb vd : Value) (k : Nat) : (putL (Str.ofString "_dict") a key v [⟨h1, .str (Str.ofString "clean") t1, vb⟩, ⟨h2, .str (Str.ofString "_dict") t2, vd⟩], putN (Str.ofString "_dict") [⟨h1, .str (Str.ofString "clean") t1, vb⟩, ⟨h2, .str (Str.ofString "_dict") t2, vd⟩] k)
    = ([⟨h1, .str (Str.ofString "clean") t1, vb⟩, ⟨h2, .str (Str.ofString "_dict") t2, v⟩], k) := by with_unfolding_all rfl
theorem put_c (a h1 h2 : Int) (t1 t2 : Tok) (key v vb vd : Value) (k : Nat) : (putL (Str.ofString "clean") a key v [⟨h1, .str (Str.ofString "clean") t1, vb⟩, ⟨h2, .str (Str.ofString "_dict") t2, vd⟩], putN (Str.ofString "clean") [⟨h1, .str (Str.ofString "clean") t1, vb⟩, ⟨h2, .str (Str.ofString "_dict") t2, vd⟩] k)
    = ([⟨h1, .str (Str.ofString "clean") t1, v⟩, ⟨h2, .str (Str.ofString "_dict") t2, vd⟩], k) := by with_unfolding_all rfl
theorem get_d (h1 h2 : Int) (t1 t2 : Tok) (vb vd : Value) : (getL (Str.ofString "_dict") [⟨h1, .str (Str.ofString "clean") t1, vb⟩, ⟨h2, .str (Str.ofString "_dict") t2, vd⟩]) = some (some vd) := by with_unfolding_all rfl
theorem get_c (h1 h2 : Int) (t1 t2 : Tok) (vb vd : Value) : (getL (Str.ofString "clean") [⟨h1, .str (Str.ofString "clean") t1, vb⟩, ⟨h2, .str (Str.ofString "_dict") t2, vd⟩]) = some (some vb) := by with_unfolding_all rfl

section
variable {prog : Program} {w : World} {A : Around} {E : Value → Shared → Prop} {K : Frag} {C x dx : Addr} {s : Shared} {h₀ : Heap} {L : Addr} {m : Str → Option Value} {news news' : List (Addr × Obj)}
theorem set_d {vs : Array Value} {n k : Nat} {t1 t2 : Tok} {b : Bool} {D D' : Addr} {Q : Unit → Shared → Prop} (F : Fr h₀ L s.heap m) (X₀ : K.In h₀) (N : News h₀ L s.heap news) (hx : (x, subObj C dx vs n) ∈ news)
    (hs : findIn K (.ref C) "__setattr__" = some (some (.builtin "object.__setattr__"))) (hp : mroL K C = true) (ht : takerIn K C "_dict" = some none) (hh : hasDictIn K C = true)
    (U : Upd dx (attrD w.params t1 t2 b D k) (attrD w.params t1 t2 b D' k) news news')
    (h : ∀ h', Fr h₀ L h' m → News h₀ L h' news' → Q () { s with heap := h', toks := s.toks + 2 }) : wpAny (model prog w) A (setAttr (.ref x) "_dict" (.ref D')) Q E s := by
  refine setL_dict F X₀ N (inst_sub (N _ hx).1 (upd_get N U)) rfl hs hp ht hh (by rw [get_d]; rfl) (put_d ..) U (by show 2 ≤ 1000; decide) h
theorem set_c {vs : Array Value} {n k : Nat} {t1 t2 : Tok} {b b' : Bool} {D : Addr} {Q : Unit → Shared → Prop} (F : Fr h₀ L s.heap m) (X₀ : K.In h₀) (N : News h₀ L s.heap news) (hx : (x, subObj C dx vs n) ∈ news)
    (hs : findIn K (.ref C) "__setattr__" = some (some (.builtin "object.__setattr__"))) (hp : mroL K C = true) (ht : takerIn K C "clean" = some none) (hh : hasDictIn K C = true)
    (U : Upd dx (attrD w.params t1 t2 b D k) (attrD w.params t1 t2 b' D k) news news')
    (h : ∀ h', Fr h₀ L h' m → News h₀ L h' news' → Q () { s with heap := h', toks := s.toks + 2 }) : wpAny (model prog w) A (setAttr (.ref x) "clean" (.bool b')) Q E s := by
  refine setL_dict F X₀ N (inst_sub (N _ hx).1 (upd_get N U)) rfl hs hp ht hh (by rw [get_c]; rfl) (put_c ..) U (by show 2 ≤ 1000; decide) h
end

theorem forF {prog : Program} {w : World} {A : Around} {s : Shared} {env : Env} {h₀ : Heap} {m : Str → Option Value} {E : Value → Shared → Prop} {Q : Flow → Shared → Prop} {x : Str} {px pos : Pos} {iter : Expr} {body : List Stmt} (_F : Fr h₀ env.locals s.heap m) (hx : env.kindOf x = some .local)
    (hp : (env.scope.kind == .class || (env.scope.kind == .module && env.locals != env.globals)) = false)
    (h : wpAny (model prog w) A (eval iter env) (fun xv s₁ => wpAny (model prog w) A (pyIter xv) (fun it s₂ => LoopAtV prog w A h₀ env x body Q E it s₂) E s₁) E s)
    (hs : ∀ x, foldedSetIterable iter env x = pure x := by intro _; rfl)
    (hE : PassesOwn (model prog w) A env E := by passes_own) :
    wpAny (model prog w) A (exec (.For (.Name x px) iter body [] pos) env) Q E s := For_invV h₀ hx hp h hs hE

section
variable {prog : Program} {w : World} {A : Around} {E : Value → Shared → Prop} {K : Frag} {C x dx D : Addr} {s : Shared} {h₀ : Heap} {L : Addr} {m : Str → Option Value} {news news' : List (Addr × Obj)} {vs : Array Value} {n : Nat} {o : Obj} {f : Int → Option Value} {c : Nat} {k : Int} {t : Tok} {v : Value}
theorem iter_news (F : Fr h₀ L s.heap m) (X₀ : K.In h₀) (N : News h₀ L s.heap news) (hx : (x, subObj C dx vs n) ∈ news) (hp : mroL K C = true) (hl : findIn K (.ref C) "__iter__" = some (some (.builtin "list.__iter__"))) {Q : Value → Shared → Prop}
    (h : Q (.ref s.heap.objs.size) { s with heap := s.heap.push { cls := .type "list_iterator", data := .fields #[.ref x, .int 0 0] } }) : wpAny (model prog w) A (pyIter (.ref x)) Q E s :=
  iter_L ((Looks.ld (N _ hx).1).andThen .now) (looks_mroIn (X₀.keeps F.keep) (mroL_list hp)) (looks_findIn (X₀.keeps F.keep) hl) h
theorem is_news (F : Fr h₀ L s.heap m) (X₀ : K.In h₀) (N : News h₀ L s.heap news) (hx : (x, subObj C dx vs n) ∈ news) (hp : mroL K C = true) : Looks (model prog w) s.heap (isInstance (.ref x) (.type "list")) true :=
  Looks.andThen ((Looks.ld (N _ hx).1).andThen .now) (looks_mroIn (X₀.keeps F.keep) (mroL_list hp))
theorem is_list (N : News h₀ L s.heap news) (hx : (x, W.listOf vs n) ∈ news) : Looks (model prog w) s.heap (isInstance (.ref x) (.type "list")) true :=
  Looks.andThen ((Looks.ld (N _ hx).1).andThen .now) (Looks.of_pure sub_list_self)

theorem dm_notin_t {Q : Value → Shared → Prop} (N : News h₀ L s.heap news) (hD : (D, o) ∈ news) (x : DM prog w o f c) (hd : (D == sysModules) = false) (hv : f k = none)
    (h : Q (.bool true) { s with toks := s.toks + 1 }) : wpAny (model prog w) A (compareOp .NotIn (.int k t) (.ref D)) Q E s := dm_notin N hD x hd (by rw [hv]; exact h)
theorem dm_notin_f {Q : Value → Shared → Prop} (N : News h₀ L s.heap news) (hD : (D, o) ∈ news) (x : DM prog w o f c) (hd : (D == sysModules) = false) (hv : f k = some v)
    (h : Q (.bool false) { s with toks := s.toks + 1 }) : wpAny (model prog w) A (compareOp .NotIn (.int k t) (.ref D)) Q E s := dm_notin N hD x hd (by rw [hv]; exact h)
theorem dm_in_t {Q : Value → Shared → Prop} (N : News h₀ L s.heap news) (hD : (D, o) ∈ news) (x : DM prog w o f c) (hd : (D == sysModules) = false) (hv : f k = some v)
    (h : Q (.bool true) { s with toks := s.toks + 1 }) : wpAny (model prog w) A (compareOp .In (.int k t) (.ref D)) Q E s := dm_in N hD x hd (by rw [hv]; exact h)
theorem dm_in_f {Q : Value → Shared → Prop} (N : News h₀ L s.heap news) (hD : (D, o) ∈ news) (x : DM prog w o f c) (hd : (D == sysModules) = false) (hv : f k = none)
    (h : Q (.bool false) { s with toks := s.toks + 1 }) : wpAny (model prog w) A (compareOp .In (.int k t) (.ref D)) Q E s := dm_in N hD x hd (by rw [hv]; exact h)
end

/-- a map that tells the places of a list's ints -/
def Idx (f : Int → Option Value) (ns : List Int) : Prop := (∀ j y, ns[j]? = some y → ∃ t, f y = some (.int (j : Nat) t)) ∧ ∀ z, z ∉ ns → f z = none
theorem Idx.nil : Idx (fun _ => none) [] := ⟨fun j y h => by simp at h, fun _ _ => rfl⟩
theorem Idx.step {f : Int → Option Value} {l : List Int} {y : Int} {t : Tok} {k : Nat} (h : Idx f l) (hy : y ∉ l) (hk : k = l.length) : Idx (fun z => if z = y then some (.int (k : Nat) t) else f z) (l ++ [y]) := by
  subst hk
  refine ⟨fun j z hz => ?_, fun z hz => ?_⟩
  · rw [List.getElem?_append] at hz
    split at hz
    · have hm := List.mem_of_getElem? hz
      obtain ⟨t', e⟩ := h.1 j z hz
      exact ⟨t', by dsimp only; rw [if_neg (fun q : z = y => hy (by rw [← q]; exact hm))]; exact e⟩
    · rename_i q
      have hj : j - l.length = 0 := by
        have := (List.getElem?_eq_some_iff.mp hz).1
        simp at this; omega
      rw [hj] at hz
      simp only [List.getElem?_cons_zero, Option.some.injEq] at hz
      exact ⟨t, by dsimp only; rw [if_pos hz.symm]; congr 2; omega⟩
  · simp only [List.mem_append, List.mem_singleton, not_or] at hz
    dsimp only; rw [if_neg hz.2]; exact h.2 z hz.1
theorem take_succ_of {l : List Int} {i : Nat} {y : Int} (h : l[i]? = some y) : l.take (i + 1) = l.take i ++ [y] := by rw [List.take_add_one, h]; rfl
theorem not_mem_take {l : List Int} (hn : l.Nodup) {i : Nat} {y : Int} (h : l[i]? = some y) : y ∉ l.take i := by
  intro hm
  obtain ⟨j, hj⟩ := List.mem_iff_getElem?.mp hm
  rw [List.getElem?_take] at hj
  split at hj
  · rename_i q
    have hi := (List.getElem?_eq_some_iff.mp h).1
    have := (List.getElem?_inj (i := j) (j := i) (by omega) hn).mp (by rw [hj, h])
    omega
  · cases hj
theorem ia_at {vs : Array Value} {ns : List Int} (h : IntsAre vs.toList ns) {i : Nat} {v : Value} (hv : vs[i]? = some v) : ∃ y t, v = .int y t ∧ ns[i]? = some y := by
  have hl := ia_size h
  have hi := (Array.getElem?_eq_some_iff.mp hv).1
  obtain ⟨t, e⟩ := ia_get h (List.getElem?_eq_getElem (l := ns) (i := i) (by omega))
  rw [hv] at e
  exact ⟨_, t, Option.some.inj e, List.getElem?_eq_getElem _⟩

theorem map_two {m : Str → Option Value} {k1 k2 : Str} {v1 v2 : Option Value} (h1 : m k1 = v1) (h2 : m k2 = v2) : m = fun y => if y = k1 then v1 else if y = k2 then v2 else m y := by
  funext y
  by_cases e : y = k1
  · simp only [e, if_true]; exact h1
  · simp only [e, if_false]; exact congrFun (map_has h2) y
theorem map_three {m : Str → Option Value} {k1 k2 k3 : Str} {v1 v2 v3 : Option Value} (h1 : m k1 = v1) (h2 : m k2 = v2) (h3 : m k3 = v3) : m = fun y => if y = k1 then v1 else if y = k2 then v2 else if y = k3 then v3 else m y := by
  funext y
  by_cases e : y = k1
  · simp only [e, if_true]; exact h1
  · simp only [e, if_false]; exact congrFun (map_two h2 h3) y
theorem fr_as {h₀ h : Heap} {L : Addr} {m m' : Str → Option Value} (F : Fr h₀ L h m) (e : m = m') : Fr h₀ L h m' := e ▸ F
theorem in_one {m : Str → Option Value} {x : Str} {v : Option Value} {k1 : Str} {v1 : Option Value} (h1 : m k1 = v1) : (fun y => if y = x then v else m y) = fun y => if y = x then v else if y = k1 then v1 else m y := by
  funext y; rw [← congrFun (map_has h1) y]
theorem in_two {m : Str → Option Value} {x : Str} {v : Option Value} {k1 k2 : Str} {v1 v2 : Option Value} (h1 : m k1 = v1) (h2 : m k2 = v2) : (fun y => if y = x then v else m y) = fun y => if y = x then v else if y = k1 then v1 else if y = k2 then v2 else m y := by
  funext y; rw [← congrFun (map_two h1 h2) y]
theorem in_three {m : Str → Option Value} {x : Str} {v : Option Value} {k1 k2 k3 : Str} {v1 v2 v3 : Option Value} (h1 : m k1 = v1) (h2 : m k2 = v2) (h3 : m k3 = v3) : (fun y => if y = x then v else m y) = fun y => if y = x then v else if y = k1 then v1 else if y = k2 then v2 else if y = k3 then v3 else m y := by
  funext y; rw [← congrFun (map_three h1 h2 h3) y]
/-- none of the ledger's addresses is d, as numbers -/
def AllNe (d : Addr) : List (Addr × Obj) → Prop
  | [] => True
  | p :: r => @Ne Nat p.1 d ∧ AllNe d r
theorem allNe_of {d : Addr} : ∀ {l : List (Addr × Obj)}, (∀ p ∈ l, p.1 ≠ d) → AllNe d l
  | [], _ => trivial
  | p :: _, h => ⟨h p (.head _), allNe_of fun q hq => h q (.tail _ hq)⟩
theorem allNe_all {d : Addr} {l : List (Addr × Obj)} (h : AllNe d l) : ∀ p ∈ l, p.1 ≠ d := by
  induction l with
  | nil => intro p hp; cases hp
  | cons q r ih =>
    obtain ⟨h1, h2⟩ := h
    intro p hp
    rcases List.mem_cons.mp hp with e | hp
    · rw [e]; exact h1
    · exact ih h2 p hp
end Mine
end PM

section PN
set_option maxRecDepth 100000
set_option maxHeartbeats 4000000
namespace Mine

theorem lga_args (a b : Value) : argsOk "list.__getattribute__" ⟨[a, b], []⟩ := by unfold argsOk; kernel_rfl
theorem lga_slot : Slot "list" "__getattribute__" "list.__getattribute__" :=
  .of (owner := "list") (n := "__getattribute__") (by rw [typeLookup_type, builtinLookup_eq_fast]; kernel_rfl) (by decide +kernel) (by decide +kernel) (by decide +kernel)
    (by first | exact .inl (by decide +kernel) | exact .inr (by decide +kernel)) (by rw [isSubtype_type]; kernel_rfl)
theorem lga_entry : entryFor table "list.__getattribute__" = some Builtin.«object.__getattribute__» := am_entry_list_getattribute

section
variable {prog : Program} {w : World} {A : Around} {E : Value → Shared → Prop} {s : Shared} {K : Frag} {x C : Addr} {ox : Obj} {od : Option Obj} {name : Str} {expr : Bool}
theorem getL_value {v : Value} {Q : Value → Shared → Prop} (X : K.In s.heap) (I : InstAt s.heap x ox C od) (hp : mroL K C = true) (hga : findIn K (.ref C) "__getattribute__" = some (some (.builtin "list.__getattribute__"))) (hk : findIn K (.ref C) "__getattr__" = some none)
    (hf : findObj K C od name = some (.value v)) (hh : handedIn v = true) (h : Q v { s with toks := s.toks + 1 }) : wpAny (model prog w) A (getAttr (.ref x) name expr) Q E s := by
  obtain ⟨hp', g, d, t, os⟩ := s
  have L0 := I.type (M := model prog w)
  have L1 := looks_findIn (M := model prog w) X hga
  have L2 := looks_findIn (M := model prog w) X hk
  have L3 := looks_find (M := model prog w) X I hf
  unfold getAttr getAttrBy
  refine wpAny_bind (wpAny_mkText (wpAny_holding (wpAny_bind (L0.at (wpAny_bind (L1.at ?_))))))
  show wpAny _ _ (getAttrByItsOwn _ _ _ _ _ _) _ _ _
  unfold getAttrByItsOwn hookBefore
  refine wpAny_bind (L2.at ?_)
  refine wpAny_bind (wpAny_attempt (wpAny_holding ?_))
  unfold callGetattribute
  rw [show (expr && onTheHeap (Value.builtin "list.__getattribute__")) = false from Bool.and_false _, if_neg (by decide)]
  unfold boundAndCalled
  rw [lga_slot.bind]
  refine wpAny_bind (wpAny_pure ?_)
  refine call_bi (s := ⟨hp', g, d, t + 1, os⟩) (.inr (by decide +kernel)) (by decide +kernel : splitId "list.__getattribute__" = some ("list", "__getattribute__")) lga_slot.plain lga_entry (L0.andThen (looks_mroIn X (mroL_list hp))) (lga_args _ _) ?_
  unfold Builtin.«object.__getattribute__»
  refine wpAny_bind (wpAny_pure ?_)
  dsimp only
  refine wpAny_bind (wpAny_pure (wpAny_bind (L0.at (wpAny_bind (L3.at ?_)))))
  refine wpAny_pure ?_
  show wpAny _ _ (handedOut v) _ _ _
  rw [handedOut_of hh]; exact wpAny_pure h

theorem methL_any {f tf : Value} {pl : Sem Bool} {Q : Value × List Value → Shared → Prop} (X : K.In s.heap) (I : InstAt s.heap x ox C od) (hga : findIn K (.ref C) "__getattribute__" = some (some (.builtin "list.__getattribute__"))) (hk : findIn K (.ref C) "__getattr__" = some none)
    (hf : findIn K (.ref C) name = some (some f)) (ht : typeIn K f = some tf) (hb : (tf != .type "function" && tf != .type "method_descriptor" && tf != .type "wrapper_descriptor") = false) (hs : shadowIn od name = some false) (h : Q (f, [.ref x]) s) :
    wpAny (model prog w) A (getMethod (.ref x) name pl) Q E s := by
  unfold getMethod specialOf
  refine wpAny_bind (wpAny_bind (I.type.here ((looks_findIn X hga).here ?_)))
  dsimp only
  rw [canon_list_getattribute, if_neg (by decide)]
  refine wpAny_bind (wpAny_bind (I.type.here ((looks_findIn X hk).here ?_)))
  refine wpAny_bind (wpAny_bind (I.type.here ((looks_findIn X hf).here (wpAny_bind ((looks_typeIn X ht).here ?_)))))
  rw [hb, if_neg (by decide)]
  refine wpAny_bind (wpAny_loadPart I.at_ ?_)
  have hd := I.dict
  cases e : ox.dict with
  | none => exact wpAny_bind (wpAny_rule (wpAny_pure h))
  | some dx =>
    cases od with
    | none => rw [e] at hd; exact hd.elim
    | some o =>
      rw [e] at hd
      obtain ⟨r, a, b⟩ := Option.map_eq_some_iff.mp hs
      refine wpAny_bind (wpAny_bind (wpAny_loadPart hd ?_))
      rw [nsLook_of a]
      refine wpAny_pure ?_
      rw [b]
      exact wpAny_bind (wpAny_rule (wpAny_pure h))
end

section
variable {prog : Program} {w : World} {A : Around} {E : Value → Shared → Prop} {K : Frag} {C x dx D : Addr} {s : Shared} {h₀ : Heap} {L : Addr} {m : Str → Option Value} {news news' : List (Addr × Obj)} {vs : Array Value} {n k : Nat} {t1 t2 : Tok} {b : Bool}
theorem getA_d {expr : Bool} {attr : Option Value} {Q : Value → Shared → Prop} (F : Fr h₀ L s.heap m) (X₀ : K.In h₀) (N : News h₀ L s.heap news) (hx : (x, subObj C dx vs n) ∈ news) (hd : (dx, attrD w.params t1 t2 b D k) ∈ news) (hp : mroL K C = true) (hga : findIn K (.ref C) "__getattribute__" = some (some (.builtin "list.__getattribute__"))) (hk : findIn K (.ref C) "__getattr__" = some none)
    (hh : hasDictIn K C = true) (ha : findIn K (.ref C) "_dict" = some attr) (hn : noGet K attr = true) (h : Q (.ref D) { s with toks := s.toks + 1 }) : wpAny (model prog w) A (getAttr (.ref x) "_dict" expr) Q E s :=
  getL_value (X₀.keeps F.keep) (inst_of_news N hx hd) hp hga hk (findObj_own hh ha hn (get_d (PyData.keyHash w.params (Str.ofString "clean")) (PyData.keyHash w.params (Str.ofString "_dict")) t1 t2 (.bool b) (.ref D))) rfl h
theorem getA_c {expr : Bool} {attr : Option Value} {Q : Value → Shared → Prop} (F : Fr h₀ L s.heap m) (X₀ : K.In h₀) (N : News h₀ L s.heap news) (hx : (x, subObj C dx vs n) ∈ news) (hd : (dx, attrD w.params t1 t2 b D k) ∈ news) (hp : mroL K C = true) (hga : findIn K (.ref C) "__getattribute__" = some (some (.builtin "list.__getattribute__"))) (hk : findIn K (.ref C) "__getattr__" = some none)
    (hh : hasDictIn K C = true) (ha : findIn K (.ref C) "clean" = some attr) (hn : noGet K attr = true) (h : Q (.bool b) { s with toks := s.toks + 1 }) : wpAny (model prog w) A (getAttr (.ref x) "clean" expr) Q E s :=
  getL_value (X₀.keeps F.keep) (inst_of_news N hx hd) hp hga hk (findObj_own hh ha hn (get_c (PyData.keyHash w.params (Str.ofString "clean")) (PyData.keyHash w.params (Str.ofString "_dict")) t1 t2 (.bool b) (.ref D))) rfl h
theorem methA {f tf : Value} {name : Str} {pl : Sem Bool} {Q : Value × List Value → Shared → Prop} (F : Fr h₀ L s.heap m) (X₀ : K.In h₀) (N : News h₀ L s.heap news) (hx : (x, subObj C dx vs n) ∈ news) (hd : (dx, attrD w.params t1 t2 b D k) ∈ news) (hga : findIn K (.ref C) "__getattribute__" = some (some (.builtin "list.__getattribute__"))) (hk : findIn K (.ref C) "__getattr__" = some none)
    (hf : findIn K (.ref C) name = some (some f)) (ht : typeIn K f = some tf) (hb : (tf != .type "function" && tf != .type "method_descriptor" && tf != .type "wrapper_descriptor") = false)
    (hs : getL name [⟨PyData.keyHash w.params (Str.ofString "clean"), .str (Str.ofString "clean") t1, .bool b⟩, ⟨PyData.keyHash w.params (Str.ofString "_dict"), .str (Str.ofString "_dict") t2, .ref D⟩] = some none) (h : Q (f, [.ref x]) s) :
    wpAny (model prog w) A (getMethod (.ref x) name pl) Q E s :=
  methL_any (X₀.keeps F.keep) (inst_of_news N hx hd) hga hk hf ht hb (by show (lookIn name _).map _ = _; rw [lookIn_dict, hs]; rfl) h
end

section
variable {prog : Program} {w : World} {A : Around} {E : Value → Shared → Prop} {K : Frag} {C x dx D : Addr} {s : Shared} {h₀ : Heap} {L : Addr} {m : Str → Option Value} {news news' : List (Addr × Obj)} {vs : Array Value} {n k : Nat} {t1 t2 : Tok} {b : Bool}
theorem contains_own {v : Value} {f : Addr} {Q : Bool → Shared → Prop} (F : Fr h₀ L s.heap m) (X₀ : K.In h₀) (N : News h₀ L s.heap news) (hx : (x, subObj C dx vs n) ∈ news) (hs : findIn K (.ref C) "__contains__" = some (some (.ref f))) (hf : typeIn K (.ref f) = some (.type "function"))
    (h : wpAny (model prog w) A (call (.ref f) [.ref x, v]) (fun r s' => ∃ b, r = .bool b ∧ Q b s') E s) : wpAny (model prog w) A (contains (.ref x) v) Q E s := by
  have X := X₀.keeps F.keep
  have hsp : Looks (model prog w) s.heap (specialOf (.ref x) "__contains__") (some (.ref f)) := Looks.andThen ((Looks.ld (N _ hx).1).andThen .now) (looks_findIn X hs)
  unfold contains
  refine wpAny_holding ?_
  show wpAny _ _ (specialOf (.ref x) "__contains__" >>= _) _ _ _
  refine wpAny_bind (hsp.here ?_)
  rw [if_neg (show ¬ ((some (Value.ref f) == some Value.none) = true) from Bool.false_ne_true)]
  refine wpAny_bind ?_
  unfold callSpecialUnlessNone?
  refine wpAny_bind (hsp.here ?_)
  refine wpAny_holding (wpAny_bind ((bind_fn X (.ref x) hf).here ?_))
  dsimp only
  rw [if_neg (show ¬ ((Value.ref f == Value.none) = true) from Bool.false_ne_true)]
  refine wpAny_bind (wpAny_mono h (fun r s' z => wpAny_pure ?_) fun _ _ z => z)
  obtain ⟨b, rfl, hq⟩ := z
  exact wpAny_truthy_bool hq
theorem in_own {v : Value} {f : Addr} {Q : Value → Shared → Prop} (F : Fr h₀ L s.heap m) (X₀ : K.In h₀) (N : News h₀ L s.heap news) (hx : (x, subObj C dx vs n) ∈ news) (hs : findIn K (.ref C) "__contains__" = some (some (.ref f))) (hf : typeIn K (.ref f) = some (.type "function"))
    (h : wpAny (model prog w) A (call (.ref f) [.ref x, v]) (fun r s' => ∃ b, r = .bool b ∧ Q (.bool b) s') E s) : wpAny (model prog w) A (compareOp .In v (.ref x)) Q E s := by
  show wpAny _ _ (do return .bool (← contains (.ref x) v)) Q E s
  exact wpAny_bind (contains_own F X₀ N hx hs hf (wpAny_mono h (fun r s' z => by obtain ⟨b, e, q⟩ := z; exact ⟨b, e, wpAny_pure q⟩) fun _ _ z => z))
theorem notin_own {v : Value} {f : Addr} {Q : Value → Shared → Prop} (F : Fr h₀ L s.heap m) (X₀ : K.In h₀) (N : News h₀ L s.heap news) (hx : (x, subObj C dx vs n) ∈ news) (hs : findIn K (.ref C) "__contains__" = some (some (.ref f))) (hf : typeIn K (.ref f) = some (.type "function"))
    (h : wpAny (model prog w) A (call (.ref f) [.ref x, v]) (fun r s' => ∃ b, r = .bool b ∧ Q (.bool (!b)) s') E s) : wpAny (model prog w) A (compareOp .NotIn v (.ref x)) Q E s := by
  show wpAny _ _ (do return .bool (!(← contains (.ref x) v))) Q E s
  exact wpAny_bind (contains_own F X₀ N hx hs hf (wpAny_mono h (fun r s' z => by obtain ⟨b, e, q⟩ := z; exact ⟨b, e, wpAny_pure q⟩) fun _ _ z => z))
end
end Mine
end PN

section PO
set_option maxRecDepth 100000
set_option maxHeartbeats 4000000
namespace Mine

section
variable {M : Model} {A : Around} {E : Value → Shared → Prop} {s : Shared}
theorem special_bi {v : Value} {name : Str} {id : String} {args : List Value} {Q : Option Value → Shared → Prop} (hsp : Looks M s.heap (specialOf v name) (some (.builtin id))) (hb : ∀ self, bindSpecial (.builtin id) self = pure (.builtin id, [self]))
    (h : wpAny M A (call (.builtin id) (v :: args)) (fun r => Q (some r)) E s) : wpAny M A (callSpecial? v name args) Q E s := by
  unfold callSpecial?
  refine wpAny_bind (hsp.here ?_)
  refine wpAny_holding ?_
  rw [hb]
  exact wpAny_bind (wpAny_pure (wpAny_bind (wpAny_mono h (fun _ _ z => wpAny_pure z) fun _ _ z => z)))
end

/-- the thing at a is list-like: what is asked of its type -/
structure LL (prog : Program) (w : World) (h : Heap) (a : Addr) : Prop where
  is : Looks (model prog w) h (isInstance (.ref a) (.type "list")) true
  len : Looks (model prog w) h (specialOf (.ref a) "__len__") (some (.builtin "list.__len__"))
  del : Looks (model prog w) h (specialOf (.ref a) "__delitem__") (some (.builtin "list.__delitem__"))
  set : Looks (model prog w) h (specialOf (.ref a) "__setitem__") (some (.builtin "list.__setitem__"))
  key : ∀ k name, Looks (model prog w) h (sequenceKey (.ref a) k name) k

theorem bind_delitem (self : Value) : bindSpecial (.builtin "list.__delitem__") self = pure (.builtin "list.__delitem__", [self]) :=
  (Slot.of (T := "list") (name := "__delitem__") (owner := "list") (n := "__delitem__") (by rw [typeLookup_type, builtinLookup_eq_fast]; kernel_rfl) (by decide +kernel) (by decide +kernel) (by decide +kernel)
    (by first | exact .inl (by decide +kernel) | exact .inr (by decide +kernel)) (by rw [isSubtype_type]; kernel_rfl)).bind self
theorem bind_setitem (self : Value) : bindSpecial (.builtin "list.__setitem__") self = pure (.builtin "list.__setitem__", [self]) :=
  (Slot.of (T := "list") (name := "__setitem__") (owner := "list") (n := "__setitem__") (by rw [typeLookup_type, builtinLookup_eq_fast]; kernel_rfl) (by decide +kernel) (by decide +kernel) (by decide +kernel)
    (by first | exact .inl (by decide +kernel) | exact .inr (by decide +kernel)) (by rw [isSubtype_type]; kernel_rfl)).bind self
theorem look_list_delitem : typeLookup (.type "list") "__delitem__" = pure (some (.builtin "list.__delitem__")) := by rw [typeLookup_type, builtinLookup_eq_fast]; kernel_rfl
theorem look_list_setitem : typeLookup (.type "list") "__setitem__" = pure (some (.builtin "list.__setitem__")) := by rw [typeLookup_type, builtinLookup_eq_fast]; kernel_rfl

section
variable {prog : Program} {w : World} {A : Around} {E : Value → Shared → Prop} {K : Frag} {C x dx D a : Addr} {s : Shared} {h₀ : Heap} {L : Addr} {m : Str → Option Value} {news : List (Addr × Obj)} {vs : Array Value} {n k : Nat}
theorem ll_list (N : News h₀ L s.heap news) (hx : (a, W.listOf vs n) ∈ news) : LL prog w s.heap a := by
  have T : Looks (model prog w) s.heap (typeOf (.ref a)) (.type "list") := (Looks.ld (part := some headPart) (N _ hx).1).andThen .now
  refine ⟨is_list N hx, T.andThen (Looks.of_pure slot_list_len.lookup), T.andThen (Looks.of_pure look_list_delitem), T.andThen (Looks.of_pure look_list_setitem), fun k name => ?_⟩
  unfold sequenceKey
  refine T.andThen ?_
  dsimp only
  rw [if_pos (by decide)]
  exact .now
theorem ll_own (F : Fr h₀ L s.heap m) (X₀ : K.In h₀) (N : News h₀ L s.heap news) (hx : (x, subObj C dx vs n) ∈ news) (hp : mroL K C = true) (hq : noSeq K C = true)
    (h1 : findIn K (.ref C) "__len__" = some (some (.builtin "list.__len__"))) (h2 : findIn K (.ref C) "__delitem__" = some (some (.builtin "list.__delitem__"))) (h3 : findIn K (.ref C) "__setitem__" = some (some (.builtin "list.__setitem__"))) : LL prog w s.heap x := by
  have X := X₀.keeps F.keep
  have T : Looks (model prog w) s.heap (typeOf (.ref x)) (.ref C) := (Looks.ld (part := some headPart) (N _ hx).1).andThen .now
  refine ⟨is_news F X₀ N hx hp, T.andThen (looks_findIn X h1), T.andThen (looks_findIn X h2), T.andThen (looks_findIn X h3), fun k name => ?_⟩
  unfold sequenceKey
  refine T.andThen ?_
  dsimp only
  refine Looks.andThen (anyM_none X hq) ?_
  rw [if_pos (show (!false) = true from rfl)]
  exact .now

theorem ll_len {c : Value} {d : Option Addr} {Q : Value → Shared → Prop} (Y : LL prog w s.heap a) (N : News h₀ L s.heap news) (hx : (a, seqO c d vs n) ∈ news) (hz : vs.size ≤ 1000)
    (h : Q (.int vs.size (s.toks + 1)) { s with toks := s.toks + 2 }) : wpAny (model prog w) A (call (.builtin "len") [.ref a]) Q E s := by
  refine call_function_entry kind_len plain_len entry_len (args_len1 _) ?_
  unfold Builtin.«len»
  refine wpAny_bind (m := oneArg "len" _) (wpAny_pure ?_)
  refine wpAny_bind (m := callSpecial? (.ref a) (Str.ofString "__len__")) (special_bi Y.len slot_list_len.bind (call_bi (.inr (by decide +kernel)) (by decide +kernel : splitId "list.__len__" = some ("list", "__len__")) (by decide +kernel) PySem.entry_list_len Y.is (args_list_len _) ?_))
  show wpAny _ _ (do retInt (← seqSize a)) _ _ s
  unfold seqSize
  refine wpAny_bind (wpAny_bind (wpAny_loadPart (N _ hx).1 ?_))
  refine wpAny_pure (wpAny_bind (wpAny_mkInt (wpAny_pure ?_)))
  show wpAny _ _ _ _ _ _
  refine wpAny_bind (wpAny_holding (wpAny_pure ?_))
  refine wpAny_bind (wpAny_letGo ?_)
  show wpAny _ _ (if ((vs.size : Nat) : Int) < 0 then _ else _) _ _ _
  rw [if_neg (by omega)]
  show wpAny _ _ (if ((vs.size : Nat) : Int) ≥ 2 ^ 63 then _ else _) _ _ _
  rw [if_neg (by omega)]
  exact wpAny_bind (wpAny_mkInt (wpAny_pure ⟨_, rfl, h⟩))

theorem ll_del {c : Value} {d : Option Addr} {i : Int} {t : Tok} {news' : Nat → List (Addr × Obj)} {Q : Unit → Shared → Prop} (Y : LL prog w s.heap a) (F : Fr h₀ L s.heap m) (N : News h₀ L s.heap news)
    (U : ∀ k, Upd a (seqO c d vs n) (seqO c d (vs.eraseIdxIfInBounds i.toNat) k) news (news' k)) (hz : vs.size ≤ 1000) (h0 : 0 ≤ i) (hn : i.toNat < vs.size)
    (h : ∀ k h', Fr h₀ L h' m → News h₀ L h' (news' k) → Q () { s with heap := h' }) : wpAny (model prog w) A (delItem (.ref a) (.int i t)) Q E s := by
  unfold delItem
  refine wpAny_holding (wpAny_bind ((Y.key _ _).here (wpAny_bind (special_bi Y.del bind_delitem (l_delitem F N Y.is U hz h0 hn fun k h' F' N' => wpAny_pure (h k h' F' N'))))))

theorem ll_setslice {c : Value} {d : Option Addr} {sl b : Addr} {p q : Int} {t₁ t₂ : Tok} {us : Array Value} {k₁ : Nat} {osl : Obj} {news' : Nat → List (Addr × Obj)} {Q : Unit → Shared → Prop} (Y : LL prog w s.heap a) (F : Fr h₀ L s.heap m) (N : News h₀ L s.heap news)
    (hsl : s.heap.get? sl = some osl) (hc : osl.cls = .type "slice") (hd : osl.data = .fields #[.int p t₁, .int q t₂, .none]) (hq : q = p + 1) (hb : (b, W.listOf us k₁) ∈ news) (hab : a ≠ b)
    (U : ∀ k, Upd a (seqO c d vs n) (seqO c d (vs.extract 0 p.toNat ++ us ++ vs.extract (p.toNat + 1) vs.size) k) news (news' k)) (hz : vs.size + us.size ≤ 1000) (h0 : 0 ≤ p) (hn : p.toNat < vs.size)
    (h : ∀ k h', Fr h₀ L h' m → News h₀ L h' (news' k) → Q () { s with heap := h' }) : wpAny (model prog w) A (setItem (.ref a) (.ref sl) (.ref b)) Q E s := by
  unfold setItem
  refine wpAny_holding (wpAny_bind ((Y.key _ _).here (wpAny_bind (special_bi Y.set bind_setitem (l_setslice F N Y.is hsl hc hd hq hb hab U hz h0 hn fun k h' F' N' => wpAny_pure (h k h' F' N'))))))
end
theorem meta_of_list : typeOf (.type "list") = pure (.type "type") := by kernel_rfl
end Mine
end PO

section PQ
set_option maxRecDepth 100000
set_option maxHeartbeats 4000000
namespace Mine

def TurnPost3 (h₀ : Heap) (L : Addr) (own : List (Addr × Obj)) (adr : List Addr) (J : (Str → Option Value) → List (Addr × Obj) → Prop) (s : Shared) (Q : Flow → Shared → Prop) (f : Flow) (s₂ : Shared) : Prop :=
  match f with
  | .ret v => Q (.ret v) s₂
  | .brk => Q .next s₂
  | _ => ∃ h' tk m' nx, s₂ = { s with heap := h', toks := tk } ∧ Fr h₀ L h' m' ∧ News h₀ L h' (nx ++ own) ∧ nx.map (·.1) = adr ∧ J m' nx

section
variable {prog : Program} {w : World} {A : Around} {E : Value → Shared → Prop} {s : Shared} {env : Env} {h₀ : Heap} {xi xc : Str} {body : List Stmt} {Q : Flow → Shared → Prop}

theorem loop_enum {e it l : Addr} {lo : Obj} {items : Array Value} {k : Nat} {m₀ : Str → Option Value} {news : List (Addr × Obj)} (J : Nat → (Str → Option Value) → List (Addr × Obj) → Prop)
    (hh : A.handled = none) (he : IsEnum s.heap e it 0 .none) (hit : s.heap.IsListIter it l 0) (hlo : (l, lo) ∈ news) (hc : lo.cls = .type "list") (hd : lo.data = .seq items k)
    (hei : e ≠ it) (hle : l ≠ e) (hli : l ≠ it) (hbe : h₀.get? e = none) (hbi : h₀.get? it = none) (hLe : env.locals ≠ e) (hLi : env.locals ≠ it) (hnw : ∀ p ∈ news, p.1 ≠ e ∧ p.1 ≠ it)
    (F : Fr h₀ env.locals s.heap m₀) (N : News h₀ env.locals s.heap news) (hj : J 0 m₀ news)
    (turn : ∀ i v t m₁ nx h tk own, items[i]? = some v → J i m₁ nx → nx.map (·.1) = news.map (·.1) → (∀ p ∈ own, p.1 = e ∨ p.1 = it ∨ p.1 = l) → Fr h₀ env.locals h (fun y => if y = xc then some v else if y = xi then some (.int (i : Nat) t) else m₁ y) → News h₀ env.locals h (nx ++ own) →
      wpAny (model prog w) A (execs body env) (TurnPost3 h₀ env.locals own (news.map (·.1)) (J (i + 1)) s Q) E { s with heap := h, toks := tk })
    (done : ∀ m₁ nx h tk, J items.size m₁ nx → nx.map (·.1) = news.map (·.1) → Fr h₀ env.locals h m₁ → News h₀ env.locals h nx → Q .next { s with heap := h, toks := tk }) :
    PairAt3 prog w A h₀ env xi xc body Q E (.ref e) s := by
  have hl : s.heap.IsList l items := ⟨lo, (N _ hlo).1, hc, k, hd⟩
  have W := WalksT.enumerate (prog := prog) (w := w) hh e it l hei hle hli items
  refine ⟨e, _, _, items.size, _, _, _, fun i v0 v1 => ∃ t, v0 = .int (i : Nat) t ∧ items[i]? = some v1, m₀, news, J, rfl, W, ?_, ?_, ?_, ?_, ⟨⟨_, he⟩, hit, hl⟩, F, N, hj, ?_, ?_⟩
  · rintro i vals ⟨t, x, hx, rfl⟩
    exact ⟨_, _, rfl, t, rfl, hx⟩
  · intro hm
    simp only [List.mem_cons, List.not_mem_nil, or_false] at hm
    rcases hm with q | q | q
    · exact hLe q
    · exact hLi q
    · exact (N _ hlo).2.1 q.symm
  · intro b hb
    simp only [List.mem_cons, List.not_mem_nil, or_false] at hb
    rcases hb with rfl | rfl
    · exact hbe
    · exact hbi
  · intro p hp hI
    simp only [List.mem_cons, List.not_mem_nil, or_false] at hI
    rcases hI with q | q
    · exact (hnw p hp).1 q
    · exact (hnw p hp).2 q
  · rintro i v0 v1 m₁ nx s₁ own ⟨hh', tk', rfl⟩ hin ⟨t, rfl, hx⟩ hJ hadr hown F₁ N₁
    have N₂ : News h₀ env.locals hh' (nx ++ own) := fun p hp => N₁ p (by rcases List.mem_append.mp hp with h | h; exact List.mem_append.mpr (.inr h); exact List.mem_append.mpr (.inl h))
    refine wpAny_mono (turn i v1 t m₁ nx hh' tk' own hx hJ hadr (fun p hp => by simpa using hown p hp) F₁ N₂) (fun f s₂ p => ?_) fun _ _ e => e
    have fin : (∃ h' tk m' nx', s₂ = { s with heap := h', toks := tk } ∧ Fr h₀ env.locals h' m' ∧ News h₀ env.locals h' (nx' ++ own) ∧ nx'.map (·.1) = news.map (·.1) ∧ J (i + 1) m' nx') → LoopStep2 h₀ env.locals own nx (J (i + 1)) { s with heap := hh', toks := tk' } .next s₂ := by
      rintro ⟨h', tk, m', nx', q, F', N', ha, hJ'⟩
      exact ⟨rfl, h', tk, m', nx', q, F', fun p hp => N' p (by rcases List.mem_append.mp hp with h | h; exact List.mem_append.mpr (.inr h); exact List.mem_append.mpr (.inl h)), ha.trans hadr.symm, hJ'⟩
    cases f with
    | ret v => exact p
    | brk => exact p
    | next => exact fin p
    | cont => exact fin p
  · intro h' tk m' nx F' N' ha hJ
    exact done m' nx h' tk hJ ha F' N'

theorem forE {m : Str → Option Value} {pk pv pt pos : Pos} {x1 : Nat} {iter : Expr} (_F : Fr h₀ env.locals s.heap m) (hh : A.handled = none) (hxi : env.kindOf xi = some .local) (hxc : env.kindOf xc = some .local)
    (hp : (env.scope.kind == .class || (env.scope.kind == .module && env.locals != env.globals)) = false)
    (h : wpAny (model prog w) A (eval iter env) (fun xv s₁ => wpAny (model prog w) A (pyIter xv) (fun it s₂ => PairAt3 prog w A h₀ env xi xc body Q E it s₂) E s₁) E s)
    (hs : ∀ x, foldedSetIterable iter env x = pure x := by intro _; rfl)
    (hE : PassesOwn (model prog w) A env E := by passes_own) :
    wpAny (model prog w) A (exec (.For (.Tuple [.Name xi pk, .Name xc pv] x1 pt) iter body [] pos) env) Q E s := For_pair3 h₀ hh hxi hxc hp h hs hE
end

set_option maxHeartbeats 4000000 in
theorem meets_enum_iter (it l : Addr) :
    Meets (Builtin.«enumerate.__new__» ⟨[.type "enumerate", .ref it], []⟩) (fun _ R s => s.heap.IsListIter it l 0 ∧
      R (.ok (.ret (.ref s.heap.objs.size))) { s with heap := s.heap.push { cls := .type "enumerate", data := .fields #[.none, .bool false, .ref it, rawInt 0, .none, .none] } }) :=
  .of_wp fun prog w A R s h => by
    obtain ⟨hp, g, d, tk, os⟩ := s; obtain ⟨hl, h⟩ := h
    have hsub := sub_enumerate
    obtain ⟨ol, hol, hlc, hld⟩ := id hl
    wp_walk
    refine wpAny_stack_any fun st => wpAny_pure ?_
    split
    · rename_i c _ _ _ _ _
      cases (c == Value.type "enumerate")
      · wp_walk using wpAny_pyIter_listiter hl
        exact ⟨_, rfl, h⟩
      · wp_walk using wpAny_pyIter_listiter hl
        exact ⟨_, rfl, h⟩
    · wp_walk using wpAny_pyIter_listiter hl
      exact ⟨_, rfl, h⟩

section
variable {prog : Program} {w : World} {A : Around} {E : Value → Shared → Prop} {s : Shared}
theorem call_enum_iter {it l : Addr} {Q : Value → Shared → Prop} (hI : s.heap.IsListIter it l 0)
    (h : ∀ h', IsEnum h' s.heap.objs.size it 0 .none → h'.IsListIter it l 0 → (∀ b o, s.heap.get? b = some o → h'.get? b = some o) → Q (.ref s.heap.objs.size) { s with heap := h' }) :
    wpAny (model prog w) A (call (.type "enumerate") [.ref it]) Q E s := by
  refine callType_new PySem.F.called_enumerate (by decide) (PySem.F.typeCall_enumerate_1 _) (PySem.F.newCall_enumerate_1 _) (fun obj => PySem.F.args_object_init_2 obj _) PySem.F.entry_enumerate_new
    (meets_enum_iter it l) ⟨hI, ?_⟩
  show _ ∧ _
  have he : IsEnum (s.heap.push { cls := .type "enumerate", data := .fields #[.none, .bool false, .ref it, rawInt 0, .none, .none] }) s.heap.objs.size it 0 .none := Heap.get?_push_size _ rfl
  exact ⟨⟨_, he, rfl⟩, h _ he (hI.at fun o e => Heap.get?_push_of_some _ e) fun b o x => Heap.get?_push_of_some _ x⟩
end

section
variable {prog : Program} {w : World} {A : Around} {E : Value → Shared → Prop} {s : Shared} {env : Env} {h₀ : Heap} {xi xc : Str} {body : List Stmt} {Q : Flow → Shared → Prop}
theorem enum_list {l : Addr} {us : Array Value} {ku : Nat} {m₀ : Str → Option Value} {news : List (Addr × Obj)} (J : Nat → (Str → Option Value) → List (Addr × Obj) → Prop)
    (hh : A.handled = none) (hlo : (l, W.listOf us ku) ∈ news) (F : Fr h₀ env.locals s.heap m₀) (N : News h₀ env.locals s.heap news) (hj : J 0 m₀ news)
    (turn : ∀ i v t m₁ nx h tk own, us[i]? = some v → J i m₁ nx → nx.map (·.1) = news.map (·.1) → (∀ q ∈ news, q.1 ≠ l → ∀ p ∈ own, p.1 ≠ q.1) → Fr h₀ env.locals h (fun y => if y = xc then some v else if y = xi then some (.int (i : Nat) t) else m₁ y) → News h₀ env.locals h (nx ++ own) →
      wpAny (model prog w) A (execs body env) (TurnPost3 h₀ env.locals own (news.map (·.1)) (J (i + 1)) s Q) E { s with heap := h, toks := tk })
    (done : ∀ m₁ nx h tk, J us.size m₁ nx → nx.map (·.1) = news.map (·.1) → Fr h₀ env.locals h m₁ → News h₀ env.locals h nx → Q .next { s with heap := h, toks := tk }) :
    wpAny (model prog w) A (call (.type "enumerate") [.ref l]) (fun xv s₁ => wpAny (model prog w) A (pyIter xv) (fun it s₂ => PairAt3 prog w A h₀ env xi xc body Q E it s₂) E s₁) E s := by
  have hl := (N _ hlo).1
  have hlt : l < s.heap.objs.size := Heap.lt_size hl
  have hLs : env.locals < s.heap.objs.size := F.ns.lt
  have hnl : ∀ p ∈ news, p.1 < s.heap.objs.size := fun p hp => Heap.lt_size (N p hp).1
  have hnew : ∀ b, s.heap.objs.size ≤ b → h₀.get? b = none := fun b hb => by
    cases e : h₀.get? b with
    | none => rfl
    | some o => exact absurd (Heap.lt_size (F.keep _ _ e)) (Nat.not_lt.mpr hb)
  refine call_enumerate_list (items := us) ⟨_, hl, rfl, ku, rfl⟩ fun h3 hE hIt hsz hk3 => ?_
  refine wpAny_pyIter_enum hE ?_
  refine loop_enum (s := { s with heap := h3 }) (l := l) (lo := W.listOf us ku) (items := us) (k := ku) J hh hE hIt hlo rfl rfl (Nat.succ_ne_self _) (Nat.ne_of_lt (Nat.lt_succ_of_lt hlt)) (Nat.ne_of_lt hlt) (hnew _ (Nat.le_succ _)) (hnew _ (Nat.le_refl _))
    (Nat.ne_of_lt (Nat.lt_succ_of_lt hLs)) (Nat.ne_of_lt hLs) (fun p hp => ⟨Nat.ne_of_lt (Nat.lt_succ_of_lt (hnl p hp)), Nat.ne_of_lt (hnl p hp)⟩) (F.keeps hk3) (N.grown hk3) hj (fun i v t m₁ nx h tk own a b c d e f => turn i v t m₁ nx h tk own a b c (fun q hq hql p hp => ?_) e f) done
  rcases d p hp with e' | e' | e'
  · rw [e']; exact Nat.ne_of_gt (Nat.lt_succ_of_lt (hnl q hq))
  · rw [e']; exact Nat.ne_of_gt (hnl q hq)
  · rw [e']; exact fun e'' => hql e''.symm

theorem enum_iter {l it : Addr} {oI : Obj} {us : Array Value} {ku : Nat} {m₀ : Str → Option Value} {news : List (Addr × Obj)} (J : Nat → (Str → Option Value) → List (Addr × Obj) → Prop)
    (hh : A.handled = none) (hlo : (l, W.listOf us ku) ∈ news) (hcI : oI.cls = .type "list_iterator") (hdI : oI.data = .fields #[.ref l, .int 0 0]) (hnI : ∀ p ∈ news, p.1 ≠ it) (F : Fr h₀ env.locals s.heap m₀) (N : News h₀ env.locals s.heap ((it, oI) :: news)) (hj : J 0 m₀ news)
    (turn : ∀ i v t m₁ nx h tk own, us[i]? = some v → J i m₁ nx → nx.map (·.1) = news.map (·.1) → (∀ q ∈ news, q.1 ≠ l → ∀ p ∈ own, p.1 ≠ q.1) → Fr h₀ env.locals h (fun y => if y = xc then some v else if y = xi then some (.int (i : Nat) t) else m₁ y) → News h₀ env.locals h (nx ++ own) →
      wpAny (model prog w) A (execs body env) (TurnPost3 h₀ env.locals own (news.map (·.1)) (J (i + 1)) s Q) E { s with heap := h, toks := tk })
    (done : ∀ m₁ nx h tk, J us.size m₁ nx → nx.map (·.1) = news.map (·.1) → Fr h₀ env.locals h m₁ → News h₀ env.locals h nx → Q .next { s with heap := h, toks := tk }) :
    wpAny (model prog w) A (call (.type "enumerate") [.ref it]) (fun xv s₁ => wpAny (model prog w) A (pyIter xv) (fun it s₂ => PairAt3 prog w A h₀ env xi xc body Q E it s₂) E s₁) E s := by
  have hNI := N _ (.head _)
  have N' : News h₀ env.locals s.heap news := fun p hp => N p (.tail _ hp)
  have hl := (N' _ hlo).1
  have hlt : l < s.heap.objs.size := Heap.lt_size hl
  have hIt0 : it < s.heap.objs.size := Heap.lt_size hNI.1
  have hLs : env.locals < s.heap.objs.size := F.ns.lt
  have hnl : ∀ p ∈ news, p.1 < s.heap.objs.size := fun p hp => Heap.lt_size (N' p hp).1
  have hnew : ∀ b, s.heap.objs.size ≤ b → h₀.get? b = none := fun b hb => by
    cases e : h₀.get? b with
    | none => rfl
    | some o => exact absurd (Heap.lt_size (F.keep _ _ e)) (Nat.not_lt.mpr hb)
  refine call_enum_iter (it := it) (l := l) ⟨oI, hNI.1, hcI, hdI⟩ fun h3 hE hIt hk3 => ?_
  refine wpAny_pyIter_enum hE ?_
  refine loop_enum (s := { s with heap := h3 }) (l := l) (lo := W.listOf us ku) (items := us) (k := ku) J hh hE hIt hlo rfl rfl (Nat.ne_of_gt hIt0) (Nat.ne_of_lt hlt) (hnI _ hlo) (hnew _ (Nat.le_refl _)) hNI.2.2
    (Nat.ne_of_lt hLs) hNI.2.1.symm (fun p hp => ⟨Nat.ne_of_lt (hnl p hp), hnI p hp⟩) (F.keeps hk3) (N'.grown hk3) hj (fun i v t m₁ nx h tk own a b c d e f => turn i v t m₁ nx h tk own a b c (fun q hq hql p hp => ?_) e f) done
  rcases d p hp with e' | e' | e'
  · rw [e']; exact Nat.ne_of_gt (hnl q hq)
  · rw [e']; exact fun e'' => hnI q hq e''.symm
  · rw [e']; exact fun e'' => hql e''.symm
end
theorem attr_gen {P : Params} {h₀ h : Heap} {L D x dx l : Addr} {o ox ol : Obj} {t1 t2 : Tok} {b : Bool} {k : Nat} {rest : List (Addr × Obj)} (N : News h₀ L h ((D, o) :: (x, ox) :: (dx, attrD P t1 t2 b D k) :: (l, ol) :: rest)) (lo : (D == sysModules) = false) (lD : @LT.lt Nat _ x D ∧ @LT.lt Nat _ dx D ∧ @LT.lt Nat _ l D ∧ AllLt D rest) :
    ∃ D t1 t2, News h₀ L h ((D, o) :: (x, ox) :: (dx, attrD P t1 t2 b D k) :: (l, ol) :: rest) ∧ (D == sysModules) = false ∧ @LT.lt Nat _ x D ∧ @LT.lt Nat _ dx D ∧ @LT.lt Nat _ l D ∧ AllLt D rest := ⟨D, t1, t2, N, lo, lD⟩
theorem in2_one {m : Str → Option Value} {a b : Str} {va vb : Option Value} {k1 : Str} {v1 : Option Value} (h1 : m k1 = v1) : (fun y => if y = a then va else if y = b then vb else m y) = fun y => if y = a then va else if y = b then vb else if y = k1 then v1 else m y := by
  funext y; rw [← congrFun (map_has h1) y]
theorem attr_gen2 {P : Params} {h₀ h : Heap} {L D x dx l it : Addr} {o ox ol oi : Obj} {t1 t2 : Tok} {b : Bool} {k : Nat} {rest : List (Addr × Obj)} (N : News h₀ L h ((D, o) :: (x, ox) :: (dx, attrD P t1 t2 b D k) :: (l, ol) :: (it, oi) :: rest)) (lo : (D == sysModules) = false) (lD : @LT.lt Nat _ x D ∧ @LT.lt Nat _ dx D ∧ @LT.lt Nat _ l D ∧ @LT.lt Nat _ it D ∧ AllLt D rest) :
    ∃ D t1 t2, News h₀ L h ((D, o) :: (x, ox) :: (dx, attrD P t1 t2 b D k) :: (l, ol) :: (it, oi) :: rest) ∧ (D == sysModules) = false ∧ @LT.lt Nat _ x D ∧ @LT.lt Nat _ dx D ∧ @LT.lt Nat _ l D ∧ @Ne Nat D it ∧ AllLt D rest := ⟨D, t1, t2, N, lo, lD.1, lD.2.1, lD.2.2.1, Nat.ne_of_gt lD.2.2.2.1, lD.2.2.2.2⟩
theorem perm5 {h₀ h : Heap} {L : Addr} {a b c d e : Addr × Obj} {rest : List (Addr × Obj)} (N : News h₀ L h (a :: b :: c :: d :: e :: rest)) : News h₀ L h (e :: a :: b :: c :: d :: rest) := fun p hp => N p (by
  simp only [List.mem_cons] at hp ⊢
  rcases hp with h | h | h | h | h | h <;> simp [h])
end Mine
end PQ

section PTop
namespace Mine
set_option maxRecDepth 100000 in
set_option maxHeartbeats 8000000 in
open_top hd for PySem.Challenge.rw_aq6060_01
end Mine
namespace Mine
theorem top_off_Top : True := by
  w_top off
  trivial
end Mine
end PTop

section PR
namespace Mine
theorem top_off_R : True := by
  w_top off
  trivial
end Mine
set_option maxRecDepth 100000
set_option maxHeartbeats 8000000
namespace Mine
theorem fill_once (w : World) (h : Heap) : (hd.heap_39 w.params).In h → model PySem.Challenge.rw_aq6060_01.row.prog w = model PySem.Challenge.rw_aq6060_01.row.prog w := by
  k_fill
  intro _; rfl
theorem mroC (P : Params) : mroL (hd.heap_39 P) 68 = true := by kernel_rfl
local macro_rules | `(tactic| k_inst) => `(tactic| (refine' inst_of_news ?N ?h1 ?h2; (case N => k_asm); (case h1 => k_mem); (case h2 => k_mem)))
local macro_rules | `(tactic| k_all) => `(tactic| first | assumption | exact allNe_all (by assumption) | exact allLt_ne (by assumption) | exact allLt_ne (And.right (by assumption)) | exact allLt_ne (And.right (And.right (by assumption))) | exact allLt_ne (And.right (And.right (And.right (by assumption)))) | exact allLt_ne (And.right (And.right (And.right (And.right (by assumption))))))
local macro_rules | `(tactic| walk_at "setAttr ref") => `(tactic| (k_here; k_dflt (refine' setL_dict ?k1 ?k2 ?k3 ?k4 ?k5 ?k6 ?k7 ?k8 ?k9 ?k10 ?k11 ?k12 ?k13 ?_; (case k1 => k_asm); (case k2 => k_asm); (case k3 => k_asm); (case k4 => k_inst); (case k5 => exact rfl); (case k6 => k_is); (case k7 => exact mroC _); (case k8 => k_is); (case k9 => k_is); (case k10 => k_get); (case k11 => k_put); (case k12 => k_upd); (case k13 => exact Nat.le_of_ble_eq_true rfl); k_whole; intro h' F' N'; (try k_sweep))))
local macro_rules | `(tactic| walk_at "setAttr ref") => `(tactic| (k_here; (first | ((with_reducible show wpAny _ _ (setAttr (Value.ref _) (Str.ofString "_dict") _) _ _ _); k_dflt (refine' set_d ?k1 ?k2 ?k3 ?k4 ?k5 ?k6 ?k7 ?k8 ?k9 ?_)) | ((with_reducible show wpAny _ _ (setAttr (Value.ref _) (Str.ofString "clean") _) _ _ _); k_dflt (refine' set_c ?k1 ?k2 ?k3 ?k4 ?k5 ?k6 ?k7 ?k8 ?k9 ?_))); (case k1 => k_asm); (case k2 => k_asm); (case k3 => k_asm); (case k4 => k_mem); (case k5 => k_dflt k_is); (case k6 => exact mroC _); (case k7 => k_dflt k_is); (case k8 => k_dflt k_is); (case k9 => k_dflt k_upd); k_whole; intro h' F' N'; (try k_sweep)))
local macro_rules | `(tactic| walk_at "eval Dict nil nil") => `(tactic| (k_here; k_dflt (refine' new_dictK ?k1 ?k2 (TopRead.nolimit (by k_asm)) ?_; (case k1 => k_asm); (case k2 => k_asm); k_whole); intro d' h' F' N' l1 lo'; (try k_lt l1); (try k_sweep)))
local macro_rules | `(tactic| walk_at "exec For Name Name cons nil") => `(tactic| (refine Stop.out ?_))
local macro_rules | `(tactic| walk_at "exec For Name Call cons nil") => `(tactic| (refine Stop.out ?_))
local macro_rules | `(tactic| walk_at "exec For Tuple Call cons nil") => `(tactic| (refine Stop.out ?_))
local macro_rules | `(tactic| walk_at "pyIter ref") => `(tactic| ((with_reducible show wpAny _ _ (pyIter (Value.ref _)) (fun it s₂ => LoopAtV _ _ _ _ _ _ _ _ _ it s₂) _ _); refine Stop.out ?_))
local macro_rules | `(tactic| walk_at "compareOp NotIn int ref") => `(tactic| (k_here; k_dflt ((first | refine' dm_notin_t ?k1 ?k2 ?k3 ?k4 ?k5 ?_; (case k1 => k_asm); (case k2 => k_mem); (case k3 => assumption); (case k4 => assumption); (case k5 => assumption) | refine' dm_notin_f ?k1 ?k2 ?k3 ?k4 ?k5 ?_; (case k1 => k_asm); (case k2 => k_mem); (case k3 => assumption); (case k4 => assumption); (case k5 => assumption)))))
local macro_rules | `(tactic| walk_at "compareOp In int ref") => `(tactic| (k_here; k_dflt ((first | refine' dm_in_t ?k1 ?k2 ?k3 ?k4 ?k5 ?_; (case k1 => k_asm); (case k2 => k_mem); (case k3 => assumption); (case k4 => assumption); (case k5 => assumption) | refine' dm_in_f ?k1 ?k2 ?k3 ?k4 ?k5 ?_; (case k1 => k_asm); (case k2 => k_mem); (case k3 => assumption); (case k4 => assumption); (case k5 => assumption)))))
local macro_rules | `(tactic| walk_at "setItem ref int") => `(tactic| (k_here; k_dflt (refine' dm_set ?k1 ?k2 ?k3 ?k4 ?k5 ?_; (case k1 => k_asm); (case k2 => k_asm); (case k3 => k_updF); (case k4 => assumption); (case k5 => omega); k_whole); intro o' h' F' N' x'; (try dsimp only at N'); (try k_sweep)))
local macro_rules | `(tactic| walk_at "getAttr ref") => `(tactic| (k_here; (first | ((with_reducible show wpAny _ _ (getAttr (Value.ref _) (Str.ofString "_dict") _) _ _ _); k_dflt (refine' getA_d ?k1 ?k2 ?k3 ?k4 ?k5 ?k6 ?k7 ?k8 ?k9 ?k10 ?k11 ?_)) | ((with_reducible show wpAny _ _ (getAttr (Value.ref _) (Str.ofString "clean") _) _ _ _); k_dflt (refine' getA_c ?k1 ?k2 ?k3 ?k4 ?k5 ?k6 ?k7 ?k8 ?k9 ?k10 ?k11 ?_))); (case k1 => k_asm); (case k2 => k_asm); (case k3 => k_asm); (case k4 => k_mem); (case k5 => k_mem); (case k6 => exact mroC _); (case k7 => k_dflt k_is); (case k8 => k_dflt k_is); (case k9 => k_dflt k_is); (case k10 => k_dflt k_is); (case k11 => k_dflt k_is); k_whole))
local macro_rules | `(tactic| walk_at "getMethod ref") => `(tactic| (k_here; k_dflt (refine' methA ?k1 ?k2 ?k3 ?k4 ?k5 ?k6 ?k7 ?k8 ?k9 ?k10 ?k11 ?_; (case k1 => k_asm); (case k2 => k_asm); (case k3 => k_asm); (case k4 => k_mem); (case k5 => k_mem); (case k6 => k_is); (case k7 => k_is); (case k8 => k_is); (case k9 => k_is); (case k10 => decide); (case k11 => k_get); k_whole)))
local macro_rules | `(tactic| walk_at "compareOp In int ref") => `(tactic| (k_here; k_dflt (refine' in_own ?k1 ?k2 ?k3 ?k4 ?k5 ?k6 ?_; (case k1 => k_asm); (case k2 => k_asm); (case k3 => k_asm); (case k4 => k_mem); (case k5 => k_is); (case k6 => k_is); k_whole)))
local macro_rules | `(tactic| walk_at "compareOp NotIn int ref") => `(tactic| (k_here; k_dflt (refine' notin_own ?k1 ?k2 ?k3 ?k4 ?k5 ?k6 ?_; (case k1 => k_asm); (case k2 => k_asm); (case k3 => k_asm); (case k4 => k_mem); (case k5 => k_is); (case k6 => k_is); k_whole)))
local macro_rules | `(tactic| walk_at "compareOp In int ref") => `(tactic| (k_here; k_dflt (refine' dm_in ?k1 ?k2 ?k3 ?k4 ?_; (case k1 => k_asm); (case k2 => k_mem); (case k3 => assumption); (case k4 => assumption))))
local macro_rules | `(tactic| walk_at "compareOp In int ref") => `(tactic| (k_here; k_dflt (first | refine' dm_in_t ?k1 ?k2 ?k3 ?k4 ?k5 ?_; (case k1 => k_asm); (case k2 => k_mem); (case k3 => assumption); (case k4 => assumption); (case k5 => assumption) | refine' dm_in_f ?k1 ?k2 ?k3 ?k4 ?k5 ?_; (case k1 => k_asm); (case k2 => k_mem); (case k3 => assumption); (case k4 => assumption); (case k5 => assumption))))
local macro_rules | `(tactic| walk_at "compareOp NotIn int ref") => `(tactic| (k_here; k_dflt (first | refine' dm_notin_t ?k1 ?k2 ?k3 ?k4 ?k5 ?_; (case k1 => k_asm); (case k2 => k_mem); (case k3 => assumption); (case k4 => assumption); (case k5 => assumption) | refine' dm_notin_f ?k1 ?k2 ?k3 ?k4 ?k5 ?_; (case k1 => k_asm); (case k2 => k_mem); (case k3 => assumption); (case k4 => assumption); (case k5 => assumption))))
local macro_rules | `(tactic| walk_at "subscriptTail") => `(tactic| (k_here; (with_reducible show wpAny _ _ (subscriptTail _ _ (Value.ref _) (Value.int _ _)) _ _ _); k_dflt (refine' dm_tail ?k1 ?k2 ?k3 ?k4 ?_; (case k1 => k_asm); (case k2 => k_mem); (case k3 => assumption); (case k4 => assumption))))
local macro_rules | `(tactic| walk_at "call ref") => `(tactic| ((first | (with_reducible show wpAny _ _ (call (Value.ref 37) _) _ _ _) | (with_reducible show wpAny _ _ (call (Value.ref 44) _) _ _ _) | (with_reducible show wpAny _ _ (call (Value.ref 51) _) _ _ _) | (with_reducible show wpAny _ _ (call (Value.ref 58) _) _ _ _) | (with_reducible show wpAny _ _ (call (Value.ref 65) _) _ _ _) | (with_reducible show wpAny _ _ (call (Value.ref 68) _) _ _ _) | (with_reducible show wpAny _ _ (call (Value.ref 79) _) _ _ _) | (with_reducible show wpAny _ _ (call (Value.ref 86) _) _ _ _) | (with_reducible show wpAny _ _ (call (Value.ref 93) _) _ _ _)); refine Stop.out ?_))
local macro_rules | `(tactic| walk_at "call builtin:len") => `(tactic| (k_here; (with_reducible show wpAny _ _ (call (Value.builtin "len") [Value.ref _]) _ _ _); k_dflt (refine' ll_len ?Y ?N ?hx ?hz ?_; (case N => k_asm); (case hx => k_mem); (case Y => (first | exact ll_own (by k_asm) (by k_asm) (by k_asm) (by k_mem) (mroC _) (by k_is) (by k_is) (by k_is) (by k_is) | exact ll_list (by k_asm) (by k_mem))); (case hz => first | omega | (simp only [Array.size_push]; omega)))))
local macro_rules | `(tactic| walk_at "call builtin:list.append") => `(tactic| (k_here; (with_reducible show wpAny _ _ (call (Value.builtin _) [Value.ref _, _]) _ _ _); k_dflt (refine' l_append ?F ?N ?hi ?U ?hz ?_; (case F => k_asm); (case N => k_asm); (case U => (intro k'; k_upd)); (case hi => first | exact is_news (by k_asm) (by k_asm) (by k_asm) (by k_mem) (mroC _) | exact is_list (by k_asm) (by k_mem)); (case hz => first | omega | (simp only [Array.size_push]; omega)); k_whole); intro k' h' F' N'; (try dsimp only at N'); (try k_sweep)))
local macro_rules | `(tactic| walk_at "getMethod type:list") => `(tactic| (k_here; refine' method_type ?F ?X ?m (by decide +kernel) ?e ?h ?_; (case F => k_asm); (case X => k_asm); (case m => exact meta_of_list); (case e => k_dflt k_is); (case h => k_handed)))
local macro_rules | `(tactic| walk_at "call type:enumerate") => `(tactic| (refine Stop.out ?_))
local macro_rules | `(tactic| ktr_enter) => `(tactic| (refine' code_def ?k1 ?k2 ?k3 ?k4 ?k5 ?kA ?kF ?kK ?k6 ?k7 ?k8 ?k9 ?kB ?_ ?c2 ?c3 ?c4 ?c5; (case kA => exact rfl); (case kF => exact rfl); (case kK => first | assumption | exact rfl); (case k1 => k_asm); (case k2 => k_asm); (case k3 => k_asm); (case k4 => k_asm); (case k5 => k_asm); (case k6 => k_is); (case k7 => k_is); (case k8 => ktr_room); (case k9 => first | exact BindsTo.of_eq rfl | exact binds_K (by k_in) rfl (by k_is) rfl rfl rfl); (case c5 => decide); (case kB => exact locs rfl); (case c2 => exact rfl); (case c3 => exact rfl); (case c4 => exact rfl); k_whole; intro g' L' h' FG' F' N' B' X' T'; (try dsimp only); (try k_fold)))
local macro_rules | `(tactic| walk_at "call type:list") => `(tactic| (k_here; (with_reducible show wpAny _ _ (call (Value.type "list") [Value.ref _]) _ _ _); k_dflt (refine' l_copy ?hh ?F ?X ?N ?hx ?hz (mroC _) ?h0 ?h1 ?h2 ?h3 ?h4 ?_; (case hh => exact rfl); (case F => k_asm); (case X => k_asm); (case N => k_asm); (case hx => k_mem); (case hz => omega); (case h0 => k_is); (case h1 => k_is); (case h2 => k_is); (case h3 => k_is); (case h4 => k_is); k_whole); intro l9 k9 h' tk9 F' N' lt9; (try k_sweep)))
local macro_rules | `(tactic| walk_at "subscriptTail") => `(tactic| (k_here; (with_reducible show wpAny _ _ (subscriptTail _ _ (Value.ref _) (Value.int _ _)) _ _ _); k_dflt (refine' li_tail ?k1 ?k2 ?k3 ?k4 ?_; (case k1 => k_asm); (case k2 => k_mem); (case k3 => assumption); (case k4 => omega))))
local macro_rules | `(tactic| walk_at "exec Raise some none") => `(tactic| (k_here; (with_reducible show wpAny _ _ (exec (Stmt.Raise (some (Expr.Name ("ValueError" : Str) _)) none _) _) _ _ _); (with_reducible rename Fr _ _ _ _ => kF); k_dflt (refine' raise_VE ?hh ?hs ?hx ?_; (case hh => rfl); (case hs => rw [isSubtype_type]; kernel_rfl); (case hx => (refine' name_B kF ?k1 ?k2 ?k3 ?k4 ?k5 ?_; (case k1 => k_asm); (case k2 => k_asm); (case k3 => k_is); (case k4 => boot_by_name); (case k5 => decide); exact ⟨rfl, rfl⟩)))))
local macro_rules | `(tactic| walk_at "my ask") => `(tactic| ((refine' code_ask ?k1 ?k2 ?k3 ?k4 ?k5 ?kA ?kF ?cK ?k6 ?k7 ?k8 ?k9 ?kB ?_ ?c2 ?c3 ?c4 ?c5; (case kA => exact rfl); (case kF => exact rfl); (case k2 => k_asm); (case k1 => k_asm); (case k3 => k_asm); (case k4 => k_asm); (case k5 => k_asm); (case k6 => k_is); (case k7 => k_is); (case k8 => ktr_room); (case k9 => first | exact BindsTo.of_eq rfl | exact binds_K (by k_in) rfl (by k_is) rfl rfl rfl); (case kB => exact locs rfl); (case cK => first | assumption | exact rfl); (case c2 => exact rfl); (case c3 => exact rfl); (case c4 => exact rfl); (case c5 => decide); k_whole; intro g' L' h' FG' F' N' B' X' T' D'; (try dsimp only); (try k_lift B'); (try k_fold))))
local macro_rules | `(tactic| walk_at "call builtin:list.insert") => `(tactic| (k_here; (with_reducible show wpAny _ _ (call (Value.builtin _) [Value.ref _, Value.int _ _, _]) _ _ _); k_dflt (refine' l_insert ?F ?N ?hi ?U ?hz ?h0 ?hn ?_; (case F => k_asm); (case N => k_asm); (case U => (intro k'; k_upd)); (case hi => (first | exact is_news (by k_asm) (by k_asm) (by k_asm) (by k_mem) (mroC _) | exact is_list (by k_asm) (by k_mem))); (case hz => omega); (case h0 => omega); (case hn => omega); k_whole); intro k' h' F' N'; (try dsimp only at N'); (try k_sweep)))
local macro_rules | `(tactic| walk_at "call builtin:list.extend") => `(tactic| (k_here; (with_reducible show wpAny _ _ (call (Value.builtin _) [Value.ref _, Value.ref _]) _ _ _); k_dflt (refine' l_extend ?F ?N ?hi ?hb ?U ?hz ?_; (case F => k_asm); (case N => k_asm); (case hb => k_mem); (case U => (intro k'; k_upd)); (case hi => (first | exact is_news (by k_asm) (by k_asm) (by k_asm) (by k_mem) (mroC _) | exact is_list (by k_asm) (by k_mem))); (case hz => (first | omega | (simp only [List.size_toArray, List.length_cons, List.length_nil]; omega))); k_whole); intro k' h' F' N'; (try dsimp only at N'); (try k_sweep)))
local macro_rules | `(tactic| walk_at "call builtin:list.reverse") => `(tactic| (k_here; (with_reducible show wpAny _ _ (call (Value.builtin _) [Value.ref _]) _ _ _); k_dflt (refine' l_reverse ?F ?N ?hi ?U ?hz ?_; (case F => k_asm); (case N => k_asm); (case U => (intro k'; k_upd)); (case hi => (first | exact is_news (by k_asm) (by k_asm) (by k_asm) (by k_mem) (mroC _) | exact is_list (by k_asm) (by k_mem))); (case hz => omega); k_whole); intro k' h' F' N'; (try dsimp only at N'); (try k_sweep)))
local macro_rules | `(tactic| walk_at "call builtin:list.sort") => `(tactic| (k_here; (with_reducible show wpAny _ _ (call (Value.builtin _) [Value.ref _]) _ _ _); k_dflt (refine' l_sort ?F ?N ?hi ?U ?hI ?h64 ?_; (case F => k_asm); (case N => k_asm); (case U => k_updF); (case hi => (first | exact is_news (by k_asm) (by k_asm) (by k_asm) (by k_mem) (mroC _) | exact is_list (by k_asm) (by k_mem))); (case hI => assumption); (case h64 => omega); k_whole); intro out ns' k' h' iI iP iS F' N'; (try dsimp only at N'); (try k_sweep)))
local macro_rules | `(tactic| walk_at "call builtin:list.pop") => `(tactic| (k_here; (with_reducible show wpAny _ _ (call (Value.builtin _) [Value.ref _, Value.int _ _]) _ _ _); k_dflt (refine' l_pop ?F ?N ?hi ?U ?hz ?h0 ?hv ?_; (case F => k_asm); (case N => k_asm); (case U => (intro k'; k_upd)); (case hi => (first | exact is_news (by k_asm) (by k_asm) (by k_asm) (by k_mem) (mroC _) | exact is_list (by k_asm) (by k_mem))); (case hz => omega); (case h0 => omega); (case hv => assumption); k_whole); intro k' h' F' N'; (try dsimp only at N'); (try k_sweep)))
local macro_rules | `(tactic| walk_at "call builtin:list.remove") => `(tactic| (k_here; (with_reducible show wpAny _ _ (call (Value.builtin _) [Value.ref _, Value.int _ _]) _ _ _); k_dflt (refine' l_remove ?F ?N ?hi ?U ?hz ?hI ?hj ?hno ?_; (case F => k_asm); (case N => k_asm); (case U => (intro k'; k_upd)); (case hI => assumption); (case hj => assumption); (case hno => assumption); (case hi => (first | exact is_news (by k_asm) (by k_asm) (by k_asm) (by k_mem) (mroC _) | exact is_list (by k_asm) (by k_mem))); (case hz => omega); k_whole); intro k' h' F' N'; (try dsimp only at N'); (try k_sweep)))
local macro_rules | `(tactic| walk_at "delItem ref int") => `(tactic| (k_here; k_dflt (refine' ll_del ?Y ?F ?N ?U ?hz ?h0 ?hn ?_; (case F => k_asm); (case N => k_asm); (case U => (intro k'; k_upd)); (case Y => (first | exact ll_own (by k_asm) (by k_asm) (by k_asm) (by k_mem) (mroC _) (by k_is) (by k_is) (by k_is) (by k_is) | exact ll_list (by k_asm) (by k_mem))); (case hz => omega); (case h0 => omega); (case hn => omega); k_whole); intro k' h' F' N'; (try dsimp only at N'); (try k_sweep)))
local macro_rules | `(tactic| walk_at "setItem ref ref") => `(tactic| (k_here; k_dflt (refine' set_slice_p ?F ?N ?he ?hs ?hq ?hb ?hab ?Y ?U ?hz ?h0 ?hn ?_; (case F => k_asm); (case N => k_asm); (case he => exact rfl); (case hs => exact rfl); (case hq => exact rfl); (case hb => k_mem); (case hab => k_ne); (case Y => (intro s' F' N'; (first | exact ll_own (by k_asm) (by k_asm) (by k_asm) (by k_mem) (mroC _) (by k_is) (by k_is) (by k_is) (by k_is) | exact ll_list (by k_asm) (by k_mem)))); (case U => (intro k'; k_upd)); (case hz => (first | omega | (simp only [List.size_toArray, List.length_cons, List.length_nil]; omega))); (case h0 => omega); (case hn => omega); k_whole); intro k' h' F' N'; (try dsimp only at N'); (try k_sweep)))
local macro_rules | `(tactic| walk_at "pad 0") => `(tactic| skip)
local macro_rules | `(tactic| walk_at "pad 1") => `(tactic| skip)
local macro_rules | `(tactic| walk_at "pad 2") => `(tactic| skip)
local macro_rules | `(tactic| walk_at "pad 3") => `(tactic| skip)
local macro_rules | `(tactic| walk_at "pad 4") => `(tactic| skip)
local macro_rules | `(tactic| walk_at "pad 5") => `(tactic| skip)
local macro_rules | `(tactic| walk_at "pad 6") => `(tactic| skip)
local macro_rules | `(tactic| walk_at "pad 7") => `(tactic| skip)
local macro_rules | `(tactic| walk_at "pad 8") => `(tactic| skip)
local macro_rules | `(tactic| walk_at "pad 9") => `(tactic| skip)
local macro_rules | `(tactic| walk_at "pad 10") => `(tactic| skip)
local macro_rules | `(tactic| walk_at "pad 11") => `(tactic| skip)
local macro_rules | `(tactic| walk_at "pad 12") => `(tactic| skip)
local macro_rules | `(tactic| walk_at "pad 13") => `(tactic| skip)
local macro_rules | `(tactic| walk_at "pad 14") => `(tactic| skip)
local macro_rules | `(tactic| walk_at "pad 15") => `(tactic| skip)
local macro_rules | `(tactic| walk_at "pad 16") => `(tactic| skip)
local macro_rules | `(tactic| walk_at "pad 17") => `(tactic| skip)
local macro_rules | `(tactic| walk_at "pad 18") => `(tactic| skip)
local macro_rules | `(tactic| walk_at "pad 19") => `(tactic| skip)
local macro_rules | `(tactic| walk_at "pad 20") => `(tactic| skip)
local macro_rules | `(tactic| walk_at "pad 21") => `(tactic| skip)
local macro_rules | `(tactic| walk_at "pad 22") => `(tactic| skip)
local macro_rules | `(tactic| walk_at "pad 23") => `(tactic| skip)
local macro_rules | `(tactic| walk_at "pad 24") => `(tactic| skip)
local macro_rules | `(tactic| walk_at "pad 25") => `(tactic| skip)
local macro_rules | `(tactic| walk_at "pad 26") => `(tactic| skip)
local macro_rules | `(tactic| walk_at "pad 27") => `(tactic| skip)
local macro_rules | `(tactic| walk_at "pad 28") => `(tactic| skip)
local macro_rules | `(tactic| walk_at "pad 29") => `(tactic| skip)
local macro_rules | `(tactic| walk_at "pad 30") => `(tactic| skip)
local macro_rules | `(tactic| walk_at "pad 31") => `(tactic| skip)
local macro_rules | `(tactic| walk_at "pad 32") => `(tactic| skip)
section
variable {w : World} {p : Program} {loose : List Str} {mean : ExcName → Option Value} {mg mb : Str → Option Value}
  {dp un : Nat} {gd : Option (List Code)} {cn : Str} {cs : Scope} {ca : Addr} {ccd : Value} {cl : List (Str × Addr)} {outer : List Env} {A₀ : Around} {base h₀ : Heap} {L : Addr} {m : Str → Option Value} {s : Shared} {Q E : Value → Shared → Prop}

theorem rebuild_spec {x dx D : Addr} {vs : Array Value} {n k : Nat} {t1 t2 : Tok} {b : Bool} {ns : List Int} {rest : List (Addr × Obj)}
    (B : Below A₀ base outer h₀) (F : Fr h₀ L s.heap m) (X : (hd.heap_39 w.params).In h₀) (T : Top p loose mean mg mb h₀) (hk : cs.kind = .function) (hdp : dp + 3 < recursionLimit) (hun : un + 100 < cLine)
    (N : News h₀ L s.heap ((x, subObj 68 dx vs n) :: (dx, attrD w.params t1 t2 b D k) :: rest)) (l1 : x ≠ dx) (l2 : ∀ p ∈ rest, p.1 ≠ dx)
    (hI : IntsAre vs.toList ns) (hz : vs.size ≤ 100) (hn : ns.Nodup)
    (ret : ∀ D' o' f h' tk', Fr h₀ L h' m → News h₀ L h' ((D', o') :: (x, subObj 68 dx vs n) :: (dx, attrD w.params t1 t2 true D' k) :: rest) → DM PySem.Challenge.rw_aq6060_01.row.prog w o' f ns.length → Idx f ns →
      (D' == sysModules) = false → x < D' ∧ dx < D' ∧ AllLt D' rest → Q .none { s with heap := h', toks := tk' }) :
    wpAny (model PySem.Challenge.rw_aq6060_01.row.prog w) (ktrTop dp un gd cn cs L ca ccd cl outer) (call (.ref 37) [.ref x]) Q E s := by
  refine wpAny_call ?_
  k_dflt ktr_enter
  k_steps
  refine ⟨?_⟩
  rename Fr _ _ _ _ => F1
  with_unfolding_all refine forF F1 (by exact rfl) (by exact rfl) ?_
  k_steps
  refine ⟨?_⟩
  rename Fr _ _ _ _ => F1
  rename News _ _ _ _ => N1
  rename _ ∧ _ ∧ AllLt _ _ => lD
  rename (_ == sysModules) = false => lo
  rename Addr => D'
  refine loop_seq (items := vs) (k := n) (o := subObj 68 dx vs n) (news := (D', dictOf [] 0) :: (x, subObj 68 dx vs n) :: (dx, attrD w.params t1 t2 b D' k) :: rest)
    (fun i m' nx => m' (Str.ofString "self") = some (.ref x) ∧ (∃ t, m' (Str.ofString "idx") = some (.int (i : Nat) t)) ∧
    ∃ o f, DM PySem.Challenge.rw_aq6060_01.row.prog w o f i ∧ Idx f (ns.take i) ∧ nx = (D', o) :: (x, subObj 68 dx vs n) :: (dx, attrD w.params t1 t2 b D' k) :: rest)
    rfl rfl (.tail _ (.head _)) F1 N1 ⟨rfl, ⟨_, rfl⟩, _, _, DM.nil _ _ 0, Idx.nil, rfl⟩ ?keep ?py ?turn ?done
  case keep => rintro i m' nx ⟨-, -, o, f, -, -, rfl⟩; exact .tail _ (.head _)
  case py => exact iter_news F1 (by k_in) N1 (.tail _ (.head _)) (mroC _) (by k_dflt k_is)
  case turn =>
    rintro i v m₁ nx h2 tk2 oI hv ⟨hs, ⟨ti, hi⟩, o, f, hD, hf, rfl⟩ hoff F2 N2
    obtain ⟨y, ty, rfl, hy⟩ := ia_at hI hv
    have hfy : f y = none := hf.2 y (not_mem_take hn hy)
    have hlt : i < 100 := Nat.lt_of_lt_of_le (Array.getElem?_eq_some_iff.mp hv).1 hz
    replace hoff := allNe_of hoff
    simp only [AllNe] at hoff
    obtain ⟨q1, q2, q3, q4⟩ := hoff
    obtain ⟨p1, p2, p3⟩ := lD
    have F3 := fr_as F2 (in_two hi hs)
    clear F2 hs hi
    k_steps
    rename Fr _ _ _ _ => F4
    rename News _ _ _ _ => N4
    rename DM _ _ _ _ _ => D4
    have hil : i < ns.length := (List.getElem?_eq_some_iff.mp hy).1
    exact ⟨_, _, _, _, rfl, F4, N4, allNe_all ⟨q1, q2, q3, q4⟩, rfl, ⟨_, rfl⟩, _, _, D4, by rw [take_succ_of hy]; exact hf.step (not_mem_take hn hy) (by rw [List.length_take]; omega), rfl⟩
  case done =>
    rintro m₁ nx h2 tk2 ⟨hs, ⟨ti, hi⟩, o, f, hD, hf, rfl⟩ hoff F2 N2
    rw [ia_size hI, List.take_length] at hf
    rw [ia_size hI] at hD
    have F3 := fr_as F2 (map_has hs)
    clear F2 hs hi
    k_steps
    rename Fr h₀ _ _ _ => kF
    rename News h₀ _ _ _ => kN
    exact ret _ _ _ _ _ kF kN hD hf lo lD
end
end Mine
end PR

section PS
namespace Mine
theorem top_off_S : True := by
  w_top off
  trivial
end Mine
set_option maxRecDepth 100000
set_option maxHeartbeats 8000000
namespace Mine
local macro_rules | `(tactic| k_inst) => `(tactic| (refine' inst_of_news ?N ?h1 ?h2; (case N => k_asm); (case h1 => k_mem); (case h2 => k_mem)))
local macro_rules | `(tactic| k_all) => `(tactic| first | assumption | exact allNe_all (by assumption) | exact allLt_ne (by assumption) | exact allLt_ne (And.right (by assumption)) | exact allLt_ne (And.right (And.right (by assumption))) | exact allLt_ne (And.right (And.right (And.right (by assumption)))) | exact allLt_ne (And.right (And.right (And.right (And.right (by assumption))))))
local macro_rules | `(tactic| walk_at "setAttr ref") => `(tactic| (k_here; k_dflt (refine' setL_dict ?k1 ?k2 ?k3 ?k4 ?k5 ?k6 ?k7 ?k8 ?k9 ?k10 ?k11 ?k12 ?k13 ?_; (case k1 => k_asm); (case k2 => k_asm); (case k3 => k_asm); (case k4 => k_inst); (case k5 => exact rfl); (case k6 => k_is); (case k7 => exact mroC _); (case k8 => k_is); (case k9 => k_is); (case k10 => k_get); (case k11 => k_put); (case k12 => k_upd); (case k13 => exact Nat.le_of_ble_eq_true rfl); k_whole; intro h' F' N'; (try k_sweep))))
local macro_rules | `(tactic| walk_at "setAttr ref") => `(tactic| (k_here; (first | ((with_reducible show wpAny _ _ (setAttr (Value.ref _) (Str.ofString "_dict") _) _ _ _); k_dflt (refine' set_d ?k1 ?k2 ?k3 ?k4 ?k5 ?k6 ?k7 ?k8 ?k9 ?_)) | ((with_reducible show wpAny _ _ (setAttr (Value.ref _) (Str.ofString "clean") _) _ _ _); k_dflt (refine' set_c ?k1 ?k2 ?k3 ?k4 ?k5 ?k6 ?k7 ?k8 ?k9 ?_))); (case k1 => k_asm); (case k2 => k_asm); (case k3 => k_asm); (case k4 => k_mem); (case k5 => k_dflt k_is); (case k6 => exact mroC _); (case k7 => k_dflt k_is); (case k8 => k_dflt k_is); (case k9 => k_dflt k_upd); k_whole; intro h' F' N'; (try k_sweep)))
local macro_rules | `(tactic| walk_at "eval Dict nil nil") => `(tactic| (k_here; k_dflt (refine' new_dictK ?k1 ?k2 (TopRead.nolimit (by k_asm)) ?_; (case k1 => k_asm); (case k2 => k_asm); k_whole); intro d' h' F' N' l1 lo'; (try k_lt l1); (try k_sweep)))
local macro_rules | `(tactic| walk_at "exec For Name Name cons nil") => `(tactic| (refine Stop.out ?_))
local macro_rules | `(tactic| walk_at "exec For Name Call cons nil") => `(tactic| (refine Stop.out ?_))
local macro_rules | `(tactic| walk_at "exec For Tuple Call cons nil") => `(tactic| (refine Stop.out ?_))
local macro_rules | `(tactic| walk_at "pyIter ref") => `(tactic| ((with_reducible show wpAny _ _ (pyIter (Value.ref _)) (fun it s₂ => LoopAtV _ _ _ _ _ _ _ _ _ it s₂) _ _); refine Stop.out ?_))
local macro_rules | `(tactic| walk_at "compareOp NotIn int ref") => `(tactic| (k_here; k_dflt ((first | refine' dm_notin_t ?k1 ?k2 ?k3 ?k4 ?k5 ?_; (case k1 => k_asm); (case k2 => k_mem); (case k3 => assumption); (case k4 => assumption); (case k5 => assumption) | refine' dm_notin_f ?k1 ?k2 ?k3 ?k4 ?k5 ?_; (case k1 => k_asm); (case k2 => k_mem); (case k3 => assumption); (case k4 => assumption); (case k5 => assumption)))))
local macro_rules | `(tactic| walk_at "compareOp In int ref") => `(tactic| (k_here; k_dflt ((first | refine' dm_in_t ?k1 ?k2 ?k3 ?k4 ?k5 ?_; (case k1 => k_asm); (case k2 => k_mem); (case k3 => assumption); (case k4 => assumption); (case k5 => assumption) | refine' dm_in_f ?k1 ?k2 ?k3 ?k4 ?k5 ?_; (case k1 => k_asm); (case k2 => k_mem); (case k3 => assumption); (case k4 => assumption); (case k5 => assumption)))))
local macro_rules | `(tactic| walk_at "setItem ref int") => `(tactic| (k_here; k_dflt (refine' dm_set ?k1 ?k2 ?k3 ?k4 ?k5 ?_; (case k1 => k_asm); (case k2 => k_asm); (case k3 => k_updF); (case k4 => assumption); (case k5 => omega); k_whole); intro o' h' F' N' x'; (try dsimp only at N'); (try k_sweep)))
local macro_rules | `(tactic| walk_at "getAttr ref") => `(tactic| (k_here; (first | ((with_reducible show wpAny _ _ (getAttr (Value.ref _) (Str.ofString "_dict") _) _ _ _); k_dflt (refine' getA_d ?k1 ?k2 ?k3 ?k4 ?k5 ?k6 ?k7 ?k8 ?k9 ?k10 ?k11 ?_)) | ((with_reducible show wpAny _ _ (getAttr (Value.ref _) (Str.ofString "clean") _) _ _ _); k_dflt (refine' getA_c ?k1 ?k2 ?k3 ?k4 ?k5 ?k6 ?k7 ?k8 ?k9 ?k10 ?k11 ?_))); (case k1 => k_asm); (case k2 => k_asm); (case k3 => k_asm); (case k4 => k_mem); (case k5 => k_mem); (case k6 => exact mroC _); (case k7 => k_dflt k_is); (case k8 => k_dflt k_is); (case k9 => k_dflt k_is); (case k10 => k_dflt k_is); (case k11 => k_dflt k_is); k_whole))
local macro_rules | `(tactic| walk_at "getMethod ref") => `(tactic| (k_here; k_dflt (refine' methA ?k1 ?k2 ?k3 ?k4 ?k5 ?k6 ?k7 ?k8 ?k9 ?k10 ?k11 ?_; (case k1 => k_asm); (case k2 => k_asm); (case k3 => k_asm); (case k4 => k_mem); (case k5 => k_mem); (case k6 => k_is); (case k7 => k_is); (case k8 => k_is); (case k9 => k_is); (case k10 => decide); (case k11 => k_get); k_whole)))
local macro_rules | `(tactic| walk_at "compareOp In int ref") => `(tactic| (k_here; k_dflt (refine' in_own ?k1 ?k2 ?k3 ?k4 ?k5 ?k6 ?_; (case k1 => k_asm); (case k2 => k_asm); (case k3 => k_asm); (case k4 => k_mem); (case k5 => k_is); (case k6 => k_is); k_whole)))
local macro_rules | `(tactic| walk_at "compareOp NotIn int ref") => `(tactic| (k_here; k_dflt (refine' notin_own ?k1 ?k2 ?k3 ?k4 ?k5 ?k6 ?_; (case k1 => k_asm); (case k2 => k_asm); (case k3 => k_asm); (case k4 => k_mem); (case k5 => k_is); (case k6 => k_is); k_whole)))
local macro_rules | `(tactic| walk_at "compareOp In int ref") => `(tactic| (k_here; k_dflt (refine' dm_in ?k1 ?k2 ?k3 ?k4 ?_; (case k1 => k_asm); (case k2 => k_mem); (case k3 => assumption); (case k4 => assumption))))
local macro_rules | `(tactic| walk_at "compareOp In int ref") => `(tactic| (k_here; k_dflt (first | refine' dm_in_t ?k1 ?k2 ?k3 ?k4 ?k5 ?_; (case k1 => k_asm); (case k2 => k_mem); (case k3 => assumption); (case k4 => assumption); (case k5 => assumption) | refine' dm_in_f ?k1 ?k2 ?k3 ?k4 ?k5 ?_; (case k1 => k_asm); (case k2 => k_mem); (case k3 => assumption); (case k4 => assumption); (case k5 => assumption))))
local macro_rules | `(tactic| walk_at "compareOp NotIn int ref") => `(tactic| (k_here; k_dflt (first | refine' dm_notin_t ?k1 ?k2 ?k3 ?k4 ?k5 ?_; (case k1 => k_asm); (case k2 => k_mem); (case k3 => assumption); (case k4 => assumption); (case k5 => assumption) | refine' dm_notin_f ?k1 ?k2 ?k3 ?k4 ?k5 ?_; (case k1 => k_asm); (case k2 => k_mem); (case k3 => assumption); (case k4 => assumption); (case k5 => assumption))))
local macro_rules | `(tactic| walk_at "subscriptTail") => `(tactic| (k_here; (with_reducible show wpAny _ _ (subscriptTail _ _ (Value.ref _) (Value.int _ _)) _ _ _); k_dflt (refine' dm_tail ?k1 ?k2 ?k3 ?k4 ?_; (case k1 => k_asm); (case k2 => k_mem); (case k3 => assumption); (case k4 => assumption))))
local macro_rules | `(tactic| walk_at "call ref") => `(tactic| ((first | (with_reducible show wpAny _ _ (call (Value.ref 37) _) _ _ _) | (with_reducible show wpAny _ _ (call (Value.ref 44) _) _ _ _) | (with_reducible show wpAny _ _ (call (Value.ref 51) _) _ _ _) | (with_reducible show wpAny _ _ (call (Value.ref 58) _) _ _ _) | (with_reducible show wpAny _ _ (call (Value.ref 65) _) _ _ _) | (with_reducible show wpAny _ _ (call (Value.ref 68) _) _ _ _) | (with_reducible show wpAny _ _ (call (Value.ref 79) _) _ _ _) | (with_reducible show wpAny _ _ (call (Value.ref 86) _) _ _ _) | (with_reducible show wpAny _ _ (call (Value.ref 93) _) _ _ _)); refine Stop.out ?_))
local macro_rules | `(tactic| walk_at "call builtin:len") => `(tactic| (k_here; (with_reducible show wpAny _ _ (call (Value.builtin "len") [Value.ref _]) _ _ _); k_dflt (refine' ll_len ?Y ?N ?hx ?hz ?_; (case N => k_asm); (case hx => k_mem); (case Y => (first | exact ll_own (by k_asm) (by k_asm) (by k_asm) (by k_mem) (mroC _) (by k_is) (by k_is) (by k_is) (by k_is) | exact ll_list (by k_asm) (by k_mem))); (case hz => first | omega | (simp only [Array.size_push]; omega)))))
local macro_rules | `(tactic| walk_at "call builtin:list.append") => `(tactic| (k_here; (with_reducible show wpAny _ _ (call (Value.builtin _) [Value.ref _, _]) _ _ _); k_dflt (refine' l_append ?F ?N ?hi ?U ?hz ?_; (case F => k_asm); (case N => k_asm); (case U => (intro k'; k_upd)); (case hi => first | exact is_news (by k_asm) (by k_asm) (by k_asm) (by k_mem) (mroC _) | exact is_list (by k_asm) (by k_mem)); (case hz => first | omega | (simp only [Array.size_push]; omega)); k_whole); intro k' h' F' N'; (try dsimp only at N'); (try k_sweep)))
local macro_rules | `(tactic| walk_at "getMethod type:list") => `(tactic| (k_here; refine' method_type ?F ?X ?m (by decide +kernel) ?e ?h ?_; (case F => k_asm); (case X => k_asm); (case m => exact meta_of_list); (case e => k_dflt k_is); (case h => k_handed)))
local macro_rules | `(tactic| walk_at "call type:enumerate") => `(tactic| (refine Stop.out ?_))
local macro_rules | `(tactic| ktr_enter) => `(tactic| (refine' code_def ?k1 ?k2 ?k3 ?k4 ?k5 ?kA ?kF ?kK ?k6 ?k7 ?k8 ?k9 ?kB ?_ ?c2 ?c3 ?c4 ?c5; (case kA => exact rfl); (case kF => exact rfl); (case kK => first | assumption | exact rfl); (case k1 => k_asm); (case k2 => k_asm); (case k3 => k_asm); (case k4 => k_asm); (case k5 => k_asm); (case k6 => k_is); (case k7 => k_is); (case k8 => ktr_room); (case k9 => first | exact BindsTo.of_eq rfl | exact binds_K (by k_in) rfl (by k_is) rfl rfl rfl); (case c5 => decide); (case kB => exact locs rfl); (case c2 => exact rfl); (case c3 => exact rfl); (case c4 => exact rfl); k_whole; intro g' L' h' FG' F' N' B' X' T'; (try dsimp only); (try k_fold)))
local macro_rules | `(tactic| walk_at "call type:list") => `(tactic| (k_here; (with_reducible show wpAny _ _ (call (Value.type "list") [Value.ref _]) _ _ _); k_dflt (refine' l_copy ?hh ?F ?X ?N ?hx ?hz (mroC _) ?h0 ?h1 ?h2 ?h3 ?h4 ?_; (case hh => exact rfl); (case F => k_asm); (case X => k_asm); (case N => k_asm); (case hx => k_mem); (case hz => omega); (case h0 => k_is); (case h1 => k_is); (case h2 => k_is); (case h3 => k_is); (case h4 => k_is); k_whole); intro l9 k9 h' tk9 F' N' lt9; (try k_sweep)))
local macro_rules | `(tactic| walk_at "subscriptTail") => `(tactic| (k_here; (with_reducible show wpAny _ _ (subscriptTail _ _ (Value.ref _) (Value.int _ _)) _ _ _); k_dflt (refine' li_tail ?k1 ?k2 ?k3 ?k4 ?_; (case k1 => k_asm); (case k2 => k_mem); (case k3 => assumption); (case k4 => omega))))
local macro_rules | `(tactic| walk_at "exec Raise some none") => `(tactic| (k_here; (with_reducible show wpAny _ _ (exec (Stmt.Raise (some (Expr.Name ("ValueError" : Str) _)) none _) _) _ _ _); (with_reducible rename Fr _ _ _ _ => kF); k_dflt (refine' raise_VE ?hh ?hs ?hx ?_; (case hh => rfl); (case hs => rw [isSubtype_type]; kernel_rfl); (case hx => (refine' name_B kF ?k1 ?k2 ?k3 ?k4 ?k5 ?_; (case k1 => k_asm); (case k2 => k_asm); (case k3 => k_is); (case k4 => boot_by_name); (case k5 => decide); exact ⟨rfl, rfl⟩)))))
local macro_rules | `(tactic| walk_at "my ask") => `(tactic| ((refine' code_ask ?k1 ?k2 ?k3 ?k4 ?k5 ?kA ?kF ?cK ?k6 ?k7 ?k8 ?k9 ?kB ?_ ?c2 ?c3 ?c4 ?c5; (case kA => exact rfl); (case kF => exact rfl); (case k2 => k_asm); (case k1 => k_asm); (case k3 => k_asm); (case k4 => k_asm); (case k5 => k_asm); (case k6 => k_is); (case k7 => k_is); (case k8 => ktr_room); (case k9 => first | exact BindsTo.of_eq rfl | exact binds_K (by k_in) rfl (by k_is) rfl rfl rfl); (case kB => exact locs rfl); (case cK => first | assumption | exact rfl); (case c2 => exact rfl); (case c3 => exact rfl); (case c4 => exact rfl); (case c5 => decide); k_whole; intro g' L' h' FG' F' N' B' X' T' D'; (try dsimp only); (try k_lift B'); (try k_fold))))
local macro_rules | `(tactic| walk_at "call builtin:list.insert") => `(tactic| (k_here; (with_reducible show wpAny _ _ (call (Value.builtin _) [Value.ref _, Value.int _ _, _]) _ _ _); k_dflt (refine' l_insert ?F ?N ?hi ?U ?hz ?h0 ?hn ?_; (case F => k_asm); (case N => k_asm); (case U => (intro k'; k_upd)); (case hi => (first | exact is_news (by k_asm) (by k_asm) (by k_asm) (by k_mem) (mroC _) | exact is_list (by k_asm) (by k_mem))); (case hz => omega); (case h0 => omega); (case hn => omega); k_whole); intro k' h' F' N'; (try dsimp only at N'); (try k_sweep)))
local macro_rules | `(tactic| walk_at "call builtin:list.extend") => `(tactic| (k_here; (with_reducible show wpAny _ _ (call (Value.builtin _) [Value.ref _, Value.ref _]) _ _ _); k_dflt (refine' l_extend ?F ?N ?hi ?hb ?U ?hz ?_; (case F => k_asm); (case N => k_asm); (case hb => k_mem); (case U => (intro k'; k_upd)); (case hi => (first | exact is_news (by k_asm) (by k_asm) (by k_asm) (by k_mem) (mroC _) | exact is_list (by k_asm) (by k_mem))); (case hz => (first | omega | (simp only [List.size_toArray, List.length_cons, List.length_nil]; omega))); k_whole); intro k' h' F' N'; (try dsimp only at N'); (try k_sweep)))
local macro_rules | `(tactic| walk_at "call builtin:list.reverse") => `(tactic| (k_here; (with_reducible show wpAny _ _ (call (Value.builtin _) [Value.ref _]) _ _ _); k_dflt (refine' l_reverse ?F ?N ?hi ?U ?hz ?_; (case F => k_asm); (case N => k_asm); (case U => (intro k'; k_upd)); (case hi => (first | exact is_news (by k_asm) (by k_asm) (by k_asm) (by k_mem) (mroC _) | exact is_list (by k_asm) (by k_mem))); (case hz => omega); k_whole); intro k' h' F' N'; (try dsimp only at N'); (try k_sweep)))
local macro_rules | `(tactic| walk_at "call builtin:list.sort") => `(tactic| (k_here; (with_reducible show wpAny _ _ (call (Value.builtin _) [Value.ref _]) _ _ _); k_dflt (refine' l_sort ?F ?N ?hi ?U ?hI ?h64 ?_; (case F => k_asm); (case N => k_asm); (case U => k_updF); (case hi => (first | exact is_news (by k_asm) (by k_asm) (by k_asm) (by k_mem) (mroC _) | exact is_list (by k_asm) (by k_mem))); (case hI => assumption); (case h64 => omega); k_whole); intro out ns' k' h' iI iP iS F' N'; (try dsimp only at N'); (try k_sweep)))
local macro_rules | `(tactic| walk_at "call builtin:list.pop") => `(tactic| (k_here; (with_reducible show wpAny _ _ (call (Value.builtin _) [Value.ref _, Value.int _ _]) _ _ _); k_dflt (refine' l_pop ?F ?N ?hi ?U ?hz ?h0 ?hv ?_; (case F => k_asm); (case N => k_asm); (case U => (intro k'; k_upd)); (case hi => (first | exact is_news (by k_asm) (by k_asm) (by k_asm) (by k_mem) (mroC _) | exact is_list (by k_asm) (by k_mem))); (case hz => omega); (case h0 => omega); (case hv => assumption); k_whole); intro k' h' F' N'; (try dsimp only at N'); (try k_sweep)))
local macro_rules | `(tactic| walk_at "call builtin:list.remove") => `(tactic| (k_here; (with_reducible show wpAny _ _ (call (Value.builtin _) [Value.ref _, Value.int _ _]) _ _ _); k_dflt (refine' l_remove ?F ?N ?hi ?U ?hz ?hI ?hj ?hno ?_; (case F => k_asm); (case N => k_asm); (case U => (intro k'; k_upd)); (case hI => assumption); (case hj => assumption); (case hno => assumption); (case hi => (first | exact is_news (by k_asm) (by k_asm) (by k_asm) (by k_mem) (mroC _) | exact is_list (by k_asm) (by k_mem))); (case hz => omega); k_whole); intro k' h' F' N'; (try dsimp only at N'); (try k_sweep)))
local macro_rules | `(tactic| walk_at "delItem ref int") => `(tactic| (k_here; k_dflt (refine' ll_del ?Y ?F ?N ?U ?hz ?h0 ?hn ?_; (case F => k_asm); (case N => k_asm); (case U => (intro k'; k_upd)); (case Y => (first | exact ll_own (by k_asm) (by k_asm) (by k_asm) (by k_mem) (mroC _) (by k_is) (by k_is) (by k_is) (by k_is) | exact ll_list (by k_asm) (by k_mem))); (case hz => omega); (case h0 => omega); (case hn => omega); k_whole); intro k' h' F' N'; (try dsimp only at N'); (try k_sweep)))
local macro_rules | `(tactic| walk_at "setItem ref ref") => `(tactic| (k_here; k_dflt (refine' set_slice_p ?F ?N ?he ?hs ?hq ?hb ?hab ?Y ?U ?hz ?h0 ?hn ?_; (case F => k_asm); (case N => k_asm); (case he => exact rfl); (case hs => exact rfl); (case hq => exact rfl); (case hb => k_mem); (case hab => k_ne); (case Y => (intro s' F' N'; (first | exact ll_own (by k_asm) (by k_asm) (by k_asm) (by k_mem) (mroC _) (by k_is) (by k_is) (by k_is) (by k_is) | exact ll_list (by k_asm) (by k_mem)))); (case U => (intro k'; k_upd)); (case hz => (first | omega | (simp only [List.size_toArray, List.length_cons, List.length_nil]; omega))); (case h0 => omega); (case hn => omega); k_whole); intro k' h' F' N'; (try dsimp only at N'); (try k_sweep)))
local macro_rules | `(tactic| walk_at "pad 0") => `(tactic| skip)
local macro_rules | `(tactic| walk_at "pad 1") => `(tactic| skip)
local macro_rules | `(tactic| walk_at "pad 2") => `(tactic| skip)
local macro_rules | `(tactic| walk_at "pad 3") => `(tactic| skip)
local macro_rules | `(tactic| walk_at "pad 4") => `(tactic| skip)
local macro_rules | `(tactic| walk_at "pad 5") => `(tactic| skip)
local macro_rules | `(tactic| walk_at "pad 6") => `(tactic| skip)
local macro_rules | `(tactic| walk_at "pad 7") => `(tactic| skip)
local macro_rules | `(tactic| walk_at "pad 8") => `(tactic| skip)
local macro_rules | `(tactic| walk_at "pad 9") => `(tactic| skip)
local macro_rules | `(tactic| walk_at "pad 10") => `(tactic| skip)
local macro_rules | `(tactic| walk_at "pad 11") => `(tactic| skip)
local macro_rules | `(tactic| walk_at "pad 12") => `(tactic| skip)
local macro_rules | `(tactic| walk_at "pad 13") => `(tactic| skip)
local macro_rules | `(tactic| walk_at "pad 14") => `(tactic| skip)
local macro_rules | `(tactic| walk_at "pad 15") => `(tactic| skip)
local macro_rules | `(tactic| walk_at "pad 16") => `(tactic| skip)
local macro_rules | `(tactic| walk_at "pad 17") => `(tactic| skip)
local macro_rules | `(tactic| walk_at "pad 18") => `(tactic| skip)
local macro_rules | `(tactic| walk_at "pad 19") => `(tactic| skip)
local macro_rules | `(tactic| walk_at "pad 20") => `(tactic| skip)
local macro_rules | `(tactic| walk_at "pad 21") => `(tactic| skip)
local macro_rules | `(tactic| walk_at "pad 22") => `(tactic| skip)
local macro_rules | `(tactic| walk_at "pad 23") => `(tactic| skip)
local macro_rules | `(tactic| walk_at "pad 24") => `(tactic| skip)
local macro_rules | `(tactic| walk_at "pad 25") => `(tactic| skip)
local macro_rules | `(tactic| walk_at "pad 26") => `(tactic| skip)
local macro_rules | `(tactic| walk_at "pad 27") => `(tactic| skip)
local macro_rules | `(tactic| walk_at "pad 28") => `(tactic| skip)
local macro_rules | `(tactic| walk_at "pad 29") => `(tactic| skip)
local macro_rules | `(tactic| walk_at "pad 30") => `(tactic| skip)
local macro_rules | `(tactic| walk_at "pad 31") => `(tactic| skip)
local macro_rules | `(tactic| walk_at "pad 32") => `(tactic| skip)
local macro_rules | `(tactic| walk_at "pad 33") => `(tactic| skip)
section
variable {w : World} {p : Program} {loose : List Str} {mean : ExcName → Option Value} {mg mb : Str → Option Value}
  {dp un : Nat} {gd : Option (List Code)} {cn : Str} {cs : Scope} {ca : Addr} {ccd : Value} {cl : List (Str × Addr)} {outer : List Env} {A₀ : Around} {base h₀ : Heap} {L : Addr} {m : Str → Option Value} {s : Shared} {Q E : Value → Shared → Prop}


theorem contains_spec {x dx D : Addr} {vs : Array Value} {n k c : Nat} {t1 t2 ty : Tok} {y : Int} {o : Obj} {f : Int → Option Value} {rest : List (Addr × Obj)}
    (B : Below A₀ base outer h₀) (F : Fr h₀ L s.heap m) (X : (hd.heap_39 w.params).In h₀) (T : Top p loose mean mg mb h₀) (hk : cs.kind = .function) (hdp : dp + 4 < recursionLimit) (hun : un + 110 < cLine)
    (N : News h₀ L s.heap ((D, o) :: (x, subObj 68 dx vs n) :: (dx, attrD w.params t1 t2 true D k) :: rest)) (hM : DM PySem.Challenge.rw_aq6060_01.row.prog w o f c) (hD : (D == sysModules) = false)
    (ret : ∀ h' tk', Fr h₀ L h' m → News h₀ L h' ((D, o) :: (x, subObj 68 dx vs n) :: (dx, attrD w.params t1 t2 true D k) :: rest) → Q (.bool (f y).isSome) { s with heap := h', toks := tk' }) :
    wpAny (model PySem.Challenge.rw_aq6060_01.row.prog w) (ktrTop dp un gd cn cs L ca ccd cl outer) (call (.ref 44) [.ref x, .int y ty]) Q E s := by
  refine wpAny_call ?_
  k_dflt ktr_enter
  k_steps
  rename Fr h₀ _ _ _ => kF
  rename News h₀ _ _ _ => kN
  exact ret _ _ kF kN

theorem contains_dirty {x dx D : Addr} {vs : Array Value} {n k : Nat} {t1 t2 ty : Tok} {y : Int} {ns : List Int} {rest : List (Addr × Obj)}
    (B : Below A₀ base outer h₀) (F : Fr h₀ L s.heap m) (X : (hd.heap_39 w.params).In h₀) (T : Top p loose mean mg mb h₀) (hk : cs.kind = .function) (hdp : dp + 4 < recursionLimit) (hun : un + 110 < cLine)
    (N : News h₀ L s.heap ((x, subObj 68 dx vs n) :: (dx, attrD w.params t1 t2 false D k) :: rest)) (l1 : x ≠ dx) (l2 : ∀ p ∈ rest, p.1 ≠ dx)
    (hI : IntsAre vs.toList ns) (hz : vs.size ≤ 100) (hn : ns.Nodup)
    (ret : ∀ D' o' f h' tk', Fr h₀ L h' m → News h₀ L h' ((D', o') :: (x, subObj 68 dx vs n) :: (dx, attrD w.params t1 t2 true D' k) :: rest) → DM PySem.Challenge.rw_aq6060_01.row.prog w o' f ns.length → Idx f ns →
      (D' == sysModules) = false → x < D' ∧ dx < D' ∧ AllLt D' rest → Q (.bool (f y).isSome) { s with heap := h', toks := tk' }) :
    wpAny (model PySem.Challenge.rw_aq6060_01.row.prog w) (ktrTop dp un gd cn cs L ca ccd cl outer) (call (.ref 44) [.ref x, .int y ty]) Q E s := by
  refine wpAny_call ?_
  k_dflt ktr_enter
  k_steps
  refine ⟨?_⟩
  k_dflt (refine' rebuild_spec (b := false) (D := D) (k := k) (ns := ns) (rest := rest) (vs := vs) (n := n) ?B ?F ?X ?T ?hk ?hdp ?hun ?N l1 l2 hI hz hn ?ret; (case B => k_asm); (case F => k_asm); (case X => k_asm); (case T => k_asm); (case N => k_asm); (case hk => exact rfl); (case hdp => show (dp + 1) + 3 < recursionLimit; omega); (case hun => show un + 3 + 100 < cLine; omega))
  intro D' o' f h2 tk2 F2 N2 M2 I2 lo2 lD2
  k_steps
  rename Fr h₀ _ _ _ => kF
  rename News h₀ _ _ _ => kN
  exact ret _ _ _ _ _ kF kN M2 I2 lo2 lD2
end
end Mine
end PS

section PU
namespace Mine
theorem top_off_U : True := by
  w_top off
  trivial
end Mine
set_option maxRecDepth 100000
set_option maxHeartbeats 8000000
namespace Mine
local macro_rules | `(tactic| k_inst) => `(tactic| (refine' inst_of_news ?N ?h1 ?h2; (case N => k_asm); (case h1 => k_mem); (case h2 => k_mem)))
local macro_rules | `(tactic| k_all) => `(tactic| first | assumption | exact allNe_all (by assumption) | exact allLt_ne (by assumption) | exact allLt_ne (And.right (by assumption)) | exact allLt_ne (And.right (And.right (by assumption))) | exact allLt_ne (And.right (And.right (And.right (by assumption)))) | exact allLt_ne (And.right (And.right (And.right (And.right (by assumption))))))
local macro_rules | `(tactic| walk_at "setAttr ref") => `(tactic| (k_here; k_dflt (refine' setL_dict ?k1 ?k2 ?k3 ?k4 ?k5 ?k6 ?k7 ?k8 ?k9 ?k10 ?k11 ?k12 ?k13 ?_; (case k1 => k_asm); (case k2 => k_asm); (case k3 => k_asm); (case k4 => k_inst); (case k5 => exact rfl); (case k6 => k_is); (case k7 => exact mroC _); (case k8 => k_is); (case k9 => k_is); (case k10 => k_get); (case k11 => k_put); (case k12 => k_upd); (case k13 => exact Nat.le_of_ble_eq_true rfl); k_whole; intro h' F' N'; (try k_sweep))))
local macro_rules | `(tactic| walk_at "setAttr ref") => `(tactic| (k_here; (first | ((with_reducible show wpAny _ _ (setAttr (Value.ref _) (Str.ofString "_dict") _) _ _ _); k_dflt (refine' set_d ?k1 ?k2 ?k3 ?k4 ?k5 ?k6 ?k7 ?k8 ?k9 ?_)) | ((with_reducible show wpAny _ _ (setAttr (Value.ref _) (Str.ofString "clean") _) _ _ _); k_dflt (refine' set_c ?k1 ?k2 ?k3 ?k4 ?k5 ?k6 ?k7 ?k8 ?k9 ?_))); (case k1 => k_asm); (case k2 => k_asm); (case k3 => k_asm); (case k4 => k_mem); (case k5 => k_dflt k_is); (case k6 => exact mroC _); (case k7 => k_dflt k_is); (case k8 => k_dflt k_is); (case k9 => k_dflt k_upd); k_whole; intro h' F' N'; (try k_sweep)))
local macro_rules | `(tactic| walk_at "eval Dict nil nil") => `(tactic| (k_here; k_dflt (refine' new_dictK ?k1 ?k2 (TopRead.nolimit (by k_asm)) ?_; (case k1 => k_asm); (case k2 => k_asm); k_whole); intro d' h' F' N' l1 lo'; (try k_lt l1); (try k_sweep)))
local macro_rules | `(tactic| walk_at "exec For Name Name cons nil") => `(tactic| (refine Stop.out ?_))
local macro_rules | `(tactic| walk_at "exec For Name Call cons nil") => `(tactic| (refine Stop.out ?_))
local macro_rules | `(tactic| walk_at "exec For Tuple Call cons nil") => `(tactic| (refine Stop.out ?_))
local macro_rules | `(tactic| walk_at "pyIter ref") => `(tactic| ((with_reducible show wpAny _ _ (pyIter (Value.ref _)) (fun it s₂ => LoopAtV _ _ _ _ _ _ _ _ _ it s₂) _ _); refine Stop.out ?_))
local macro_rules | `(tactic| walk_at "compareOp NotIn int ref") => `(tactic| (k_here; k_dflt ((first | refine' dm_notin_t ?k1 ?k2 ?k3 ?k4 ?k5 ?_; (case k1 => k_asm); (case k2 => k_mem); (case k3 => assumption); (case k4 => assumption); (case k5 => assumption) | refine' dm_notin_f ?k1 ?k2 ?k3 ?k4 ?k5 ?_; (case k1 => k_asm); (case k2 => k_mem); (case k3 => assumption); (case k4 => assumption); (case k5 => assumption)))))
local macro_rules | `(tactic| walk_at "compareOp In int ref") => `(tactic| (k_here; k_dflt ((first | refine' dm_in_t ?k1 ?k2 ?k3 ?k4 ?k5 ?_; (case k1 => k_asm); (case k2 => k_mem); (case k3 => assumption); (case k4 => assumption); (case k5 => assumption) | refine' dm_in_f ?k1 ?k2 ?k3 ?k4 ?k5 ?_; (case k1 => k_asm); (case k2 => k_mem); (case k3 => assumption); (case k4 => assumption); (case k5 => assumption)))))
local macro_rules | `(tactic| walk_at "setItem ref int") => `(tactic| (k_here; k_dflt (refine' dm_set ?k1 ?k2 ?k3 ?k4 ?k5 ?_; (case k1 => k_asm); (case k2 => k_asm); (case k3 => k_updF); (case k4 => assumption); (case k5 => omega); k_whole); intro o' h' F' N' x'; (try dsimp only at N'); (try k_sweep)))
local macro_rules | `(tactic| walk_at "getAttr ref") => `(tactic| (k_here; (first | ((with_reducible show wpAny _ _ (getAttr (Value.ref _) (Str.ofString "_dict") _) _ _ _); k_dflt (refine' getA_d ?k1 ?k2 ?k3 ?k4 ?k5 ?k6 ?k7 ?k8 ?k9 ?k10 ?k11 ?_)) | ((with_reducible show wpAny _ _ (getAttr (Value.ref _) (Str.ofString "clean") _) _ _ _); k_dflt (refine' getA_c ?k1 ?k2 ?k3 ?k4 ?k5 ?k6 ?k7 ?k8 ?k9 ?k10 ?k11 ?_))); (case k1 => k_asm); (case k2 => k_asm); (case k3 => k_asm); (case k4 => k_mem); (case k5 => k_mem); (case k6 => exact mroC _); (case k7 => k_dflt k_is); (case k8 => k_dflt k_is); (case k9 => k_dflt k_is); (case k10 => k_dflt k_is); (case k11 => k_dflt k_is); k_whole))
local macro_rules | `(tactic| walk_at "getMethod ref") => `(tactic| (k_here; k_dflt (refine' methA ?k1 ?k2 ?k3 ?k4 ?k5 ?k6 ?k7 ?k8 ?k9 ?k10 ?k11 ?_; (case k1 => k_asm); (case k2 => k_asm); (case k3 => k_asm); (case k4 => k_mem); (case k5 => k_mem); (case k6 => k_is); (case k7 => k_is); (case k8 => k_is); (case k9 => k_is); (case k10 => decide); (case k11 => k_get); k_whole)))
local macro_rules | `(tactic| walk_at "compareOp In int ref") => `(tactic| (k_here; k_dflt (refine' in_own ?k1 ?k2 ?k3 ?k4 ?k5 ?k6 ?_; (case k1 => k_asm); (case k2 => k_asm); (case k3 => k_asm); (case k4 => k_mem); (case k5 => k_is); (case k6 => k_is); k_whole)))
local macro_rules | `(tactic| walk_at "compareOp NotIn int ref") => `(tactic| (k_here; k_dflt (refine' notin_own ?k1 ?k2 ?k3 ?k4 ?k5 ?k6 ?_; (case k1 => k_asm); (case k2 => k_asm); (case k3 => k_asm); (case k4 => k_mem); (case k5 => k_is); (case k6 => k_is); k_whole)))
local macro_rules | `(tactic| walk_at "compareOp In int ref") => `(tactic| (k_here; k_dflt (refine' dm_in ?k1 ?k2 ?k3 ?k4 ?_; (case k1 => k_asm); (case k2 => k_mem); (case k3 => assumption); (case k4 => assumption))))
local macro_rules | `(tactic| walk_at "compareOp In int ref") => `(tactic| (k_here; k_dflt (first | refine' dm_in_t ?k1 ?k2 ?k3 ?k4 ?k5 ?_; (case k1 => k_asm); (case k2 => k_mem); (case k3 => assumption); (case k4 => assumption); (case k5 => assumption) | refine' dm_in_f ?k1 ?k2 ?k3 ?k4 ?k5 ?_; (case k1 => k_asm); (case k2 => k_mem); (case k3 => assumption); (case k4 => assumption); (case k5 => assumption))))
local macro_rules | `(tactic| walk_at "compareOp NotIn int ref") => `(tactic| (k_here; k_dflt (first | refine' dm_notin_t ?k1 ?k2 ?k3 ?k4 ?k5 ?_; (case k1 => k_asm); (case k2 => k_mem); (case k3 => assumption); (case k4 => assumption); (case k5 => assumption) | refine' dm_notin_f ?k1 ?k2 ?k3 ?k4 ?k5 ?_; (case k1 => k_asm); (case k2 => k_mem); (case k3 => assumption); (case k4 => assumption); (case k5 => assumption))))
local macro_rules | `(tactic| walk_at "subscriptTail") => `(tactic| (k_here; (with_reducible show wpAny _ _ (subscriptTail _ _ (Value.ref _) (Value.int _ _)) _ _ _); k_dflt (refine' dm_tail ?k1 ?k2 ?k3 ?k4 ?_; (case k1 => k_asm); (case k2 => k_mem); (case k3 => assumption); (case k4 => assumption))))
local macro_rules | `(tactic| walk_at "call ref") => `(tactic| ((first | (with_reducible show wpAny _ _ (call (Value.ref 37) _) _ _ _) | (with_reducible show wpAny _ _ (call (Value.ref 44) _) _ _ _) | (with_reducible show wpAny _ _ (call (Value.ref 51) _) _ _ _) | (with_reducible show wpAny _ _ (call (Value.ref 58) _) _ _ _) | (with_reducible show wpAny _ _ (call (Value.ref 65) _) _ _ _) | (with_reducible show wpAny _ _ (call (Value.ref 68) _) _ _ _) | (with_reducible show wpAny _ _ (call (Value.ref 79) _) _ _ _) | (with_reducible show wpAny _ _ (call (Value.ref 86) _) _ _ _) | (with_reducible show wpAny _ _ (call (Value.ref 93) _) _ _ _)); refine Stop.out ?_))
local macro_rules | `(tactic| walk_at "call builtin:len") => `(tactic| (k_here; (with_reducible show wpAny _ _ (call (Value.builtin "len") [Value.ref _]) _ _ _); k_dflt (refine' ll_len ?Y ?N ?hx ?hz ?_; (case N => k_asm); (case hx => k_mem); (case Y => (first | exact ll_own (by k_asm) (by k_asm) (by k_asm) (by k_mem) (mroC _) (by k_is) (by k_is) (by k_is) (by k_is) | exact ll_list (by k_asm) (by k_mem))); (case hz => first | omega | (simp only [Array.size_push]; omega)))))
local macro_rules | `(tactic| walk_at "call builtin:list.append") => `(tactic| (k_here; (with_reducible show wpAny _ _ (call (Value.builtin _) [Value.ref _, _]) _ _ _); k_dflt (refine' l_append ?F ?N ?hi ?U ?hz ?_; (case F => k_asm); (case N => k_asm); (case U => (intro k'; k_upd)); (case hi => first | exact is_news (by k_asm) (by k_asm) (by k_asm) (by k_mem) (mroC _) | exact is_list (by k_asm) (by k_mem)); (case hz => first | omega | (simp only [Array.size_push]; omega)); k_whole); intro k' h' F' N'; (try dsimp only at N'); (try k_sweep)))
local macro_rules | `(tactic| walk_at "getMethod type:list") => `(tactic| (k_here; refine' method_type ?F ?X ?m (by decide +kernel) ?e ?h ?_; (case F => k_asm); (case X => k_asm); (case m => exact meta_of_list); (case e => k_dflt k_is); (case h => k_handed)))
local macro_rules | `(tactic| walk_at "call type:enumerate") => `(tactic| (refine Stop.out ?_))
local macro_rules | `(tactic| ktr_enter) => `(tactic| (refine' code_def ?k1 ?k2 ?k3 ?k4 ?k5 ?kA ?kF ?kK ?k6 ?k7 ?k8 ?k9 ?kB ?_ ?c2 ?c3 ?c4 ?c5; (case kA => exact rfl); (case kF => exact rfl); (case kK => first | assumption | exact rfl); (case k1 => k_asm); (case k2 => k_asm); (case k3 => k_asm); (case k4 => k_asm); (case k5 => k_asm); (case k6 => k_is); (case k7 => k_is); (case k8 => ktr_room); (case k9 => first | exact BindsTo.of_eq rfl | exact binds_K (by k_in) rfl (by k_is) rfl rfl rfl); (case c5 => decide); (case kB => exact locs rfl); (case c2 => exact rfl); (case c3 => exact rfl); (case c4 => exact rfl); k_whole; intro g' L' h' FG' F' N' B' X' T'; (try dsimp only); (try k_fold)))
local macro_rules | `(tactic| walk_at "call type:list") => `(tactic| (k_here; (with_reducible show wpAny _ _ (call (Value.type "list") [Value.ref _]) _ _ _); k_dflt (refine' l_copy ?hh ?F ?X ?N ?hx ?hz (mroC _) ?h0 ?h1 ?h2 ?h3 ?h4 ?_; (case hh => exact rfl); (case F => k_asm); (case X => k_asm); (case N => k_asm); (case hx => k_mem); (case hz => omega); (case h0 => k_is); (case h1 => k_is); (case h2 => k_is); (case h3 => k_is); (case h4 => k_is); k_whole); intro l9 k9 h' tk9 F' N' lt9; (try k_sweep)))
local macro_rules | `(tactic| walk_at "subscriptTail") => `(tactic| (k_here; (with_reducible show wpAny _ _ (subscriptTail _ _ (Value.ref _) (Value.int _ _)) _ _ _); k_dflt (refine' li_tail ?k1 ?k2 ?k3 ?k4 ?_; (case k1 => k_asm); (case k2 => k_mem); (case k3 => assumption); (case k4 => omega))))
local macro_rules | `(tactic| walk_at "exec Raise some none") => `(tactic| (k_here; (with_reducible show wpAny _ _ (exec (Stmt.Raise (some (Expr.Name ("ValueError" : Str) _)) none _) _) _ _ _); (with_reducible rename Fr _ _ _ _ => kF); k_dflt (refine' raise_VE ?hh ?hs ?hx ?_; (case hh => rfl); (case hs => rw [isSubtype_type]; kernel_rfl); (case hx => (refine' name_B kF ?k1 ?k2 ?k3 ?k4 ?k5 ?_; (case k1 => k_asm); (case k2 => k_asm); (case k3 => k_is); (case k4 => boot_by_name); (case k5 => decide); exact ⟨rfl, rfl⟩)))))
local macro_rules | `(tactic| walk_at "my ask") => `(tactic| ((refine' code_ask ?k1 ?k2 ?k3 ?k4 ?k5 ?kA ?kF ?cK ?k6 ?k7 ?k8 ?k9 ?kB ?_ ?c2 ?c3 ?c4 ?c5; (case kA => exact rfl); (case kF => exact rfl); (case k2 => k_asm); (case k1 => k_asm); (case k3 => k_asm); (case k4 => k_asm); (case k5 => k_asm); (case k6 => k_is); (case k7 => k_is); (case k8 => ktr_room); (case k9 => first | exact BindsTo.of_eq rfl | exact binds_K (by k_in) rfl (by k_is) rfl rfl rfl); (case kB => exact locs rfl); (case cK => first | assumption | exact rfl); (case c2 => exact rfl); (case c3 => exact rfl); (case c4 => exact rfl); (case c5 => decide); k_whole; intro g' L' h' FG' F' N' B' X' T' D'; (try dsimp only); (try k_lift B'); (try k_fold))))
local macro_rules | `(tactic| walk_at "call builtin:list.insert") => `(tactic| (k_here; (with_reducible show wpAny _ _ (call (Value.builtin _) [Value.ref _, Value.int _ _, _]) _ _ _); k_dflt (refine' l_insert ?F ?N ?hi ?U ?hz ?h0 ?hn ?_; (case F => k_asm); (case N => k_asm); (case U => (intro k'; k_upd)); (case hi => (first | exact is_news (by k_asm) (by k_asm) (by k_asm) (by k_mem) (mroC _) | exact is_list (by k_asm) (by k_mem))); (case hz => omega); (case h0 => omega); (case hn => omega); k_whole); intro k' h' F' N'; (try dsimp only at N'); (try k_sweep)))
local macro_rules | `(tactic| walk_at "call builtin:list.extend") => `(tactic| (k_here; (with_reducible show wpAny _ _ (call (Value.builtin _) [Value.ref _, Value.ref _]) _ _ _); k_dflt (refine' l_extend ?F ?N ?hi ?hb ?U ?hz ?_; (case F => k_asm); (case N => k_asm); (case hb => k_mem); (case U => (intro k'; k_upd)); (case hi => (first | exact is_news (by k_asm) (by k_asm) (by k_asm) (by k_mem) (mroC _) | exact is_list (by k_asm) (by k_mem))); (case hz => (first | omega | (simp only [List.size_toArray, List.length_cons, List.length_nil]; omega))); k_whole); intro k' h' F' N'; (try dsimp only at N'); (try k_sweep)))
local macro_rules | `(tactic| walk_at "call builtin:list.reverse") => `(tactic| (k_here; (with_reducible show wpAny _ _ (call (Value.builtin _) [Value.ref _]) _ _ _); k_dflt (refine' l_reverse ?F ?N ?hi ?U ?hz ?_; (case F => k_asm); (case N => k_asm); (case U => (intro k'; k_upd)); (case hi => (first | exact is_news (by k_asm) (by k_asm) (by k_asm) (by k_mem) (mroC _) | exact is_list (by k_asm) (by k_mem))); (case hz => omega); k_whole); intro k' h' F' N'; (try dsimp only at N'); (try k_sweep)))
local macro_rules | `(tactic| walk_at "call builtin:list.sort") => `(tactic| (k_here; (with_reducible show wpAny _ _ (call (Value.builtin _) [Value.ref _]) _ _ _); k_dflt (refine' l_sort ?F ?N ?hi ?U ?hI ?h64 ?_; (case F => k_asm); (case N => k_asm); (case U => k_updF); (case hi => (first | exact is_news (by k_asm) (by k_asm) (by k_asm) (by k_mem) (mroC _) | exact is_list (by k_asm) (by k_mem))); (case hI => assumption); (case h64 => omega); k_whole); intro out ns' k' h' iI iP iS F' N'; (try dsimp only at N'); (try k_sweep)))
local macro_rules | `(tactic| walk_at "call builtin:list.pop") => `(tactic| (k_here; (with_reducible show wpAny _ _ (call (Value.builtin _) [Value.ref _, Value.int _ _]) _ _ _); k_dflt (refine' l_pop ?F ?N ?hi ?U ?hz ?h0 ?hv ?_; (case F => k_asm); (case N => k_asm); (case U => (intro k'; k_upd)); (case hi => (first | exact is_news (by k_asm) (by k_asm) (by k_asm) (by k_mem) (mroC _) | exact is_list (by k_asm) (by k_mem))); (case hz => omega); (case h0 => omega); (case hv => assumption); k_whole); intro k' h' F' N'; (try dsimp only at N'); (try k_sweep)))
local macro_rules | `(tactic| walk_at "call builtin:list.remove") => `(tactic| (k_here; (with_reducible show wpAny _ _ (call (Value.builtin _) [Value.ref _, Value.int _ _]) _ _ _); k_dflt (refine' l_remove ?F ?N ?hi ?U ?hz ?hI ?hj ?hno ?_; (case F => k_asm); (case N => k_asm); (case U => (intro k'; k_upd)); (case hI => assumption); (case hj => assumption); (case hno => assumption); (case hi => (first | exact is_news (by k_asm) (by k_asm) (by k_asm) (by k_mem) (mroC _) | exact is_list (by k_asm) (by k_mem))); (case hz => omega); k_whole); intro k' h' F' N'; (try dsimp only at N'); (try k_sweep)))
local macro_rules | `(tactic| walk_at "delItem ref int") => `(tactic| (k_here; k_dflt (refine' ll_del ?Y ?F ?N ?U ?hz ?h0 ?hn ?_; (case F => k_asm); (case N => k_asm); (case U => (intro k'; k_upd)); (case Y => (first | exact ll_own (by k_asm) (by k_asm) (by k_asm) (by k_mem) (mroC _) (by k_is) (by k_is) (by k_is) (by k_is) | exact ll_list (by k_asm) (by k_mem))); (case hz => omega); (case h0 => omega); (case hn => omega); k_whole); intro k' h' F' N'; (try dsimp only at N'); (try k_sweep)))
local macro_rules | `(tactic| walk_at "setItem ref ref") => `(tactic| (k_here; k_dflt (refine' set_slice_p ?F ?N ?he ?hs ?hq ?hb ?hab ?Y ?U ?hz ?h0 ?hn ?_; (case F => k_asm); (case N => k_asm); (case he => exact rfl); (case hs => exact rfl); (case hq => exact rfl); (case hb => k_mem); (case hab => k_ne); (case Y => (intro s' F' N'; (first | exact ll_own (by k_asm) (by k_asm) (by k_asm) (by k_mem) (mroC _) (by k_is) (by k_is) (by k_is) (by k_is) | exact ll_list (by k_asm) (by k_mem)))); (case U => (intro k'; k_upd)); (case hz => (first | omega | (simp only [List.size_toArray, List.length_cons, List.length_nil]; omega))); (case h0 => omega); (case hn => omega); k_whole); intro k' h' F' N'; (try dsimp only at N'); (try k_sweep)))
local macro_rules | `(tactic| walk_at "pad 0") => `(tactic| skip)
local macro_rules | `(tactic| walk_at "pad 1") => `(tactic| skip)
local macro_rules | `(tactic| walk_at "pad 2") => `(tactic| skip)
local macro_rules | `(tactic| walk_at "pad 3") => `(tactic| skip)
local macro_rules | `(tactic| walk_at "pad 4") => `(tactic| skip)
local macro_rules | `(tactic| walk_at "pad 5") => `(tactic| skip)
local macro_rules | `(tactic| walk_at "pad 6") => `(tactic| skip)
local macro_rules | `(tactic| walk_at "pad 7") => `(tactic| skip)
local macro_rules | `(tactic| walk_at "pad 8") => `(tactic| skip)
local macro_rules | `(tactic| walk_at "pad 9") => `(tactic| skip)
local macro_rules | `(tactic| walk_at "pad 10") => `(tactic| skip)
local macro_rules | `(tactic| walk_at "pad 11") => `(tactic| skip)
local macro_rules | `(tactic| walk_at "pad 12") => `(tactic| skip)
local macro_rules | `(tactic| walk_at "pad 13") => `(tactic| skip)
local macro_rules | `(tactic| walk_at "pad 14") => `(tactic| skip)
local macro_rules | `(tactic| walk_at "pad 15") => `(tactic| skip)
local macro_rules | `(tactic| walk_at "pad 16") => `(tactic| skip)
local macro_rules | `(tactic| walk_at "pad 17") => `(tactic| skip)
local macro_rules | `(tactic| walk_at "pad 18") => `(tactic| skip)
local macro_rules | `(tactic| walk_at "pad 19") => `(tactic| skip)
local macro_rules | `(tactic| walk_at "pad 20") => `(tactic| skip)
local macro_rules | `(tactic| walk_at "pad 21") => `(tactic| skip)
local macro_rules | `(tactic| walk_at "pad 22") => `(tactic| skip)
local macro_rules | `(tactic| walk_at "pad 23") => `(tactic| skip)
local macro_rules | `(tactic| walk_at "pad 24") => `(tactic| skip)
local macro_rules | `(tactic| walk_at "pad 25") => `(tactic| skip)
local macro_rules | `(tactic| walk_at "pad 26") => `(tactic| skip)
local macro_rules | `(tactic| walk_at "pad 27") => `(tactic| skip)
local macro_rules | `(tactic| walk_at "pad 28") => `(tactic| skip)
local macro_rules | `(tactic| walk_at "pad 29") => `(tactic| skip)
local macro_rules | `(tactic| walk_at "pad 30") => `(tactic| skip)
local macro_rules | `(tactic| walk_at "pad 31") => `(tactic| skip)
local macro_rules | `(tactic| walk_at "pad 32") => `(tactic| skip)
local macro_rules | `(tactic| walk_at "pad 33") => `(tactic| skip)
local macro_rules | `(tactic| walk_at "pad 34") => `(tactic| skip)
section
variable {w : World} {p : Program} {loose : List Str} {mean : ExcName → Option Value} {mg mb : Str → Option Value}
  {dp un : Nat} {gd : Option (List Code)} {cn : Str} {cs : Scope} {ca : Addr} {ccd : Value} {cl : List (Str × Addr)} {outer : List Env} {A₀ : Around} {base h₀ : Heap} {L : Addr} {m : Str → Option Value} {s : Shared} {Q E : Value → Shared → Prop}



theorem append_new {x dx D : Addr} {vs : Array Value} {n k c : Nat} {t1 t2 ty : Tok} {y : Int} {b : Bool} {o : Obj} {f : Int → Option Value} {rest : List (Addr × Obj)}
    (B : Below A₀ base outer h₀) (F : Fr h₀ L s.heap m) (X : (hd.heap_39 w.params).In h₀) (T : Top p loose mean mg mb h₀) (hk : cs.kind = .function) (hdp : dp + 4 < recursionLimit) (hun : un + 110 < cLine)
    (N : News h₀ L s.heap ((D, o) :: (x, subObj 68 dx vs n) :: (dx, attrD w.params t1 t2 b D k) :: rest)) (hM : DM PySem.Challenge.rw_aq6060_01.row.prog w o f c) (hD : (D == sysModules) = false) (hc : c ≤ 500) (hz : vs.size ≤ 500)
    (l1 : @Ne Nat D x) (l2 : @Ne Nat D dx) (l3 : @Ne Nat x dx) (l4 : AllNe D rest) (l5 : AllNe x rest) (hf : f y = none)
    (ret : ∀ o' t n' h' tk', Fr h₀ L h' m → News h₀ L h' ((D, o') :: (x, subObj 68 dx (vs.push (.int y ty)) n') :: (dx, attrD w.params t1 t2 b D k) :: rest) →
      DM PySem.Challenge.rw_aq6060_01.row.prog w o' (fun z => if z = y then some (.int vs.size t) else f z) (c + 1) → Q .none { s with heap := h', toks := tk' }) :
    wpAny (model PySem.Challenge.rw_aq6060_01.row.prog w) (ktrTop dp un gd cn cs L ca ccd cl outer) (call (.ref 58) [.ref x, .int y ty]) Q E s := by
  refine wpAny_call ?_
  k_dflt ktr_enter
  k_steps
  rename Fr h₀ _ _ _ => kF
  rename News h₀ _ _ _ => kN
  rename DM _ _ _ _ (c + 1) => kM
  exact ret _ _ _ _ _ kF kN kM

theorem append_old {x dx D : Addr} {vs : Array Value} {n k c : Nat} {t1 t2 ty : Tok} {y : Int} {b : Bool} {o : Obj} {f : Int → Option Value} {v : Value} {rest : List (Addr × Obj)}
    (B : Below A₀ base outer h₀) (F : Fr h₀ L s.heap m) (X : (hd.heap_39 w.params).In h₀) (T : Top p loose mean mg mb h₀) (hk : cs.kind = .function) (hdp : dp + 4 < recursionLimit) (hun : un + 110 < cLine)
    (N : News h₀ L s.heap ((D, o) :: (x, subObj 68 dx vs n) :: (dx, attrD w.params t1 t2 b D k) :: rest)) (hM : DM PySem.Challenge.rw_aq6060_01.row.prog w o f c) (hD : (D == sysModules) = false) (hf : f y = some v)
    (ret : ∀ h' tk', Fr h₀ L h' m → News h₀ L h' ((D, o) :: (x, subObj 68 dx vs n) :: (dx, attrD w.params t1 t2 b D k) :: rest) → Q .none { s with heap := h', toks := tk' }) :
    wpAny (model PySem.Challenge.rw_aq6060_01.row.prog w) (ktrTop dp un gd cn cs L ca ccd cl outer) (call (.ref 58) [.ref x, .int y ty]) Q E s := by
  refine wpAny_call ?_
  k_dflt ktr_enter
  k_steps
  rename Fr h₀ _ _ _ => kF
  rename News h₀ _ _ _ => kN
  exact ret _ _ kF kN

theorem add_new {x dx D : Addr} {vs : Array Value} {n k c : Nat} {t1 t2 ty : Tok} {y : Int} {b : Bool} {o : Obj} {f : Int → Option Value} {rest : List (Addr × Obj)}
    (B : Below A₀ base outer h₀) (F : Fr h₀ L s.heap m) (X : (hd.heap_39 w.params).In h₀) (T : Top p loose mean mg mb h₀) (hk : cs.kind = .function) (hdp : dp + 6 < recursionLimit) (hun : un + 120 < cLine)
    (N : News h₀ L s.heap ((D, o) :: (x, subObj 68 dx vs n) :: (dx, attrD w.params t1 t2 b D k) :: rest)) (hM : DM PySem.Challenge.rw_aq6060_01.row.prog w o f c) (hD : (D == sysModules) = false) (hc : c ≤ 500) (hz : vs.size ≤ 500)
    (l1 : @Ne Nat D x) (l2 : @Ne Nat D dx) (l3 : @Ne Nat x dx) (l4 : AllNe D rest) (l5 : AllNe x rest) (hf : f y = none)
    (ret : ∀ o' t n' h' tk', Fr h₀ L h' m → News h₀ L h' ((D, o') :: (x, subObj 68 dx (vs.push (.int y ty)) n') :: (dx, attrD w.params t1 t2 b D k) :: rest) →
      DM PySem.Challenge.rw_aq6060_01.row.prog w o' (fun z => if z = y then some (.int vs.size t) else f z) (c + 1) → Q (.int vs.size t) { s with heap := h', toks := tk' }) :
    wpAny (model PySem.Challenge.rw_aq6060_01.row.prog w) (ktrTop dp un gd cn cs L ca ccd cl outer) (call (.ref 65) [.ref x, .int y ty]) Q E s := by
  refine wpAny_call ?_
  k_dflt ktr_enter
  k_steps
  refine ⟨?_⟩
  k_dflt (refine' append_new (D := D) (k := k) (rest := rest) (vs := vs) (n := n) ?B ?F ?X ?T ?hk ?hdp ?hun ?N hM hD hc hz l1 l2 l3 l4 l5 hf ?ret; (case B => k_asm); (case F => k_asm); (case X => k_asm); (case T => k_asm); (case N => k_asm); (case hk => exact rfl); (case hdp => show (dp + 1) + 4 < recursionLimit; omega); (case hun => show un + 3 + 110 < cLine; omega))
  intro o2 t9 n2 h2 tk2 F2 N2 M2
  have e9 : (fun z => if z = y then some (Value.int (vs.size : Nat) t9) else f z) y = some (Value.int (vs.size : Nat) t9) := if_pos rfl
  k_steps
  rename Fr h₀ _ _ _ => kF
  rename News h₀ _ _ _ => kN
  exact ret _ _ _ _ _ kF kN M2

theorem add_old {x dx D : Addr} {vs : Array Value} {n k c : Nat} {t1 t2 ty : Tok} {y : Int} {b : Bool} {o : Obj} {f : Int → Option Value} {v : Value} {rest : List (Addr × Obj)}
    (B : Below A₀ base outer h₀) (F : Fr h₀ L s.heap m) (X : (hd.heap_39 w.params).In h₀) (T : Top p loose mean mg mb h₀) (hk : cs.kind = .function) (hdp : dp + 6 < recursionLimit) (hun : un + 120 < cLine)
    (N : News h₀ L s.heap ((D, o) :: (x, subObj 68 dx vs n) :: (dx, attrD w.params t1 t2 b D k) :: rest)) (hM : DM PySem.Challenge.rw_aq6060_01.row.prog w o f c) (hD : (D == sysModules) = false) (hf : f y = some v)
    (ret : ∀ h' tk', Fr h₀ L h' m → News h₀ L h' ((D, o) :: (x, subObj 68 dx vs n) :: (dx, attrD w.params t1 t2 b D k) :: rest) → Q v { s with heap := h', toks := tk' }) :
    wpAny (model PySem.Challenge.rw_aq6060_01.row.prog w) (ktrTop dp un gd cn cs L ca ccd cl outer) (call (.ref 65) [.ref x, .int y ty]) Q E s := by
  refine wpAny_call ?_
  k_dflt ktr_enter
  k_steps
  refine ⟨?_⟩
  k_dflt (refine' append_old (D := D) (k := k) (rest := rest) (vs := vs) (n := n) ?B ?F ?X ?T ?hk ?hdp ?hun ?N hM hD hf ?ret; (case B => k_asm); (case F => k_asm); (case X => k_asm); (case T => k_asm); (case N => k_asm); (case hk => exact rfl); (case hdp => show (dp + 1) + 4 < recursionLimit; omega); (case hun => show un + 3 + 110 < cLine; omega))
  intro h2 tk2 F2 N2
  k_steps
  rename Fr h₀ _ _ _ => kF
  rename News h₀ _ _ _ => kN
  exact ret _ _ kF kN

theorem index_ok {x dx D : Addr} {vs : Array Value} {n k c : Nat} {t1 t2 ty : Tok} {y : Int} {o : Obj} {f : Int → Option Value} {v : Value} {rest : List (Addr × Obj)}
    (B : Below A₀ base outer h₀) (F : Fr h₀ L s.heap m) (X : (hd.heap_39 w.params).In h₀) (T : Top p loose mean mg mb h₀) (hk : cs.kind = .function) (hdp : dp + 6 < recursionLimit) (hun : un + 120 < cLine)
    (N : News h₀ L s.heap ((D, o) :: (x, subObj 68 dx vs n) :: (dx, attrD w.params t1 t2 true D k) :: rest)) (hM : DM PySem.Challenge.rw_aq6060_01.row.prog w o f c) (hD : (D == sysModules) = false) (hf : f y = some v)
    (ret : ∀ h' tk', Fr h₀ L h' m → News h₀ L h' ((D, o) :: (x, subObj 68 dx vs n) :: (dx, attrD w.params t1 t2 true D k) :: rest) → Q v { s with heap := h', toks := tk' }) :
    wpAny (model PySem.Challenge.rw_aq6060_01.row.prog w) (ktrTop dp un gd cn cs L ca ccd cl outer) (call (.ref 51) [.ref x, .int y ty]) Q E s := by
  refine wpAny_call ?_
  k_dflt ktr_enter
  k_steps
  refine ⟨?_⟩
  k_dflt (refine' contains_spec (D := D) (k := k) (rest := rest) (vs := vs) (n := n) ?B ?F ?X ?T ?hk ?hdp ?hun ?N hM hD ?ret; (case B => k_asm); (case F => k_asm); (case X => k_asm); (case T => k_asm); (case N => k_asm); (case hk => exact rfl); (case hdp => show (dp + 1) + 4 < recursionLimit; omega); (case hun => show un + 3 + 110 < cLine; omega))
  intro h2 tk2 F2 N2
  rw [hf]
  refine ⟨true, rfl, ?_⟩
  k_steps
  rename Fr h₀ _ _ _ => kF
  rename News h₀ _ _ _ => kN
  exact ret _ _ kF kN
end
end Mine
end PU

section PV
namespace Mine
theorem top_off_V : True := by
  w_top off
  trivial
end Mine
set_option maxRecDepth 100000
set_option maxHeartbeats 8000000
namespace Mine
local macro_rules | `(tactic| k_inst) => `(tactic| (refine' inst_of_news ?N ?h1 ?h2; (case N => k_asm); (case h1 => k_mem); (case h2 => k_mem)))
local macro_rules | `(tactic| k_all) => `(tactic| first | assumption | exact allNe_all (by assumption) | exact allLt_ne (by assumption) | exact allLt_ne (And.right (by assumption)) | exact allLt_ne (And.right (And.right (by assumption))) | exact allLt_ne (And.right (And.right (And.right (by assumption)))) | exact allLt_ne (And.right (And.right (And.right (And.right (by assumption))))))
local macro_rules | `(tactic| walk_at "setAttr ref") => `(tactic| (k_here; k_dflt (refine' setL_dict ?k1 ?k2 ?k3 ?k4 ?k5 ?k6 ?k7 ?k8 ?k9 ?k10 ?k11 ?k12 ?k13 ?_; (case k1 => k_asm); (case k2 => k_asm); (case k3 => k_asm); (case k4 => k_inst); (case k5 => exact rfl); (case k6 => k_is); (case k7 => exact mroC _); (case k8 => k_is); (case k9 => k_is); (case k10 => k_get); (case k11 => k_put); (case k12 => k_upd); (case k13 => exact Nat.le_of_ble_eq_true rfl); k_whole; intro h' F' N'; (try k_sweep))))
local macro_rules | `(tactic| walk_at "setAttr ref") => `(tactic| (k_here; (first | ((with_reducible show wpAny _ _ (setAttr (Value.ref _) (Str.ofString "_dict") _) _ _ _); k_dflt (refine' set_d ?k1 ?k2 ?k3 ?k4 ?k5 ?k6 ?k7 ?k8 ?k9 ?_)) | ((with_reducible show wpAny _ _ (setAttr (Value.ref _) (Str.ofString "clean") _) _ _ _); k_dflt (refine' set_c ?k1 ?k2 ?k3 ?k4 ?k5 ?k6 ?k7 ?k8 ?k9 ?_))); (case k1 => k_asm); (case k2 => k_asm); (case k3 => k_asm); (case k4 => k_mem); (case k5 => k_dflt k_is); (case k6 => exact mroC _); (case k7 => k_dflt k_is); (case k8 => k_dflt k_is); (case k9 => k_dflt k_upd); k_whole; intro h' F' N'; (try k_sweep)))
local macro_rules | `(tactic| walk_at "eval Dict nil nil") => `(tactic| (k_here; k_dflt (refine' new_dictK ?k1 ?k2 (TopRead.nolimit (by k_asm)) ?_; (case k1 => k_asm); (case k2 => k_asm); k_whole); intro d' h' F' N' l1 lo'; (try k_lt l1); (try k_sweep)))
local macro_rules | `(tactic| walk_at "exec For Name Name cons nil") => `(tactic| (refine Stop.out ?_))
local macro_rules | `(tactic| walk_at "exec For Name Call cons nil") => `(tactic| (refine Stop.out ?_))
local macro_rules | `(tactic| walk_at "exec For Tuple Call cons nil") => `(tactic| (refine Stop.out ?_))
local macro_rules | `(tactic| walk_at "pyIter ref") => `(tactic| ((with_reducible show wpAny _ _ (pyIter (Value.ref _)) (fun it s₂ => LoopAtV _ _ _ _ _ _ _ _ _ it s₂) _ _); refine Stop.out ?_))
local macro_rules | `(tactic| walk_at "compareOp NotIn int ref") => `(tactic| (k_here; k_dflt ((first | refine' dm_notin_t ?k1 ?k2 ?k3 ?k4 ?k5 ?_; (case k1 => k_asm); (case k2 => k_mem); (case k3 => assumption); (case k4 => assumption); (case k5 => assumption) | refine' dm_notin_f ?k1 ?k2 ?k3 ?k4 ?k5 ?_; (case k1 => k_asm); (case k2 => k_mem); (case k3 => assumption); (case k4 => assumption); (case k5 => assumption)))))
local macro_rules | `(tactic| walk_at "compareOp In int ref") => `(tactic| (k_here; k_dflt ((first | refine' dm_in_t ?k1 ?k2 ?k3 ?k4 ?k5 ?_; (case k1 => k_asm); (case k2 => k_mem); (case k3 => assumption); (case k4 => assumption); (case k5 => assumption) | refine' dm_in_f ?k1 ?k2 ?k3 ?k4 ?k5 ?_; (case k1 => k_asm); (case k2 => k_mem); (case k3 => assumption); (case k4 => assumption); (case k5 => assumption)))))
local macro_rules | `(tactic| walk_at "setItem ref int") => `(tactic| (k_here; k_dflt (refine' dm_set ?k1 ?k2 ?k3 ?k4 ?k5 ?_; (case k1 => k_asm); (case k2 => k_asm); (case k3 => k_updF); (case k4 => assumption); (case k5 => omega); k_whole); intro o' h' F' N' x'; (try dsimp only at N'); (try k_sweep)))
local macro_rules | `(tactic| walk_at "getAttr ref") => `(tactic| (k_here; (first | ((with_reducible show wpAny _ _ (getAttr (Value.ref _) (Str.ofString "_dict") _) _ _ _); k_dflt (refine' getA_d ?k1 ?k2 ?k3 ?k4 ?k5 ?k6 ?k7 ?k8 ?k9 ?k10 ?k11 ?_)) | ((with_reducible show wpAny _ _ (getAttr (Value.ref _) (Str.ofString "clean") _) _ _ _); k_dflt (refine' getA_c ?k1 ?k2 ?k3 ?k4 ?k5 ?k6 ?k7 ?k8 ?k9 ?k10 ?k11 ?_))); (case k1 => k_asm); (case k2 => k_asm); (case k3 => k_asm); (case k4 => k_mem); (case k5 => k_mem); (case k6 => exact mroC _); (case k7 => k_dflt k_is); (case k8 => k_dflt k_is); (case k9 => k_dflt k_is); (case k10 => k_dflt k_is); (case k11 => k_dflt k_is); k_whole))
local macro_rules | `(tactic| walk_at "getMethod ref") => `(tactic| (k_here; k_dflt (refine' methA ?k1 ?k2 ?k3 ?k4 ?k5 ?k6 ?k7 ?k8 ?k9 ?k10 ?k11 ?_; (case k1 => k_asm); (case k2 => k_asm); (case k3 => k_asm); (case k4 => k_mem); (case k5 => k_mem); (case k6 => k_is); (case k7 => k_is); (case k8 => k_is); (case k9 => k_is); (case k10 => decide); (case k11 => k_get); k_whole)))
local macro_rules | `(tactic| walk_at "compareOp In int ref") => `(tactic| (k_here; k_dflt (refine' in_own ?k1 ?k2 ?k3 ?k4 ?k5 ?k6 ?_; (case k1 => k_asm); (case k2 => k_asm); (case k3 => k_asm); (case k4 => k_mem); (case k5 => k_is); (case k6 => k_is); k_whole)))
local macro_rules | `(tactic| walk_at "compareOp NotIn int ref") => `(tactic| (k_here; k_dflt (refine' notin_own ?k1 ?k2 ?k3 ?k4 ?k5 ?k6 ?_; (case k1 => k_asm); (case k2 => k_asm); (case k3 => k_asm); (case k4 => k_mem); (case k5 => k_is); (case k6 => k_is); k_whole)))
local macro_rules | `(tactic| walk_at "compareOp In int ref") => `(tactic| (k_here; k_dflt (refine' dm_in ?k1 ?k2 ?k3 ?k4 ?_; (case k1 => k_asm); (case k2 => k_mem); (case k3 => assumption); (case k4 => assumption))))
local macro_rules | `(tactic| walk_at "compareOp In int ref") => `(tactic| (k_here; k_dflt (first | refine' dm_in_t ?k1 ?k2 ?k3 ?k4 ?k5 ?_; (case k1 => k_asm); (case k2 => k_mem); (case k3 => assumption); (case k4 => assumption); (case k5 => assumption) | refine' dm_in_f ?k1 ?k2 ?k3 ?k4 ?k5 ?_; (case k1 => k_asm); (case k2 => k_mem); (case k3 => assumption); (case k4 => assumption); (case k5 => assumption))))
local macro_rules | `(tactic| walk_at "compareOp NotIn int ref") => `(tactic| (k_here; k_dflt (first | refine' dm_notin_t ?k1 ?k2 ?k3 ?k4 ?k5 ?_; (case k1 => k_asm); (case k2 => k_mem); (case k3 => assumption); (case k4 => assumption); (case k5 => assumption) | refine' dm_notin_f ?k1 ?k2 ?k3 ?k4 ?k5 ?_; (case k1 => k_asm); (case k2 => k_mem); (case k3 => assumption); (case k4 => assumption); (case k5 => assumption))))
local macro_rules | `(tactic| walk_at "subscriptTail") => `(tactic| (k_here; (with_reducible show wpAny _ _ (subscriptTail _ _ (Value.ref _) (Value.int _ _)) _ _ _); k_dflt (refine' dm_tail ?k1 ?k2 ?k3 ?k4 ?_; (case k1 => k_asm); (case k2 => k_mem); (case k3 => assumption); (case k4 => assumption))))
local macro_rules | `(tactic| walk_at "call ref") => `(tactic| ((first | (with_reducible show wpAny _ _ (call (Value.ref 37) _) _ _ _) | (with_reducible show wpAny _ _ (call (Value.ref 44) _) _ _ _) | (with_reducible show wpAny _ _ (call (Value.ref 51) _) _ _ _) | (with_reducible show wpAny _ _ (call (Value.ref 58) _) _ _ _) | (with_reducible show wpAny _ _ (call (Value.ref 65) _) _ _ _) | (with_reducible show wpAny _ _ (call (Value.ref 68) _) _ _ _) | (with_reducible show wpAny _ _ (call (Value.ref 79) _) _ _ _) | (with_reducible show wpAny _ _ (call (Value.ref 86) _) _ _ _) | (with_reducible show wpAny _ _ (call (Value.ref 93) _) _ _ _)); refine Stop.out ?_))
local macro_rules | `(tactic| walk_at "call builtin:len") => `(tactic| (k_here; (with_reducible show wpAny _ _ (call (Value.builtin "len") [Value.ref _]) _ _ _); k_dflt (refine' ll_len ?Y ?N ?hx ?hz ?_; (case N => k_asm); (case hx => k_mem); (case Y => (first | exact ll_own (by k_asm) (by k_asm) (by k_asm) (by k_mem) (mroC _) (by k_is) (by k_is) (by k_is) (by k_is) | exact ll_list (by k_asm) (by k_mem))); (case hz => first | omega | (simp only [Array.size_push]; omega)))))
local macro_rules | `(tactic| walk_at "call builtin:list.append") => `(tactic| (k_here; (with_reducible show wpAny _ _ (call (Value.builtin _) [Value.ref _, _]) _ _ _); k_dflt (refine' l_append ?F ?N ?hi ?U ?hz ?_; (case F => k_asm); (case N => k_asm); (case U => (intro k'; k_upd)); (case hi => first | exact is_news (by k_asm) (by k_asm) (by k_asm) (by k_mem) (mroC _) | exact is_list (by k_asm) (by k_mem)); (case hz => first | omega | (simp only [Array.size_push]; omega)); k_whole); intro k' h' F' N'; (try dsimp only at N'); (try k_sweep)))
local macro_rules | `(tactic| walk_at "getMethod type:list") => `(tactic| (k_here; refine' method_type ?F ?X ?m (by decide +kernel) ?e ?h ?_; (case F => k_asm); (case X => k_asm); (case m => exact meta_of_list); (case e => k_dflt k_is); (case h => k_handed)))
local macro_rules | `(tactic| walk_at "call type:enumerate") => `(tactic| (refine Stop.out ?_))
local macro_rules | `(tactic| ktr_enter) => `(tactic| (refine' code_def ?k1 ?k2 ?k3 ?k4 ?k5 ?kA ?kF ?kK ?k6 ?k7 ?k8 ?k9 ?kB ?_ ?c2 ?c3 ?c4 ?c5; (case kA => exact rfl); (case kF => exact rfl); (case kK => first | assumption | exact rfl); (case k1 => k_asm); (case k2 => k_asm); (case k3 => k_asm); (case k4 => k_asm); (case k5 => k_asm); (case k6 => k_is); (case k7 => k_is); (case k8 => ktr_room); (case k9 => first | exact BindsTo.of_eq rfl | exact binds_K (by k_in) rfl (by k_is) rfl rfl rfl); (case c5 => decide); (case kB => exact locs rfl); (case c2 => exact rfl); (case c3 => exact rfl); (case c4 => exact rfl); k_whole; intro g' L' h' FG' F' N' B' X' T'; (try dsimp only); (try k_fold)))
local macro_rules | `(tactic| walk_at "call type:list") => `(tactic| (k_here; (with_reducible show wpAny _ _ (call (Value.type "list") [Value.ref _]) _ _ _); k_dflt (refine' l_copy ?hh ?F ?X ?N ?hx ?hz (mroC _) ?h0 ?h1 ?h2 ?h3 ?h4 ?_; (case hh => exact rfl); (case F => k_asm); (case X => k_asm); (case N => k_asm); (case hx => k_mem); (case hz => omega); (case h0 => k_is); (case h1 => k_is); (case h2 => k_is); (case h3 => k_is); (case h4 => k_is); k_whole); intro l9 k9 h' tk9 F' N' lt9; (try k_sweep)))
local macro_rules | `(tactic| walk_at "subscriptTail") => `(tactic| (k_here; (with_reducible show wpAny _ _ (subscriptTail _ _ (Value.ref _) (Value.int _ _)) _ _ _); k_dflt (refine' li_tail ?k1 ?k2 ?k3 ?k4 ?_; (case k1 => k_asm); (case k2 => k_mem); (case k3 => assumption); (case k4 => omega))))
local macro_rules | `(tactic| walk_at "exec Raise some none") => `(tactic| (k_here; (with_reducible show wpAny _ _ (exec (Stmt.Raise (some (Expr.Name ("ValueError" : Str) _)) none _) _) _ _ _); (with_reducible rename Fr _ _ _ _ => kF); k_dflt (refine' raise_VE ?hh ?hs ?hx ?_; (case hh => rfl); (case hs => rw [isSubtype_type]; kernel_rfl); (case hx => (refine' name_B kF ?k1 ?k2 ?k3 ?k4 ?k5 ?_; (case k1 => k_asm); (case k2 => k_asm); (case k3 => k_is); (case k4 => boot_by_name); (case k5 => decide); exact ⟨rfl, rfl⟩)))))
local macro_rules | `(tactic| walk_at "my ask") => `(tactic| ((refine' code_ask ?k1 ?k2 ?k3 ?k4 ?k5 ?kA ?kF ?cK ?k6 ?k7 ?k8 ?k9 ?kB ?_ ?c2 ?c3 ?c4 ?c5; (case kA => exact rfl); (case kF => exact rfl); (case k2 => k_asm); (case k1 => k_asm); (case k3 => k_asm); (case k4 => k_asm); (case k5 => k_asm); (case k6 => k_is); (case k7 => k_is); (case k8 => ktr_room); (case k9 => first | exact BindsTo.of_eq rfl | exact binds_K (by k_in) rfl (by k_is) rfl rfl rfl); (case kB => exact locs rfl); (case cK => first | assumption | exact rfl); (case c2 => exact rfl); (case c3 => exact rfl); (case c4 => exact rfl); (case c5 => decide); k_whole; intro g' L' h' FG' F' N' B' X' T' D'; (try dsimp only); (try k_lift B'); (try k_fold))))
local macro_rules | `(tactic| walk_at "call builtin:list.insert") => `(tactic| (k_here; (with_reducible show wpAny _ _ (call (Value.builtin _) [Value.ref _, Value.int _ _, _]) _ _ _); k_dflt (refine' l_insert ?F ?N ?hi ?U ?hz ?h0 ?hn ?_; (case F => k_asm); (case N => k_asm); (case U => (intro k'; k_upd)); (case hi => (first | exact is_news (by k_asm) (by k_asm) (by k_asm) (by k_mem) (mroC _) | exact is_list (by k_asm) (by k_mem))); (case hz => omega); (case h0 => omega); (case hn => omega); k_whole); intro k' h' F' N'; (try dsimp only at N'); (try k_sweep)))
local macro_rules | `(tactic| walk_at "call builtin:list.extend") => `(tactic| (k_here; (with_reducible show wpAny _ _ (call (Value.builtin _) [Value.ref _, Value.ref _]) _ _ _); k_dflt (refine' l_extend ?F ?N ?hi ?hb ?U ?hz ?_; (case F => k_asm); (case N => k_asm); (case hb => k_mem); (case U => (intro k'; k_upd)); (case hi => (first | exact is_news (by k_asm) (by k_asm) (by k_asm) (by k_mem) (mroC _) | exact is_list (by k_asm) (by k_mem))); (case hz => (first | omega | (simp only [List.size_toArray, List.length_cons, List.length_nil]; omega))); k_whole); intro k' h' F' N'; (try dsimp only at N'); (try k_sweep)))
local macro_rules | `(tactic| walk_at "call builtin:list.reverse") => `(tactic| (k_here; (with_reducible show wpAny _ _ (call (Value.builtin _) [Value.ref _]) _ _ _); k_dflt (refine' l_reverse ?F ?N ?hi ?U ?hz ?_; (case F => k_asm); (case N => k_asm); (case U => (intro k'; k_upd)); (case hi => (first | exact is_news (by k_asm) (by k_asm) (by k_asm) (by k_mem) (mroC _) | exact is_list (by k_asm) (by k_mem))); (case hz => omega); k_whole); intro k' h' F' N'; (try dsimp only at N'); (try k_sweep)))
local macro_rules | `(tactic| walk_at "call builtin:list.sort") => `(tactic| (k_here; (with_reducible show wpAny _ _ (call (Value.builtin _) [Value.ref _]) _ _ _); k_dflt (refine' l_sort ?F ?N ?hi ?U ?hI ?h64 ?_; (case F => k_asm); (case N => k_asm); (case U => k_updF); (case hi => (first | exact is_news (by k_asm) (by k_asm) (by k_asm) (by k_mem) (mroC _) | exact is_list (by k_asm) (by k_mem))); (case hI => assumption); (case h64 => omega); k_whole); intro out ns' k' h' iI iP iS F' N'; (try dsimp only at N'); (try k_sweep)))
local macro_rules | `(tactic| walk_at "call builtin:list.pop") => `(tactic| (k_here; (with_reducible show wpAny _ _ (call (Value.builtin _) [Value.ref _, Value.int _ _]) _ _ _); k_dflt (refine' l_pop ?F ?N ?hi ?U ?hz ?h0 ?hv ?_; (case F => k_asm); (case N => k_asm); (case U => (intro k'; k_upd)); (case hi => (first | exact is_news (by k_asm) (by k_asm) (by k_asm) (by k_mem) (mroC _) | exact is_list (by k_asm) (by k_mem))); (case hz => omega); (case h0 => omega); (case hv => assumption); k_whole); intro k' h' F' N'; (try dsimp only at N'); (try k_sweep)))
local macro_rules | `(tactic| walk_at "call builtin:list.remove") => `(tactic| (k_here; (with_reducible show wpAny _ _ (call (Value.builtin _) [Value.ref _, Value.int _ _]) _ _ _); k_dflt (refine' l_remove ?F ?N ?hi ?U ?hz ?hI ?hj ?hno ?_; (case F => k_asm); (case N => k_asm); (case U => (intro k'; k_upd)); (case hI => assumption); (case hj => assumption); (case hno => assumption); (case hi => (first | exact is_news (by k_asm) (by k_asm) (by k_asm) (by k_mem) (mroC _) | exact is_list (by k_asm) (by k_mem))); (case hz => omega); k_whole); intro k' h' F' N'; (try dsimp only at N'); (try k_sweep)))
local macro_rules | `(tactic| walk_at "delItem ref int") => `(tactic| (k_here; k_dflt (refine' ll_del ?Y ?F ?N ?U ?hz ?h0 ?hn ?_; (case F => k_asm); (case N => k_asm); (case U => (intro k'; k_upd)); (case Y => (first | exact ll_own (by k_asm) (by k_asm) (by k_asm) (by k_mem) (mroC _) (by k_is) (by k_is) (by k_is) (by k_is) | exact ll_list (by k_asm) (by k_mem))); (case hz => omega); (case h0 => omega); (case hn => omega); k_whole); intro k' h' F' N'; (try dsimp only at N'); (try k_sweep)))
local macro_rules | `(tactic| walk_at "setItem ref ref") => `(tactic| (k_here; k_dflt (refine' set_slice_p ?F ?N ?he ?hs ?hq ?hb ?hab ?Y ?U ?hz ?h0 ?hn ?_; (case F => k_asm); (case N => k_asm); (case he => exact rfl); (case hs => exact rfl); (case hq => exact rfl); (case hb => k_mem); (case hab => k_ne); (case Y => (intro s' F' N'; (first | exact ll_own (by k_asm) (by k_asm) (by k_asm) (by k_mem) (mroC _) (by k_is) (by k_is) (by k_is) (by k_is) | exact ll_list (by k_asm) (by k_mem)))); (case U => (intro k'; k_upd)); (case hz => (first | omega | (simp only [List.size_toArray, List.length_cons, List.length_nil]; omega))); (case h0 => omega); (case hn => omega); k_whole); intro k' h' F' N'; (try dsimp only at N'); (try k_sweep)))
local macro_rules | `(tactic| walk_at "pad 0") => `(tactic| skip)
local macro_rules | `(tactic| walk_at "pad 1") => `(tactic| skip)
local macro_rules | `(tactic| walk_at "pad 2") => `(tactic| skip)
local macro_rules | `(tactic| walk_at "pad 3") => `(tactic| skip)
local macro_rules | `(tactic| walk_at "pad 4") => `(tactic| skip)
local macro_rules | `(tactic| walk_at "pad 5") => `(tactic| skip)
local macro_rules | `(tactic| walk_at "pad 6") => `(tactic| skip)
local macro_rules | `(tactic| walk_at "pad 7") => `(tactic| skip)
local macro_rules | `(tactic| walk_at "pad 8") => `(tactic| skip)
local macro_rules | `(tactic| walk_at "pad 9") => `(tactic| skip)
local macro_rules | `(tactic| walk_at "pad 10") => `(tactic| skip)
local macro_rules | `(tactic| walk_at "pad 11") => `(tactic| skip)
local macro_rules | `(tactic| walk_at "pad 12") => `(tactic| skip)
local macro_rules | `(tactic| walk_at "pad 13") => `(tactic| skip)
local macro_rules | `(tactic| walk_at "pad 14") => `(tactic| skip)
local macro_rules | `(tactic| walk_at "pad 15") => `(tactic| skip)
local macro_rules | `(tactic| walk_at "pad 16") => `(tactic| skip)
local macro_rules | `(tactic| walk_at "pad 17") => `(tactic| skip)
local macro_rules | `(tactic| walk_at "pad 18") => `(tactic| skip)
local macro_rules | `(tactic| walk_at "pad 19") => `(tactic| skip)
local macro_rules | `(tactic| walk_at "pad 20") => `(tactic| skip)
local macro_rules | `(tactic| walk_at "pad 21") => `(tactic| skip)
local macro_rules | `(tactic| walk_at "pad 22") => `(tactic| skip)
local macro_rules | `(tactic| walk_at "pad 23") => `(tactic| skip)
local macro_rules | `(tactic| walk_at "pad 24") => `(tactic| skip)
local macro_rules | `(tactic| walk_at "pad 25") => `(tactic| skip)
local macro_rules | `(tactic| walk_at "pad 26") => `(tactic| skip)
local macro_rules | `(tactic| walk_at "pad 27") => `(tactic| skip)
local macro_rules | `(tactic| walk_at "pad 28") => `(tactic| skip)
local macro_rules | `(tactic| walk_at "pad 29") => `(tactic| skip)
local macro_rules | `(tactic| walk_at "pad 30") => `(tactic| skip)
local macro_rules | `(tactic| walk_at "pad 31") => `(tactic| skip)
local macro_rules | `(tactic| walk_at "pad 32") => `(tactic| skip)
local macro_rules | `(tactic| walk_at "pad 33") => `(tactic| skip)
local macro_rules | `(tactic| walk_at "pad 34") => `(tactic| skip)
local macro_rules | `(tactic| walk_at "pad 35") => `(tactic| skip)
section
variable {w : World} {p : Program} {loose : List Str} {mean : ExcName → Option Value} {mg mb : Str → Option Value}
  {dp un : Nat} {gd : Option (List Code)} {cn : Str} {cs : Scope} {ca : Addr} {ccd : Value} {cl : List (Str × Addr)} {outer : List Env} {A₀ : Around} {base h₀ : Heap} {L : Addr} {m : Str → Option Value} {s : Shared} {Q E : Value → Shared → Prop}




theorem init_list {x dx l : Addr} {us : Array Value} {ku : Nat} {ns : List Int} {rest : List (Addr × Obj)} {R : Result → Shared → Prop}
    (B : Below A₀ base outer h₀) (F : Fr h₀ L s.heap m) (X : (hd.heap_39 w.params).In h₀) (T : Top p loose mean mg mb h₀) (hk : cs.kind = .function) (hdp : dp + 4 < recursionLimit) (hun : un + 110 < cLine)
    (N : News h₀ L s.heap ((x, subObj 68 dx #[] 0) :: (dx, dictOf [] 0) :: (l, W.listOf us ku) :: rest)) (q1 : @Ne Nat x dx) (q2 : @Ne Nat l x) (q3 : @Ne Nat l dx) (q4 : AllNe x rest) (q5 : AllNe dx rest)
    (hI : IntsAre us.toList ns) (hz : us.size ≤ 100)
    (ret : ∀ D vs n t1 t2 h' tk', Fr h₀ L h' m → News h₀ L h' ((x, subObj 68 dx vs n) :: (dx, attrD w.params t1 t2 false D 2) :: (l, W.listOf us ku) :: rest) → IntsAre vs.toList ns → R (.ok (.ret .none)) { s with heap := h', toks := tk' }) :
    codeAny (model PySem.Challenge.rw_aq6060_01.row.prog w) (ktrTop dp un gd cn cs L ca ccd cl outer) (.call (.ref 30) ⟨[.ref x, .ref l], []⟩) R s := by
  k_dflt ktr_enter
  k_steps
  refine ⟨?_⟩
  rename Fr _ _ _ _ => F1
  with_unfolding_all refine forE F1 (by exact rfl) (by exact rfl) (by exact rfl) (by exact rfl) ?_
  k_steps
  refine ⟨?_⟩
  rename Fr _ _ _ _ => F1
  rename News _ _ _ _ => N1
  rename _ ∧ _ ∧ _ ∧ AllLt _ _ => lD'
  rename (_ == sysModules) = false => lo'
  obtain ⟨D', t1, t2, N2, lo, lD⟩ := attr_gen N1 lo' lD'
  clear N1 lo' lD'
  refine enum_list (us := us) (ku := ku) (fun i m' nx => m' (Str.ofString "self") = some (.ref x) ∧ ∃ o f vs n, DM PySem.Challenge.rw_aq6060_01.row.prog w o f i ∧ IntsAre vs.toList (ns.take i) ∧
      nx = (D', o) :: (x, subObj 68 dx vs n) :: (dx, attrD w.params t1 t2 false D' 2) :: (l, W.listOf us ku) :: rest)
    rfl (.tail _ (.tail _ (.tail _ (.head _)))) F1 N2 ⟨rfl, _, _, _, _, DM.nil _ _ 0, .nil, rfl⟩ ?turn ?done
  case turn =>
    rintro i v t m₁ nx h2 tk2 own hv ⟨hs, o, f, vs, n, hM, hIv, rfl⟩ - hown F2 N3
    obtain ⟨y, ty, rfl, hy⟩ := ia_at hI hv
    have hlt : i < 100 := Nat.lt_of_lt_of_le (Array.getElem?_eq_some_iff.mp hv).1 hz
    obtain ⟨p1, p2, p3, p4⟩ := lD
    have hvs : vs.size ≤ 100 := by
      have := ia_size hIv
      rw [List.length_take] at this
      omega
    have tD : ∀ p ∈ rest ++ own, p.1 ≠ D' := fun p hp => by
      rcases List.mem_append.mp hp with h | h
      · exact allLt_ne p4 p h
      · exact hown (D', dictOf [] 0) (.head _) (Nat.ne_of_gt p3) p h
    have tx : ∀ p ∈ rest ++ own, p.1 ≠ x := fun p hp => by
      rcases List.mem_append.mp hp with h | h
      · exact allNe_all q4 p h
      · exact hown (x, subObj 68 dx #[] 0) (.tail _ (.head _)) (Ne.symm q2) p h
    simp only [List.cons_append] at N3
    have F3 := fr_as F2 (in2_one hs)
    clear F2 hs
    k_steps
    rename Fr _ _ _ _ => F4
    rename News _ _ _ _ => N4
    rename DM _ _ _ _ _ => M4
    rw [← List.cons_append, ← List.cons_append, ← List.cons_append, ← List.cons_append] at N4
    exact ⟨_, _, _, _, rfl, F4, N4, rfl, rfl, _, _, _, _, M4, by rw [take_succ_of hy]; exact ia_push hIv y ty, rfl⟩
  case done =>
    rintro m₁ nx h2 tk2 ⟨hs, o, f, vs, n, hM, hIv, rfl⟩ - F2 N3
    rw [ia_size hI, List.take_length] at hIv
    have F3 := fr_as F2 (map_has hs)
    clear F2 hs
    k_steps
    rename Fr h₀ _ _ _ => kF
    rename News h₀ _ _ _ => kN
    exact ret _ _ _ _ _ _ _ kF (fun p hp => kN p (.tail _ hp)) hIv

theorem init_iter {x dx l it : Addr} {oI : Obj} {us : Array Value} {ku : Nat} {ns : List Int} {rest : List (Addr × Obj)} {R : Result → Shared → Prop}
    (B : Below A₀ base outer h₀) (F : Fr h₀ L s.heap m) (X : (hd.heap_39 w.params).In h₀) (T : Top p loose mean mg mb h₀) (hk : cs.kind = .function) (hdp : dp + 4 < recursionLimit) (hun : un + 110 < cLine)
    (N : News h₀ L s.heap ((x, subObj 68 dx #[] 0) :: (dx, dictOf [] 0) :: (l, W.listOf us ku) :: (it, oI) :: rest)) (hcI : oI.cls = .type "list_iterator") (hdI : oI.data = .fields #[.ref l, .int 0 0]) (r1 : @Ne Nat x it) (r2 : @Ne Nat dx it) (r3 : @Ne Nat l it) (r4 : AllNe it rest) (q1 : @Ne Nat x dx) (q2 : @Ne Nat l x) (q3 : @Ne Nat l dx) (q4 : AllNe x rest) (q5 : AllNe dx rest)
    (hI : IntsAre us.toList ns) (hz : us.size ≤ 100)
    (ret : ∀ D vs n t1 t2 h' tk', Fr h₀ L h' m → News h₀ L h' ((x, subObj 68 dx vs n) :: (dx, attrD w.params t1 t2 false D 2) :: (l, W.listOf us ku) :: rest) → IntsAre vs.toList ns → R (.ok (.ret .none)) { s with heap := h', toks := tk' }) :
    codeAny (model PySem.Challenge.rw_aq6060_01.row.prog w) (ktrTop dp un gd cn cs L ca ccd cl outer) (.call (.ref 30) ⟨[.ref x, .ref it], []⟩) R s := by
  k_dflt ktr_enter
  k_steps
  refine ⟨?_⟩
  rename Fr _ _ _ _ => F1
  with_unfolding_all refine forE F1 (by exact rfl) (by exact rfl) (by exact rfl) (by exact rfl) ?_
  k_steps
  refine ⟨?_⟩
  rename Fr _ _ _ _ => F1
  rename News _ _ _ _ => N1
  rename _ ∧ _ ∧ _ ∧ _ ∧ AllLt _ _ => lD'
  rename (_ == sysModules) = false => lo'
  obtain ⟨D', t1, t2, N2, lo, lD⟩ := attr_gen2 N1 lo' lD'
  clear N1 lo' lD'
  refine enum_iter (l := l) (oI := oI) (us := us) (ku := ku) (news := (D', dictOf [] 0) :: (x, subObj 68 dx #[] 0) :: (dx, attrD w.params t1 t2 false D' 2) :: (l, W.listOf us ku) :: rest) (fun i m' nx => m' (Str.ofString "self") = some (.ref x) ∧ ∃ o f vs n, DM PySem.Challenge.rw_aq6060_01.row.prog w o f i ∧ IntsAre vs.toList (ns.take i) ∧
      nx = (D', o) :: (x, subObj 68 dx vs n) :: (dx, attrD w.params t1 t2 false D' 2) :: (l, W.listOf us ku) :: rest)
    rfl (.tail _ (.tail _ (.tail _ (.head _)))) hcI hdI (allNe_all ⟨lD.2.2.2.1, r1, r2, r3, r4⟩) F1 (perm5 N2) ⟨rfl, _, _, _, _, DM.nil _ _ 0, .nil, rfl⟩ ?turn ?done
  case turn =>
    rintro i v t m₁ nx h2 tk2 own hv ⟨hs, o, f, vs, n, hM, hIv, rfl⟩ - hown F2 N3
    obtain ⟨y, ty, rfl, hy⟩ := ia_at hI hv
    have hlt : i < 100 := Nat.lt_of_lt_of_le (Array.getElem?_eq_some_iff.mp hv).1 hz
    obtain ⟨p1, p2, p3, -, p4⟩ := lD
    have hvs : vs.size ≤ 100 := by
      have := ia_size hIv
      rw [List.length_take] at this
      omega
    have tD : ∀ p ∈ rest ++ own, p.1 ≠ D' := fun p hp => by
      rcases List.mem_append.mp hp with h | h
      · exact allLt_ne p4 p h
      · exact hown (D', dictOf [] 0) (.head _) (Nat.ne_of_gt p3) p h
    have tx : ∀ p ∈ rest ++ own, p.1 ≠ x := fun p hp => by
      rcases List.mem_append.mp hp with h | h
      · exact allNe_all q4 p h
      · exact hown (x, subObj 68 dx #[] 0) (.tail _ (.head _)) (Ne.symm q2) p h
    simp only [List.cons_append] at N3
    have F3 := fr_as F2 (in2_one hs)
    clear F2 hs
    k_steps
    rename Fr _ _ _ _ => F4
    rename News _ _ _ _ => N4
    rename DM _ _ _ _ _ => M4
    rw [← List.cons_append, ← List.cons_append, ← List.cons_append, ← List.cons_append] at N4
    exact ⟨_, _, _, _, rfl, F4, N4, rfl, rfl, _, _, _, _, M4, by rw [take_succ_of hy]; exact ia_push hIv y ty, rfl⟩
  case done =>
    rintro m₁ nx h2 tk2 ⟨hs, o, f, vs, n, hM, hIv, rfl⟩ - F2 N3
    rw [ia_size hI, List.take_length] at hIv
    have F3 := fr_as F2 (map_has hs)
    clear F2 hs
    k_steps
    rename Fr h₀ _ _ _ => kF
    rename News h₀ _ _ _ => kN
    exact ret _ _ _ _ _ _ _ kF (fun p hp => kN p (.tail _ hp)) hIv

theorem init_none {x dx : Addr} {rest : List (Addr × Obj)} {R : Result → Shared → Prop}
    (B : Below A₀ base outer h₀) (F : Fr h₀ L s.heap m) (X : (hd.heap_39 w.params).In h₀) (T : Top p loose mean mg mb h₀) (hk : cs.kind = .function) (hdp : dp + 4 < recursionLimit) (hun : un + 110 < cLine)
    (N : News h₀ L s.heap ((x, subObj 68 dx #[] 0) :: (dx, dictOf [] 0) :: rest)) (q1 : @Ne Nat x dx) (q4 : AllNe x rest) (q5 : AllNe dx rest)
    (ret : ∀ D t1 t2 h' tk', Fr h₀ L h' m → News h₀ L h' ((D, dictOf [] 0) :: (x, subObj 68 dx #[] 0) :: (dx, attrD w.params t1 t2 true D 2) :: rest) → (D == sysModules) = false → @LT.lt Nat _ x D → @LT.lt Nat _ dx D → AllLt D rest → R (.ok (.ret .none)) { s with heap := h', toks := tk' }) :
    codeAny (model PySem.Challenge.rw_aq6060_01.row.prog w) (ktrTop dp un gd cn cs L ca ccd cl outer) (.call (.ref 30) ⟨[.ref x], []⟩) R s := by
  k_dflt ktr_enter
  k_steps
  rename Fr h₀ _ _ _ => kF
  rename News h₀ _ _ _ => kN
  rename _ ∧ _ ∧ AllLt _ _ => lD
  rename (_ == sysModules) = false => lo
  exact ret _ _ _ _ _ kF kN lo lD.1 lD.2.1 lD.2.2
end
end Mine
end PV

section PX
namespace Mine
theorem top_off_X : True := by
  w_top off
  trivial
end Mine
set_option maxRecDepth 100000
set_option maxHeartbeats 8000000
namespace Mine
local macro_rules | `(tactic| k_inst) => `(tactic| (refine' inst_of_news ?N ?h1 ?h2; (case N => k_asm); (case h1 => k_mem); (case h2 => k_mem)))
local macro_rules | `(tactic| k_all) => `(tactic| first | assumption | exact allNe_all (by assumption) | exact allLt_ne (by assumption) | exact allLt_ne (And.right (by assumption)) | exact allLt_ne (And.right (And.right (by assumption))) | exact allLt_ne (And.right (And.right (And.right (by assumption)))) | exact allLt_ne (And.right (And.right (And.right (And.right (by assumption))))))
local macro_rules | `(tactic| walk_at "setAttr ref") => `(tactic| (k_here; k_dflt (refine' setL_dict ?k1 ?k2 ?k3 ?k4 ?k5 ?k6 ?k7 ?k8 ?k9 ?k10 ?k11 ?k12 ?k13 ?_; (case k1 => k_asm); (case k2 => k_asm); (case k3 => k_asm); (case k4 => k_inst); (case k5 => exact rfl); (case k6 => k_is); (case k7 => exact mroC _); (case k8 => k_is); (case k9 => k_is); (case k10 => k_get); (case k11 => k_put); (case k12 => k_upd); (case k13 => exact Nat.le_of_ble_eq_true rfl); k_whole; intro h' F' N'; (try k_sweep))))
local macro_rules | `(tactic| walk_at "setAttr ref") => `(tactic| (k_here; (first | ((with_reducible show wpAny _ _ (setAttr (Value.ref _) (Str.ofString "_dict") _) _ _ _); k_dflt (refine' set_d ?k1 ?k2 ?k3 ?k4 ?k5 ?k6 ?k7 ?k8 ?k9 ?_)) | ((with_reducible show wpAny _ _ (setAttr (Value.ref _) (Str.ofString "clean") _) _ _ _); k_dflt (refine' set_c ?k1 ?k2 ?k3 ?k4 ?k5 ?k6 ?k7 ?k8 ?k9 ?_))); (case k1 => k_asm); (case k2 => k_asm); (case k3 => k_asm); (case k4 => k_mem); (case k5 => k_dflt k_is); (case k6 => exact mroC _); (case k7 => k_dflt k_is); (case k8 => k_dflt k_is); (case k9 => k_dflt k_upd); k_whole; intro h' F' N'; (try k_sweep)))
local macro_rules | `(tactic| walk_at "eval Dict nil nil") => `(tactic| (k_here; k_dflt (refine' new_dictK ?k1 ?k2 (TopRead.nolimit (by k_asm)) ?_; (case k1 => k_asm); (case k2 => k_asm); k_whole); intro d' h' F' N' l1 lo'; (try k_lt l1); (try k_sweep)))
local macro_rules | `(tactic| walk_at "exec For Name Name cons nil") => `(tactic| (refine Stop.out ?_))
local macro_rules | `(tactic| walk_at "exec For Name Call cons nil") => `(tactic| (refine Stop.out ?_))
local macro_rules | `(tactic| walk_at "exec For Tuple Call cons nil") => `(tactic| (refine Stop.out ?_))
local macro_rules | `(tactic| walk_at "pyIter ref") => `(tactic| ((with_reducible show wpAny _ _ (pyIter (Value.ref _)) (fun it s₂ => LoopAtV _ _ _ _ _ _ _ _ _ it s₂) _ _); refine Stop.out ?_))
local macro_rules | `(tactic| walk_at "compareOp NotIn int ref") => `(tactic| (k_here; k_dflt ((first | refine' dm_notin_t ?k1 ?k2 ?k3 ?k4 ?k5 ?_; (case k1 => k_asm); (case k2 => k_mem); (case k3 => assumption); (case k4 => assumption); (case k5 => assumption) | refine' dm_notin_f ?k1 ?k2 ?k3 ?k4 ?k5 ?_; (case k1 => k_asm); (case k2 => k_mem); (case k3 => assumption); (case k4 => assumption); (case k5 => assumption)))))
local macro_rules | `(tactic| walk_at "compareOp In int ref") => `(tactic| (k_here; k_dflt ((first | refine' dm_in_t ?k1 ?k2 ?k3 ?k4 ?k5 ?_; (case k1 => k_asm); (case k2 => k_mem); (case k3 => assumption); (case k4 => assumption); (case k5 => assumption) | refine' dm_in_f ?k1 ?k2 ?k3 ?k4 ?k5 ?_; (case k1 => k_asm); (case k2 => k_mem); (case k3 => assumption); (case k4 => assumption); (case k5 => assumption)))))
local macro_rules | `(tactic| walk_at "setItem ref int") => `(tactic| (k_here; k_dflt (refine' dm_set ?k1 ?k2 ?k3 ?k4 ?k5 ?_; (case k1 => k_asm); (case k2 => k_asm); (case k3 => k_updF); (case k4 => assumption); (case k5 => omega); k_whole); intro o' h' F' N' x'; (try dsimp only at N'); (try k_sweep)))
local macro_rules | `(tactic| walk_at "getAttr ref") => `(tactic| (k_here; (first | ((with_reducible show wpAny _ _ (getAttr (Value.ref _) (Str.ofString "_dict") _) _ _ _); k_dflt (refine' getA_d ?k1 ?k2 ?k3 ?k4 ?k5 ?k6 ?k7 ?k8 ?k9 ?k10 ?k11 ?_)) | ((with_reducible show wpAny _ _ (getAttr (Value.ref _) (Str.ofString "clean") _) _ _ _); k_dflt (refine' getA_c ?k1 ?k2 ?k3 ?k4 ?k5 ?k6 ?k7 ?k8 ?k9 ?k10 ?k11 ?_))); (case k1 => k_asm); (case k2 => k_asm); (case k3 => k_asm); (case k4 => k_mem); (case k5 => k_mem); (case k6 => exact mroC _); (case k7 => k_dflt k_is); (case k8 => k_dflt k_is); (case k9 => k_dflt k_is); (case k10 => k_dflt k_is); (case k11 => k_dflt k_is); k_whole))
local macro_rules | `(tactic| walk_at "getMethod ref") => `(tactic| (k_here; k_dflt (refine' methA ?k1 ?k2 ?k3 ?k4 ?k5 ?k6 ?k7 ?k8 ?k9 ?k10 ?k11 ?_; (case k1 => k_asm); (case k2 => k_asm); (case k3 => k_asm); (case k4 => k_mem); (case k5 => k_mem); (case k6 => k_is); (case k7 => k_is); (case k8 => k_is); (case k9 => k_is); (case k10 => decide); (case k11 => k_get); k_whole)))
local macro_rules | `(tactic| walk_at "compareOp In int ref") => `(tactic| (k_here; k_dflt (refine' in_own ?k1 ?k2 ?k3 ?k4 ?k5 ?k6 ?_; (case k1 => k_asm); (case k2 => k_asm); (case k3 => k_asm); (case k4 => k_mem); (case k5 => k_is); (case k6 => k_is); k_whole)))
local macro_rules | `(tactic| walk_at "compareOp NotIn int ref") => `(tactic| (k_here; k_dflt (refine' notin_own ?k1 ?k2 ?k3 ?k4 ?k5 ?k6 ?_; (case k1 => k_asm); (case k2 => k_asm); (case k3 => k_asm); (case k4 => k_mem); (case k5 => k_is); (case k6 => k_is); k_whole)))
local macro_rules | `(tactic| walk_at "compareOp In int ref") => `(tactic| (k_here; k_dflt (refine' dm_in ?k1 ?k2 ?k3 ?k4 ?_; (case k1 => k_asm); (case k2 => k_mem); (case k3 => assumption); (case k4 => assumption))))
local macro_rules | `(tactic| walk_at "compareOp In int ref") => `(tactic| (k_here; k_dflt (first | refine' dm_in_t ?k1 ?k2 ?k3 ?k4 ?k5 ?_; (case k1 => k_asm); (case k2 => k_mem); (case k3 => assumption); (case k4 => assumption); (case k5 => assumption) | refine' dm_in_f ?k1 ?k2 ?k3 ?k4 ?k5 ?_; (case k1 => k_asm); (case k2 => k_mem); (case k3 => assumption); (case k4 => assumption); (case k5 => assumption))))
local macro_rules | `(tactic| walk_at "compareOp NotIn int ref") => `(tactic| (k_here; k_dflt (first | refine' dm_notin_t ?k1 ?k2 ?k3 ?k4 ?k5 ?_; (case k1 => k_asm); (case k2 => k_mem); (case k3 => assumption); (case k4 => assumption); (case k5 => assumption) | refine' dm_notin_f ?k1 ?k2 ?k3 ?k4 ?k5 ?_; (case k1 => k_asm); (case k2 => k_mem); (case k3 => assumption); (case k4 => assumption); (case k5 => assumption))))
local macro_rules | `(tactic| walk_at "subscriptTail") => `(tactic| (k_here; (with_reducible show wpAny _ _ (subscriptTail _ _ (Value.ref _) (Value.int _ _)) _ _ _); k_dflt (refine' dm_tail ?k1 ?k2 ?k3 ?k4 ?_; (case k1 => k_asm); (case k2 => k_mem); (case k3 => assumption); (case k4 => assumption))))
local macro_rules | `(tactic| walk_at "call ref") => `(tactic| ((first | (with_reducible show wpAny _ _ (call (Value.ref 37) _) _ _ _) | (with_reducible show wpAny _ _ (call (Value.ref 44) _) _ _ _) | (with_reducible show wpAny _ _ (call (Value.ref 51) _) _ _ _) | (with_reducible show wpAny _ _ (call (Value.ref 58) _) _ _ _) | (with_reducible show wpAny _ _ (call (Value.ref 65) _) _ _ _) | (with_reducible show wpAny _ _ (call (Value.ref 68) _) _ _ _) | (with_reducible show wpAny _ _ (call (Value.ref 79) _) _ _ _) | (with_reducible show wpAny _ _ (call (Value.ref 86) _) _ _ _) | (with_reducible show wpAny _ _ (call (Value.ref 93) _) _ _ _)); refine Stop.out ?_))
local macro_rules | `(tactic| walk_at "call builtin:len") => `(tactic| (k_here; (with_reducible show wpAny _ _ (call (Value.builtin "len") [Value.ref _]) _ _ _); k_dflt (refine' ll_len ?Y ?N ?hx ?hz ?_; (case N => k_asm); (case hx => k_mem); (case Y => (first | exact ll_own (by k_asm) (by k_asm) (by k_asm) (by k_mem) (mroC _) (by k_is) (by k_is) (by k_is) (by k_is) | exact ll_list (by k_asm) (by k_mem))); (case hz => first | omega | (simp only [Array.size_push]; omega)))))
local macro_rules | `(tactic| walk_at "call builtin:list.append") => `(tactic| (k_here; (with_reducible show wpAny _ _ (call (Value.builtin _) [Value.ref _, _]) _ _ _); k_dflt (refine' l_append ?F ?N ?hi ?U ?hz ?_; (case F => k_asm); (case N => k_asm); (case U => (intro k'; k_upd)); (case hi => first | exact is_news (by k_asm) (by k_asm) (by k_asm) (by k_mem) (mroC _) | exact is_list (by k_asm) (by k_mem)); (case hz => first | omega | (simp only [Array.size_push]; omega)); k_whole); intro k' h' F' N'; (try dsimp only at N'); (try k_sweep)))
local macro_rules | `(tactic| walk_at "getMethod type:list") => `(tactic| (k_here; refine' method_type ?F ?X ?m (by decide +kernel) ?e ?h ?_; (case F => k_asm); (case X => k_asm); (case m => exact meta_of_list); (case e => k_dflt k_is); (case h => k_handed)))
local macro_rules | `(tactic| walk_at "call type:enumerate") => `(tactic| (refine Stop.out ?_))
local macro_rules | `(tactic| ktr_enter) => `(tactic| (refine' code_def ?k1 ?k2 ?k3 ?k4 ?k5 ?kA ?kF ?kK ?k6 ?k7 ?k8 ?k9 ?kB ?_ ?c2 ?c3 ?c4 ?c5; (case kA => exact rfl); (case kF => exact rfl); (case kK => first | assumption | exact rfl); (case k1 => k_asm); (case k2 => k_asm); (case k3 => k_asm); (case k4 => k_asm); (case k5 => k_asm); (case k6 => k_is); (case k7 => k_is); (case k8 => ktr_room); (case k9 => first | exact BindsTo.of_eq rfl | exact binds_K (by k_in) rfl (by k_is) rfl rfl rfl); (case c5 => decide); (case kB => exact locs rfl); (case c2 => exact rfl); (case c3 => exact rfl); (case c4 => exact rfl); k_whole; intro g' L' h' FG' F' N' B' X' T'; (try dsimp only); (try k_fold)))
local macro_rules | `(tactic| walk_at "call type:list") => `(tactic| (k_here; (with_reducible show wpAny _ _ (call (Value.type "list") [Value.ref _]) _ _ _); k_dflt (refine' l_copy ?hh ?F ?X ?N ?hx ?hz (mroC _) ?h0 ?h1 ?h2 ?h3 ?h4 ?_; (case hh => exact rfl); (case F => k_asm); (case X => k_asm); (case N => k_asm); (case hx => k_mem); (case hz => omega); (case h0 => k_is); (case h1 => k_is); (case h2 => k_is); (case h3 => k_is); (case h4 => k_is); k_whole); intro l9 k9 h' tk9 F' N' lt9; (try k_sweep)))
local macro_rules | `(tactic| walk_at "subscriptTail") => `(tactic| (k_here; (with_reducible show wpAny _ _ (subscriptTail _ _ (Value.ref _) (Value.int _ _)) _ _ _); k_dflt (refine' li_tail ?k1 ?k2 ?k3 ?k4 ?_; (case k1 => k_asm); (case k2 => k_mem); (case k3 => assumption); (case k4 => omega))))
local macro_rules | `(tactic| walk_at "exec Raise some none") => `(tactic| (k_here; (with_reducible show wpAny _ _ (exec (Stmt.Raise (some (Expr.Name ("ValueError" : Str) _)) none _) _) _ _ _); (with_reducible rename Fr _ _ _ _ => kF); k_dflt (refine' raise_VE ?hh ?hs ?hx ?_; (case hh => rfl); (case hs => rw [isSubtype_type]; kernel_rfl); (case hx => (refine' name_B kF ?k1 ?k2 ?k3 ?k4 ?k5 ?_; (case k1 => k_asm); (case k2 => k_asm); (case k3 => k_is); (case k4 => boot_by_name); (case k5 => decide); exact ⟨rfl, rfl⟩)))))
local macro_rules | `(tactic| walk_at "my ask") => `(tactic| ((refine' code_ask ?k1 ?k2 ?k3 ?k4 ?k5 ?kA ?kF ?cK ?k6 ?k7 ?k8 ?k9 ?kB ?_ ?c2 ?c3 ?c4 ?c5; (case kA => exact rfl); (case kF => exact rfl); (case k2 => k_asm); (case k1 => k_asm); (case k3 => k_asm); (case k4 => k_asm); (case k5 => k_asm); (case k6 => k_is); (case k7 => k_is); (case k8 => ktr_room); (case k9 => first | exact BindsTo.of_eq rfl | exact binds_K (by k_in) rfl (by k_is) rfl rfl rfl); (case kB => exact locs rfl); (case cK => first | assumption | exact rfl); (case c2 => exact rfl); (case c3 => exact rfl); (case c4 => exact rfl); (case c5 => decide); k_whole; intro g' L' h' FG' F' N' B' X' T' D'; (try dsimp only); (try k_lift B'); (try k_fold))))
local macro_rules | `(tactic| walk_at "call builtin:list.insert") => `(tactic| (k_here; (with_reducible show wpAny _ _ (call (Value.builtin _) [Value.ref _, Value.int _ _, _]) _ _ _); k_dflt (refine' l_insert ?F ?N ?hi ?U ?hz ?h0 ?hn ?_; (case F => k_asm); (case N => k_asm); (case U => (intro k'; k_upd)); (case hi => (first | exact is_news (by k_asm) (by k_asm) (by k_asm) (by k_mem) (mroC _) | exact is_list (by k_asm) (by k_mem))); (case hz => omega); (case h0 => omega); (case hn => omega); k_whole); intro k' h' F' N'; (try dsimp only at N'); (try k_sweep)))
local macro_rules | `(tactic| walk_at "call builtin:list.extend") => `(tactic| (k_here; (with_reducible show wpAny _ _ (call (Value.builtin _) [Value.ref _, Value.ref _]) _ _ _); k_dflt (refine' l_extend ?F ?N ?hi ?hb ?U ?hz ?_; (case F => k_asm); (case N => k_asm); (case hb => k_mem); (case U => (intro k'; k_upd)); (case hi => (first | exact is_news (by k_asm) (by k_asm) (by k_asm) (by k_mem) (mroC _) | exact is_list (by k_asm) (by k_mem))); (case hz => (first | omega | (simp only [List.size_toArray, List.length_cons, List.length_nil]; omega))); k_whole); intro k' h' F' N'; (try dsimp only at N'); (try k_sweep)))
local macro_rules | `(tactic| walk_at "call builtin:list.reverse") => `(tactic| (k_here; (with_reducible show wpAny _ _ (call (Value.builtin _) [Value.ref _]) _ _ _); k_dflt (refine' l_reverse ?F ?N ?hi ?U ?hz ?_; (case F => k_asm); (case N => k_asm); (case U => (intro k'; k_upd)); (case hi => (first | exact is_news (by k_asm) (by k_asm) (by k_asm) (by k_mem) (mroC _) | exact is_list (by k_asm) (by k_mem))); (case hz => omega); k_whole); intro k' h' F' N'; (try dsimp only at N'); (try k_sweep)))
local macro_rules | `(tactic| walk_at "call builtin:list.sort") => `(tactic| (k_here; (with_reducible show wpAny _ _ (call (Value.builtin _) [Value.ref _]) _ _ _); k_dflt (refine' l_sort ?F ?N ?hi ?U ?hI ?h64 ?_; (case F => k_asm); (case N => k_asm); (case U => k_updF); (case hi => (first | exact is_news (by k_asm) (by k_asm) (by k_asm) (by k_mem) (mroC _) | exact is_list (by k_asm) (by k_mem))); (case hI => assumption); (case h64 => omega); k_whole); intro out ns' k' h' iI iP iS F' N'; (try dsimp only at N'); (try k_sweep)))
local macro_rules | `(tactic| walk_at "call builtin:list.pop") => `(tactic| (k_here; (with_reducible show wpAny _ _ (call (Value.builtin _) [Value.ref _, Value.int _ _]) _ _ _); k_dflt (refine' l_pop ?F ?N ?hi ?U ?hz ?h0 ?hv ?_; (case F => k_asm); (case N => k_asm); (case U => (intro k'; k_upd)); (case hi => (first | exact is_news (by k_asm) (by k_asm) (by k_asm) (by k_mem) (mroC _) | exact is_list (by k_asm) (by k_mem))); (case hz => omega); (case h0 => omega); (case hv => assumption); k_whole); intro k' h' F' N'; (try dsimp only at N'); (try k_sweep)))
local macro_rules | `(tactic| walk_at "call builtin:list.remove") => `(tactic| (k_here; (with_reducible show wpAny _ _ (call (Value.builtin _) [Value.ref _, Value.int _ _]) _ _ _); k_dflt (refine' l_remove ?F ?N ?hi ?U ?hz ?hI ?hj ?hno ?_; (case F => k_asm); (case N => k_asm); (case U => (intro k'; k_upd)); (case hI => assumption); (case hj => assumption); (case hno => assumption); (case hi => (first | exact is_news (by k_asm) (by k_asm) (by k_asm) (by k_mem) (mroC _) | exact is_list (by k_asm) (by k_mem))); (case hz => omega); k_whole); intro k' h' F' N'; (try dsimp only at N'); (try k_sweep)))
local macro_rules | `(tactic| walk_at "delItem ref int") => `(tactic| (k_here; k_dflt (refine' ll_del ?Y ?F ?N ?U ?hz ?h0 ?hn ?_; (case F => k_asm); (case N => k_asm); (case U => (intro k'; k_upd)); (case Y => (first | exact ll_own (by k_asm) (by k_asm) (by k_asm) (by k_mem) (mroC _) (by k_is) (by k_is) (by k_is) (by k_is) | exact ll_list (by k_asm) (by k_mem))); (case hz => omega); (case h0 => omega); (case hn => omega); k_whole); intro k' h' F' N'; (try dsimp only at N'); (try k_sweep)))
local macro_rules | `(tactic| walk_at "setItem ref ref") => `(tactic| (k_here; k_dflt (refine' set_slice_p ?F ?N ?he ?hs ?hq ?hb ?hab ?Y ?U ?hz ?h0 ?hn ?_; (case F => k_asm); (case N => k_asm); (case he => exact rfl); (case hs => exact rfl); (case hq => exact rfl); (case hb => k_mem); (case hab => k_ne); (case Y => (intro s' F' N'; (first | exact ll_own (by k_asm) (by k_asm) (by k_asm) (by k_mem) (mroC _) (by k_is) (by k_is) (by k_is) (by k_is) | exact ll_list (by k_asm) (by k_mem)))); (case U => (intro k'; k_upd)); (case hz => (first | omega | (simp only [List.size_toArray, List.length_cons, List.length_nil]; omega))); (case h0 => omega); (case hn => omega); k_whole); intro k' h' F' N'; (try dsimp only at N'); (try k_sweep)))
local macro_rules | `(tactic| walk_at "pad 0") => `(tactic| skip)
local macro_rules | `(tactic| walk_at "pad 1") => `(tactic| skip)
local macro_rules | `(tactic| walk_at "pad 2") => `(tactic| skip)
local macro_rules | `(tactic| walk_at "pad 3") => `(tactic| skip)
local macro_rules | `(tactic| walk_at "pad 4") => `(tactic| skip)
local macro_rules | `(tactic| walk_at "pad 5") => `(tactic| skip)
local macro_rules | `(tactic| walk_at "pad 6") => `(tactic| skip)
local macro_rules | `(tactic| walk_at "pad 7") => `(tactic| skip)
local macro_rules | `(tactic| walk_at "pad 8") => `(tactic| skip)
local macro_rules | `(tactic| walk_at "pad 9") => `(tactic| skip)
local macro_rules | `(tactic| walk_at "pad 10") => `(tactic| skip)
local macro_rules | `(tactic| walk_at "pad 11") => `(tactic| skip)
local macro_rules | `(tactic| walk_at "pad 12") => `(tactic| skip)
local macro_rules | `(tactic| walk_at "pad 13") => `(tactic| skip)
local macro_rules | `(tactic| walk_at "pad 14") => `(tactic| skip)
local macro_rules | `(tactic| walk_at "pad 15") => `(tactic| skip)
local macro_rules | `(tactic| walk_at "pad 16") => `(tactic| skip)
local macro_rules | `(tactic| walk_at "pad 17") => `(tactic| skip)
local macro_rules | `(tactic| walk_at "pad 18") => `(tactic| skip)
local macro_rules | `(tactic| walk_at "pad 19") => `(tactic| skip)
local macro_rules | `(tactic| walk_at "pad 20") => `(tactic| skip)
local macro_rules | `(tactic| walk_at "pad 21") => `(tactic| skip)
local macro_rules | `(tactic| walk_at "pad 22") => `(tactic| skip)
local macro_rules | `(tactic| walk_at "pad 23") => `(tactic| skip)
local macro_rules | `(tactic| walk_at "pad 24") => `(tactic| skip)
local macro_rules | `(tactic| walk_at "pad 25") => `(tactic| skip)
local macro_rules | `(tactic| walk_at "pad 26") => `(tactic| skip)
local macro_rules | `(tactic| walk_at "pad 27") => `(tactic| skip)
local macro_rules | `(tactic| walk_at "pad 28") => `(tactic| skip)
local macro_rules | `(tactic| walk_at "pad 29") => `(tactic| skip)
local macro_rules | `(tactic| walk_at "pad 30") => `(tactic| skip)
local macro_rules | `(tactic| walk_at "pad 31") => `(tactic| skip)
local macro_rules | `(tactic| walk_at "pad 32") => `(tactic| skip)
local macro_rules | `(tactic| walk_at "pad 33") => `(tactic| skip)
local macro_rules | `(tactic| walk_at "pad 34") => `(tactic| skip)
local macro_rules | `(tactic| walk_at "pad 35") => `(tactic| skip)
local macro_rules | `(tactic| walk_at "pad 36") => `(tactic| skip)
section
variable {w : World} {p : Program} {loose : List Str} {mean : ExcName → Option Value} {mg mb : Str → Option Value}
  {dp un : Nat} {gd : Option (List Code)} {cn : Str} {cs : Scope} {ca : Addr} {ccd : Value} {cl : List (Str × Addr)} {outer : List Env} {A₀ : Around} {base h₀ : Heap} {L : Addr} {m : Str → Option Value} {s : Shared} {Q E : Value → Shared → Prop}





theorem makesC (P : Params) : makesL (hd.heap_39 P) 68 = true := by kernel_rfl
theorem allNe_of_lt {d : Addr} {l : List (Addr × Obj)} (h : ∀ p ∈ l, p.1 < d) : AllNe d l := allNe_of fun p hp => Nat.ne_of_lt (h p hp)

theorem mk_list {l : Addr} {us : Array Value} {ku : Nat} {ns : List Int} {rest : List (Addr × Obj)}
    (B : Below A₀ base outer h₀) (F : Fr h₀ L s.heap m) (X : (hd.heap_39 w.params).In h₀) (T : Top p loose mean mg mb h₀) (hk : cs.kind = .function) (hdp : dp + 6 < recursionLimit) (hun : un + 130 < cLine)
    (N : News h₀ L s.heap ((l, W.listOf us ku) :: rest)) (hI : IntsAre us.toList ns) (hz : us.size ≤ 100)
    (ret : ∀ x dx D vs n t1 t2 h' tk', Fr h₀ L h' m → News h₀ L h' ((x, subObj 68 dx vs n) :: (dx, attrD w.params t1 t2 false D 2) :: (l, W.listOf us ku) :: rest) → IntsAre vs.toList ns →
      (∀ p ∈ (l, W.listOf us ku) :: rest, p.1 < dx) → x = dx + 1 → Q (.ref x) { s with heap := h', toks := tk' }) :
    wpAny (model PySem.Challenge.rw_aq6060_01.row.prog w) (ktrTop dp un gd cn cs L ca ccd cl outer) (call (.ref 68) [.ref l]) Q E s := by
  have hlt : ∀ p ∈ (l, W.listOf us ku) :: rest, p.1 < s.heap.objs.size := fun p hp => Heap.lt_size (N p hp).1
  refine wpAny_call (makeL (fI := 30) F N (X.keeps F.keep) (makesC _) (by k_is) (by k_is) fun x dx h1 F1 N1 e1 e2 => ?_)
  have hlt' : ∀ p ∈ (l, W.listOf us ku) :: rest, p.1 < dx := fun p hp => e1 ▸ hlt p hp
  have hx : ∀ p ∈ (l, W.listOf us ku) :: rest, p.1 < x := fun p hp => by rw [e2]; exact Nat.lt_succ_of_lt (hlt' p hp)
  k_dflt (refine' init_list (ns := ns) (us := us) (ku := ku) (rest := rest) (dx := dx) ?B ?F ?X ?T ?hk ?hdp ?hun ?N ?q1 ?q2 ?q3 ?q4 ?q5 hI hz ?ret; (case B => k_asm); (case F => exact F1); (case X => k_asm); (case T => k_asm); (case N => exact N1); (case hk => assumption))
  case hdp => show dp + _ + 4 < recursionLimit; exact Nat.lt_of_le_of_lt (Nat.le_refl (dp + 1 + 4)) (by omega)
  case hun => show un + _ + 110 < cLine; exact Nat.lt_of_le_of_lt (Nat.le_refl (un + 1 + 110)) (by omega)
  case q1 => rw [e2]; exact Nat.succ_ne_self _
  case q2 => exact Nat.ne_of_lt (hx _ (.head _))
  case q3 => exact Nat.ne_of_lt (hlt' _ (.head _))
  case q4 => exact allNe_of_lt fun p hp => hx p (.tail _ hp)
  case q5 => exact allNe_of_lt fun p hp => hlt' p (.tail _ hp)
  case ret => exact fun D vs n t1 t2 h' tk' F' N' I' => ⟨rfl, ret x dx D vs n t1 t2 h' tk' F' N' I' hlt' e2⟩
theorem mk_iter {l it : Addr} {oI : Obj} {us : Array Value} {ku : Nat} {ns : List Int} {rest : List (Addr × Obj)}
    (B : Below A₀ base outer h₀) (F : Fr h₀ L s.heap m) (X : (hd.heap_39 w.params).In h₀) (T : Top p loose mean mg mb h₀) (hk : cs.kind = .function) (hdp : dp + 6 < recursionLimit) (hun : un + 130 < cLine)
    (N : News h₀ L s.heap ((l, W.listOf us ku) :: (it, oI) :: rest)) (hcI : oI.cls = .type "list_iterator") (hdI : oI.data = .fields #[.ref l, .int 0 0]) (hli : @Ne Nat l it) (hri : AllNe it rest) (hI : IntsAre us.toList ns) (hz : us.size ≤ 100)
    (ret : ∀ x dx D vs n t1 t2 h' tk', Fr h₀ L h' m → News h₀ L h' ((x, subObj 68 dx vs n) :: (dx, attrD w.params t1 t2 false D 2) :: (l, W.listOf us ku) :: rest) → IntsAre vs.toList ns →
      (∀ p ∈ (l, W.listOf us ku) :: rest, p.1 < dx) → x = dx + 1 → Q (.ref x) { s with heap := h', toks := tk' }) :
    wpAny (model PySem.Challenge.rw_aq6060_01.row.prog w) (ktrTop dp un gd cn cs L ca ccd cl outer) (call (.ref 68) [.ref it]) Q E s := by
  have hlt : ∀ p ∈ (l, W.listOf us ku) :: (it, oI) :: rest, p.1 < s.heap.objs.size := fun p hp => Heap.lt_size (N p hp).1
  refine wpAny_call (makeL (fI := 30) F N (X.keeps F.keep) (makesC _) (by k_is) (by k_is) fun x dx h1 F1 N1 e1 e2 => ?_)
  have hlt' : ∀ p ∈ (l, W.listOf us ku) :: (it, oI) :: rest, p.1 < dx := fun p hp => e1 ▸ hlt p hp
  have hx : ∀ p ∈ (l, W.listOf us ku) :: (it, oI) :: rest, p.1 < x := fun p hp => by rw [e2]; exact Nat.lt_succ_of_lt (hlt' p hp)
  k_dflt (refine' init_iter (ns := ns) (us := us) (ku := ku) (rest := rest) (dx := dx) ?B ?F ?X ?T ?hk ?hdp ?hun ?N hcI hdI ?r1 ?r2 hli hri ?q1 ?q2 ?q3 ?q4 ?q5 hI hz ?ret; (case B => k_asm); (case F => exact F1); (case X => k_asm); (case T => k_asm); (case N => exact N1); (case hk => assumption))
  case hdp => show dp + _ + 4 < recursionLimit; exact Nat.lt_of_le_of_lt (Nat.le_refl (dp + 1 + 4)) (by omega)
  case hun => show un + _ + 110 < cLine; exact Nat.lt_of_le_of_lt (Nat.le_refl (un + 1 + 110)) (by omega)
  case r1 => exact Nat.ne_of_gt (hx (it, oI) (.tail _ (.head _)))
  case r2 => exact Nat.ne_of_gt (hlt' (it, oI) (.tail _ (.head _)))
  case q1 => rw [e2]; exact Nat.succ_ne_self _
  case q2 => exact Nat.ne_of_lt (hx _ (.head _))
  case q3 => exact Nat.ne_of_lt (hlt' _ (.head _))
  case q4 => exact allNe_of_lt fun p hp => hx p (.tail _ (.tail _ hp))
  case q5 => exact allNe_of_lt fun p hp => hlt' p (.tail _ (.tail _ hp))
  case ret => exact fun D vs n t1 t2 h' tk' F' N' I' => ⟨rfl, ret x dx D vs n t1 t2 h' tk' F' N' I' (fun p hp => hlt' p (by rcases List.mem_cons.mp hp with h | h; exact h ▸ .head _; exact .tail _ (.tail _ h))) e2⟩

theorem mk_none {rest : List (Addr × Obj)}
    (B : Below A₀ base outer h₀) (F : Fr h₀ L s.heap m) (X : (hd.heap_39 w.params).In h₀) (T : Top p loose mean mg mb h₀) (hk : cs.kind = .function) (hdp : dp + 6 < recursionLimit) (hun : un + 130 < cLine)
    (N : News h₀ L s.heap rest)
    (ret : ∀ x dx D t1 t2 h' tk', Fr h₀ L h' m → News h₀ L h' ((D, dictOf [] 0) :: (x, subObj 68 dx #[] 0) :: (dx, attrD w.params t1 t2 true D 2) :: rest) → (D == sysModules) = false →
      (∀ p ∈ rest, p.1 < dx) → x = dx + 1 → @LT.lt Nat _ x D → AllLt D rest → Q (.ref x) { s with heap := h', toks := tk' }) :
    wpAny (model PySem.Challenge.rw_aq6060_01.row.prog w) (ktrTop dp un gd cn cs L ca ccd cl outer) (call (.ref 68) []) Q E s := by
  have hlt : ∀ p ∈ rest, p.1 < s.heap.objs.size := fun p hp => Heap.lt_size (N p hp).1
  refine wpAny_call (makeL (fI := 30) F N (X.keeps F.keep) (makesC _) (by k_is) (by k_is) fun x dx h1 F1 N1 e1 e2 => ?_)
  have hlt' : ∀ p ∈ rest, p.1 < dx := fun p hp => e1 ▸ hlt p hp
  have hx : ∀ p ∈ rest, p.1 < x := fun p hp => by rw [e2]; exact Nat.lt_succ_of_lt (hlt' p hp)
  k_dflt (refine' init_none (rest := rest) (dx := dx) ?B ?F ?X ?T ?hk ?hdp ?hun ?N ?q1 ?q4 ?q5 ?ret; (case B => k_asm); (case F => exact F1); (case X => k_asm); (case T => k_asm); (case N => exact N1); (case hk => assumption))
  case hdp => show dp + _ + 4 < recursionLimit; exact Nat.lt_of_le_of_lt (Nat.le_refl (dp + 1 + 4)) (by omega)
  case hun => show un + _ + 110 < cLine; exact Nat.lt_of_le_of_lt (Nat.le_refl (un + 1 + 110)) (by omega)
  case q1 => rw [e2]; exact Nat.succ_ne_self _
  case q4 => exact allNe_of_lt hx
  case q5 => exact allNe_of_lt hlt'
  case ret => exact fun D t1 t2 h' tk' F' N' lo a b c => ⟨rfl, ret x dx D t1 t2 h' tk' F' N' lo hlt' e2 a c⟩
end
end Mine
end PX

section PY
set_option maxRecDepth 100000
set_option maxHeartbeats 4000000
namespace Mine

theorem news_in {h₀ h : Heap} {L : Addr} {p : Addr × Obj} {l : List (Addr × Obj)} (pre : List (Addr × Obj)) (N : News h₀ L h (p :: (pre ++ l))) : News h₀ L h (pre ++ p :: l) := fun q hq => N q (by
  rcases List.mem_append.mp hq with h | h
  · exact .tail _ (List.mem_append.mpr (.inl h))
  · rcases List.mem_cons.mp h with h | h
    · rw [h]; exact .head _
    · exact .tail _ (List.mem_append.mpr (.inr h)))
theorem news_out {h₀ h : Heap} {L : Addr} {p : Addr × Obj} {l : List (Addr × Obj)} (pre : List (Addr × Obj)) (N : News h₀ L h (pre ++ p :: l)) : News h₀ L h (p :: (pre ++ l)) := fun q hq => N q (by
  rcases List.mem_cons.mp hq with h | h
  · rw [h]; exact List.mem_append.mpr (.inr (.head _))
  · rcases List.mem_append.mp h with h | h
    · exact List.mem_append.mpr (.inl h)
    · exact List.mem_append.mpr (.inr (.tail _ h)))
section
variable {h₀ h h' : Heap} {L b : Addr} {m : Str → Option Value}
theorem fr_extbut (F : Fr h₀ L h m) (he : Heap.ExtBut b h h') (hL : b ≠ L) (hb : h₀.get? b = none) : Fr h₀ L h' m :=
  ⟨F.ns.at' fun o e => he L o (Ne.symm hL) e, fun a o e => he a o (fun q => by rw [q, hb] at e; cases e) (F.keep a o e), F.above⟩
theorem news_extbut {news : List (Addr × Obj)} (N : News h₀ L h news) (he : Heap.ExtBut b h h') (hn : ∀ p ∈ news, p.1 ≠ b) : News h₀ L h' news :=
  fun p hp => ⟨he _ _ (hn p hp) (N p hp).1, (N p hp).2⟩
end

section
variable {prog : Program} {w : World} {A : Around} {E : Value → Shared → Prop} {h₀ : Heap} {L : Addr} {m : Str → Option Value} {rest : List (Addr × Obj)} {R : Result → Shared → Prop}

theorem ext_loop {S I l : Addr} {ol : Obj} {items : Array Value} {nn : Nat} {res : Value} (hh : A.handled = none) (hol : (l, ol) ∈ rest) (hd : ol.data = .seq items nn) (hSI : S ≠ I) (hr : ∀ p ∈ rest, p.1 ≠ S ∧ p.1 ≠ I) (hz : items.size ≤ 1000) :
    ∀ (k i : Nat) (s : Shared) (c : Nat) (oI : Obj), items.size - i = k → i ≤ items.size → Fr h₀ L s.heap m → News h₀ L s.heap ((S, seqO (.type "list") none (items.extract 0 i) c) :: (I, oI) :: rest) → oI.cls = .type "list_iterator" → oI.data = .fields #[.ref l, .int (i : Nat) 0] →
      (∀ c' h', Fr h₀ L h' m → News h₀ L h' ((S, seqO (.type "list") none items c') :: rest) → R (.ok (.ret res)) { s with heap := h' }) →
      codeAny (model prog w) A (.builtin "list.extend.loop" ⟨[.ref S, .ref I, res], []⟩) R s := by
  intro k
  induction k with
  | zero =>
    intro i s c oI e1 e2 F N h1 h2 ret
    have hi : i = items.size := by omega
    subst hi
    refine codeAny_builtin PySem.F.entry_extend_loop ?_
    rw [Around.under_plainId PySem.F.plain_extend_loop _]
    show wpAny _ A.in1 (pyNext (.ref I) >>= _) _ _ s
    have NI := N (I, oI) (.tail _ (.head _))
    refine wpAny_bind (next_end hh ⟨oI, NI.1, h1, h2⟩ ⟨ol, nn, (N (l, ol) (.tail _ (.tail _ hol))).1, hd⟩ (by simp) fun h' he => ?_)
    refine wpAny_pure (ret c h' (fr_extbut F he NI.2.1 NI.2.2) fun p hp => ?_)
    rw [Array.extract_size] at N
    rcases List.mem_cons.mp hp with rfl | hp
    · have := N _ (.head _); exact ⟨he _ _ hSI this.1, this.2⟩
    · have := N p (.tail _ (.tail _ hp)); exact ⟨he _ _ (hr p hp).2 this.1, this.2⟩
  | succ k ih =>
    intro i s c oI e1 e2 F N h1 h2 ret
    have hi : i < items.size := by omega
    refine codeAny_builtin PySem.F.entry_extend_loop ?_
    rw [Around.under_plainId PySem.F.plain_extend_loop _]
    show wpAny _ A.in1 (pyNext (.ref I) >>= _) _ _ s
    have NI := N (I, oI) (.tail _ (.head _))
    refine wpAny_bind (next_item (x := items[i]) ⟨oI, NI.1, h1, h2⟩ ⟨ol, nn, (N (l, ol) (.tail _ (.tail _ hol))).1, hd⟩ (by simp [hi]) fun h' hit hs => ?_)
    obtain ⟨oI', q1, q2, q3⟩ := hit
    have F' : Fr h₀ L h' m := fr_extbut F hs.extBut NI.2.1 NI.2.2
    have N' : News h₀ L h' ((S, seqO (.type "list") none (items.extract 0 i) c) :: (I, oI') :: rest) := fun p hp => by
      rcases List.mem_cons.mp hp with rfl | hp
      · have := N _ (.head _); exact ⟨hs.extBut _ _ hSI this.1, this.2⟩
      · rcases List.mem_cons.mp hp with rfl | hp
        · exact ⟨q1, NI.2⟩
        · have := N p (.tail _ (.tail _ hp)); exact ⟨hs.extBut _ _ (hr p hp).2 this.1, this.2⟩
    have hpush : (items.extract 0 i).push items[i] = items.extract 0 (i + 1) := by
      apply Array.ext'
      simp [Array.toList_extract, List.extract_eq_take_drop, List.take_add_one, hi]
    show wpAny _ _ (Builtin.List.listUpdate (.ref S) (·.push items[i]) >>= fun _ => again (.builtin "list.extend.loop" ⟨[.ref S, .ref I, res], []⟩)) _ _ { s with heap := h' }
    refine wpAny_bind (upd_seq (news' := fun k => (S, seqO (.type "list") none (items.extract 0 (i + 1)) k) :: (I, oI') :: rest) F' N' (fun k => .head fun p hp => ?_) hpush (by rw [Array.size_extract, sizeLine_eq]; omega) (by rw [Array.size_extract, sizeLine_eq]; omega) fun k' h2 F2 N2 => ?_)
    · rcases List.mem_cons.mp hp with rfl | hp
      · exact Ne.symm hSI
      · exact (hr p hp).1
    · exact wpAny_pure ⟨plainId_quiet PySem.F.plain_extend_loop _, ih (i + 1) _ k' oI' (by omega) (by omega) F2 N2 q2 q3 fun c' h3 F3 N3 => ret c' h3 F3 N3⟩
end

section
variable {prog : Program} {w : World} {A : Around} {E : Value → Shared → Prop} {s : Shared} {h₀ : Heap} {L x dx C : Addr} {m : Str → Option Value} {news : List (Addr × Obj)} {vs : Array Value} {n : Nat}
theorem hint_own {Q : Bool → Shared → Prop} (Y : LL prog w s.heap x) (N : News h₀ L s.heap news) (hx : (x, subObj C dx vs n) ∈ news) (hz : vs.size ≤ 1000)
    (h : Q ((vs.size : Int) != 0) { s with toks := s.toks + 2 }) : wpAny (model prog w) A (Builtin.List.listLengthHint (.ref x)) Q E s := by
  have T : Looks (model prog w) s.heap (typeOf (.ref x)) (.ref C) := (Looks.ld (part := some headPart) (N _ hx).1).andThen .now
  unfold Builtin.List.listLengthHint
  refine wpAny_bind (Y.len.here ?_)
  generalize hid : ("list.__len__" : String) = id0
  wp_delta
  rw [show splitId id0 = some ("list", "__len__") from by subst hid; decide +kernel]
  subst hid
  refine wpAny_bind (Y.is.here ?_)
  refine wpAny_ite_split (fun hab => absurd hab (by decide)) (fun _ => ?_)
  refine wpAny_ite_split (fun _ => ?_) (fun hab => absurd (by decide +kernel) hab)
  refine wpAny_bind (T.here ?_)
  dsimp only
  refine wpAny_bind (ll_len Y N hx hz ?_)
  refine wpAny_bind (m := asInt? _) (wpAny_pure ?_)
  exact wpAny_pure h

theorem l_copy {Q : Value → Shared → Prop} {K : Frag} (hh : A.handled = none) (F : Fr h₀ L s.heap m) (X₀ : K.In h₀) (N : News h₀ L s.heap news) (hx : (x, subObj C dx vs n) ∈ news) (hz : vs.size ≤ 500) (hp : mroL K C = true) (hq : noSeq K C = true)
    (h1 : findIn K (.ref C) "__len__" = some (some (.builtin "list.__len__"))) (h2 : findIn K (.ref C) "__delitem__" = some (some (.builtin "list.__delitem__"))) (h3 : findIn K (.ref C) "__setitem__" = some (some (.builtin "list.__setitem__"))) (h4 : findIn K (.ref C) "__iter__" = some (some (.builtin "list.__iter__")))
    (h : ∀ l k h' tk, Fr h₀ L h' m → News h₀ L h' ((l, W.listOf vs k) :: news) → (∀ p ∈ news, p.1 < l) → Q (.ref l) { s with heap := h', toks := tk }) :
    wpAny (model prog w) A (call (.type "list") [.ref x]) Q E s := by
  have hlt : ∀ p ∈ news, p.1 < s.heap.objs.size := fun p hp => Heap.lt_size (N p hp).1
  refine callType_codes (Q₁ := fun obj s₁ => obj = .ref s.heap.objs.size ∧ s₁ = { s with heap := s.heap.push { cls := .type "list", data := .seq #[] } }) PySem.F.called_list (PySem.F.typeCall_list_1 _) PySem.F.entry_list_init
    (code_list_new _ ⟨rfl, rfl⟩) fun obj s₁ hs₁ => ?_
  obtain ⟨rfl, rfl⟩ := hs₁
  have N1 := N.push F (seqO (.type "list") none #[] 0) rfl
  have F1 := F.push (seqO (.type "list") none #[] 0)
  refine ⟨⟨_, Heap.get?_push_size _ rfl, rfl⟩, PySem.F.args_list_init_2 _ _, ?_⟩
  generalize hS : s.heap.objs.size = S at N1 hlt
  generalize hH : s.heap.push { cls := .type "list", data := .seq #[] } = H at N1 F1
  have hxS : x ≠ S := Nat.ne_of_lt (hlt _ hx)
  show wpAny _ A.in1.in1 (do let old ← Builtin.List.listItems (.ref S); Builtin.List.listUpdate (.ref S) (fun _ => #[]); letGo old.toList.reverse; Builtin.List.listExtendWith (.ref S) (.ref x) .none) _ _ { s with heap := H }
  refine wpAny_bind (listItems_at (N1 _ (.head _)).1 rfl ?_)
  refine wpAny_bind (upd_seq (vs' := #[]) (news' := fun k => (S, seqO (.type "list") none #[] k) :: news) F1 N1 (fun k => .head fun p hp => Nat.ne_of_lt (hlt p hp)) rfl (Nat.zero_le _) (Nat.zero_le _) fun k2 h2' F2 N2 => ?_)
  refine wpAny_bind (wpAny_letGo ?_)
  have T : Looks (model prog w) h2' (typeOf (.ref x)) (.ref C) := (Looks.ld (part := some headPart) (N2 _ (.tail _ hx)).1).andThen .now
  unfold Builtin.List.listExtendWith
  refine wpAny_bind (T.here (s := { s with heap := h2' }) ?_)
  have q1 : Builtin.List.listSameRef (.ref S) (.ref x) = false := by simp [Builtin.List.listSameRef, Ne.symm hxS]
  have q2 : (Value.ref C == Value.type "list") = false := by rfl
  have q3 : (Value.ref C == Value.type "tuple") = false := by rfl
  simp only [q1, q2, q3, Bool.or_false, Bool.false_eq_true, if_false]
  refine wpAny_bind (iter_news (s := { s with heap := h2' }) F2 X₀ N2 (.tail _ hx) hp h4 ?_)
  refine wpAny_bind (wpAny_holding ?_)
  have Fi := F2.push { cls := .type "list_iterator", data := .fields #[.ref x, .int 0 0] }
  have Ni := N2.push F2 { cls := .type "list_iterator", data := .fields #[.ref x, .int 0 0] } rfl
  have hltI : ∀ p ∈ (S, seqO (.type "list") none #[] k2) :: news, p.1 < h2'.objs.size := fun p hp => Heap.lt_size (N2 p hp).1
  generalize hI : h2'.objs.size = I at Ni hltI
  show wpAny _ _ _ _ _ { s with heap := h2'.push { cls := .type "list_iterator", data := .fields #[.ref x, .int 0 0] } }
  generalize hH3 : h2'.push { cls := .type "list_iterator", data := .fields #[.ref x, .int 0 0] } = H3 at Ni Fi
  have Y := ll_own (prog := prog) (w := w) (s := { s with heap := H3 }) Fi X₀ Ni (.tail _ (.tail _ hx)) hp hq h1 h2 h3
  refine hint_own (s := { s with heap := H3 }) Y Ni (.tail _ (.tail _ hx)) (by omega) ?_
  have fin : ∀ (k4 : Nat) (h4' : Heap) (tk : Nat), Fr h₀ L h4' m → News h₀ L h4' ((S, seqO (.type "list") none #[] k4) :: (I, { cls := .type "list_iterator", data := .fields #[.ref x, .int 0 0] }) :: news) →
      codeAny (model prog w) A.in1 (.builtin "list.extend.loop" ⟨[.ref S, .ref I, .none], []⟩) (wants (fun r s₂ => r = .none ∧ Q (.ref S) s₂) E) { s with heap := h4', toks := tk } := by
    intro k4 h4' tk F4 N4
    refine ext_loop (A := A.in1) (S := S) (I := I) (res := .none) (s := { s with heap := h4', toks := tk }) (rest := news) (l := x) (items := vs) hh hx rfl (Nat.ne_of_lt (hltI _ (.head _))) (fun p hp => ⟨Nat.ne_of_lt (hlt p hp), Nat.ne_of_lt (hltI p (.tail _ hp))⟩) (by omega) vs.size 0 k4 _ (by omega) (Nat.zero_le _) F4 (by simpa using N4) rfl rfl fun c' h5 F5 N5 => ?_
    exact ⟨rfl, h S c' h5 tk F5 N5 hlt⟩
  have Ni' : News h₀ L H3 ((S, seqO (.type "list") none #[] k2) :: (I, { cls := .type "list_iterator", data := .fields #[.ref x, .int 0 0] }) :: news) := fun p hp => Ni p (by simp only [List.mem_cons] at hp ⊢; rcases hp with h | h | h <;> simp [h])
  refine wpAny_ite_split (fun _ => ?_) (fun _ => wpAny_pure ⟨plainId_quiet PySem.F.plain_extend_loop _, fin _ _ _ (Fi) (Ni')⟩)
  refine wpAny_bind (wpAny_rule ?_)
  unfold Builtin.List.listTouch
  refine wpAny_bind ?_
  have hltS : ∀ p ∈ (I, ({ cls := .type "list_iterator", data := .fields #[.ref x, .int 0 0] } : Obj)) :: news, p.1 ≠ S := fun p hp => by
    rcases List.mem_cons.mp hp with rfl | hp
    · exact Nat.ne_of_gt (hltI _ (.head _))
    · exact Nat.ne_of_lt (hlt p hp)
  refine wpAny_bind (upd_seq (s := { s with heap := H3, toks := s.toks + 2 }) (vs' := #[.none]) (news' := fun k => (S, seqO (.type "list") none #[.none] k) :: (I, { cls := .type "list_iterator", data := .fields #[.ref x, .int 0 0] }) :: news) Fi Ni' (fun k => .head hltS) rfl (by decide) (by decide) fun k5 h5 F5 N5 => ?_)
  refine upd_seq (s := { s with heap := h5, toks := s.toks + 2 }) (vs' := #[]) (news' := fun k => (S, seqO (.type "list") none #[] k) :: (I, { cls := .type "list_iterator", data := .fields #[.ref x, .int 0 0] }) :: news) F5 N5 (fun k => .head hltS) rfl (by decide) (by decide) fun k6 h6 F6 N6 => ?_
  exact wpAny_pure ⟨plainId_quiet PySem.F.plain_extend_loop _, fin _ _ _ F6 N6⟩
theorem li_tail {md : Addr} {us : Array Value} {ku i : Nat} {t : Tok} {v : Value} {value slice : Expr} {Q : Value → Shared → Prop} (N : News h₀ L s.heap news) (hm : (md, W.listOf us ku) ∈ news) (hv : us[i]? = some v) (hz : us.size ≤ 1000)
    (h : Q v s) (hs : subscripted slice false (.ref md) (.int (i : Nat) t) = operate [.ref md, .int (i : Nat) t] (getItem (.ref md) (.int (i : Nat) t)) := by with_unfolding_all rfl) :
    wpAny (model prog w) A (subscriptTail value slice (.ref md) (.int (i : Nat) t)) Q E s := by
  have hl : s.heap.IsList md us := ⟨_, (N _ hm).1, rfl, ku, rfl⟩
  have hi := (Array.getElem?_eq_some_iff.mp hv).1
  exact tail_any hl.typeIs slot_list_getitem.lookup (wpAny_getItem_list hl (by omega) (by omega) (x := v) (by simpa using hv) h) hs
end

section
variable {prog : Program} {w : World} {A : Around} {E : Value → Shared → Prop} {s : Shared} {env : Env}
theorem raise_VE {x : Str} {np pos : Pos} {Q : Flow → Shared → Prop} (hh : A.handled = none)
    (hself : isSubtype (.type "ValueError") (.type "ValueError") = pure true)
    (hx : wpAny (model prog w) A (eval (.Name x np) env) (fun v s₁ => v = .type "ValueError" ∧ s₁ = s) E s)
    (h : ∀ h' e, Heap.MadeExcOf s.heap h' e (.type "ValueError") [] → E (.ref e) { s with heap := h' }) :
    wpAny (model prog w) A (exec (.Raise (some (.Name x np)) none pos) env) Q E s := by
  have hc := excClass_ValueError
  show wpAny (model prog w) A (do standAt pos; raiseStmt env (some (do let v ← eval (.Name x np) env; standAt pos; pure v)) none) Q E s
  refine wpAny_bind (wpAny_standAt ?_)
  unfold raiseStmt
  dsimp only
  refine wpAny_bind (wpAny_bind (wpAny_mono hx (fun v s₁ h₁ => wpAny_bind (wpAny_standAt (wpAny_pure ?_))) fun _ _ e => e))
  obtain ⟨rfl, hs₁⟩ := h₁
  subst s₁
  refine wpAny_bind (wpAny_pure ?_)
  dsimp only
  refine wpAny_bind (wpAny_holding ?_)
  unfold excFromValue isExcClass
  refine wpAny_bind (wpAny_bind (wpAny_pure ?_))
  simp only [if_true]
  rw [hc.base]
  refine wpAny_pure ?_
  simp only [if_true]
  refine wpAny_bind (wpAny_call_exc PySem.F.excCall_ValueError (fun h' e hm => ?_) (by simp))
  have hn := hm.newExc
  obtain ⟨ob, t, he, hcls, hd⟩ := hn.there
  have hT : ({ s with heap := h' } : Shared).TypeIs (.ref e) "ValueError" := ⟨ob, he, hcls⟩
  refine wpAny_bind (wpAny_isInstance hT hc.base ?_)
  simp only [Bool.not_true, Bool.false_eq_true, if_false]
  refine wpAny_pure ?_
  first | (refine wpAny_bind (m := isType (.type "ValueError")) (wpAny_pure ?_)) | (refine wpAny_bind (wpAny_pure ?_))
  first | (rw [if_pos rfl]) | (simp only [if_true]) | dsimp only
  refine wpAny_bind (wpAny_holding ?_)
  unfold raisedFor
  first | (simp only [Bool.false_eq_true, if_false]) | (rw [if_neg (by decide)]) | skip
  first | (refine wpAny_bind (wpAny_typeOf hT ?_)) | (refine wpAny_bind ?_; refine wpAny_bind (wpAny_typeOf hT ?_))
  refine wpAny_bind (call_issubclass (issubclass_self hc hself) ?_)
  first | (refine wpAny_bind (wpAny_truthy_bool ?_)) | (refine wpAny_truthy_bool ?_) | (dsimp only [wants]; first | (refine wpAny_bind (wpAny_truthy_bool ?_)) | (refine wpAny_truthy_bool ?_))
  first | (rw [if_pos rfl]) | (simp only [if_true]) | skip
  refine wpAny_pure ?_
  unfold setFlight raiseNew
  refine wpAny_bind (wpAny_bind (wpAny_field (i := 1) (x := Value.none) he hd rfl ?_))
  rw [if_neg (by decide)]
  refine wpAny_pure (wpAny_bind (wpAny_handled ?_))
  rw [hh]
  first
    | exact wpAny_throw (h h' e hm.of)
    | exact wpAny_bind (wpAny_pure (wpAny_throw (h h' e hm.of)))
end
end Mine
end PY

section PP
set_option maxRecDepth 100000
set_option maxHeartbeats 4000000
namespace Mine
section
variable {g g' h : Heap} {L' c : Addr} {m : Str → Option Value} {news : List (Addr × Obj)} {oL : Obj}
theorem fr_star (F : Fr g L' h m) : Fr (hideAll g [c]) L' h m := ⟨F.ns, fun b o e => F.keep b o (of_hideAll _ e), by rw [hideAll_size]; exact F.above⟩
theorem star_none {b : Addr} (e : g.get? b = none) : (hideAll g [c]).get? b = none := by
  cases q : (hideAll g [c]).get? b with
  | none => rfl
  | some o => rw [of_hideAll _ q] at e; cases e
theorem news_star (F : Fr g L' h m) (N : News g L' h news) (hg : g.get? c = some oL) : News (hideAll g [c]) L' h ((c, oL) :: news) := fun p hp => by
  rcases List.mem_cons.mp hp with rfl | hp
  · exact ⟨F.keep _ _ hg, (fun q => by have := kts_self F; rw [← q, hg] at this; cases this), hideAll_none _ (.head _)⟩
  · exact ⟨(N p hp).1, (N p hp).2.1, star_none (N p hp).2.2⟩
theorem star_on (T : KtsTurn [c] g g') (hg : g.get? c = some oL) (F : Fr g' L' h m) (N : News g' L' h news) :
    Fr (hideAll g [c]) L' h m ∧ ∃ sl, News (hideAll g [c]) L' h ((c, { oL with slots := sl }) :: news) := by
  refine ⟨⟨F.ns, fun b o e => ?_, by rw [hideAll_size, ← T.size]; exact F.above⟩, ?_⟩
  · have nb : b ∉ [c] := fun hm => by
      rw [hideAll_none _ hm] at e; cases e
    exact F.keep _ _ (T.other b o (of_hideAll _ e) nb)
  · obtain ⟨sl', hs⟩ := T.frame c oL hg (.head _)
    refine ⟨sl', fun p hp => ?_⟩
    rcases List.mem_cons.mp hp with rfl | hp
    · exact ⟨F.keep _ _ hs, (fun q => by have := kts_self F; rw [← q, hs] at this; cases this), hideAll_none _ (.head _)⟩
    · refine ⟨(N p hp).1, (N p hp).2.1, star_none ?_⟩
      cases q : g.get? p.1 with
      | none => rfl
      | some o =>
        obtain ⟨s1, e1⟩ := T.up q
        have := (N p hp).2.2
        rw [e1] at this; cases this
theorem star_back {A : Around} {base : Heap} {env : Env} {sl : Array (Option Value)} (B : Below A base [env] g) (hg : g.get? c = some oL) (F : Fr (hideAll g [c]) L' h m)
    (N : News (hideAll g [c]) L' h ((c, { oL with slots := sl }) :: news)) (hn : ∀ p ∈ news, p.1 ≠ c) (hf : env.frame = some c) :
    ∃ g', KtsTurn [c] g g' ∧ Fr g' L' h m ∧ News g' L' h news ∧ Below A base [env] g' := by
  obtain ⟨T, S⟩ := kts_turn_at (h := h) (fs := [c]) (g := g)
    (fun b hb => by rw [List.mem_singleton.mp hb]; exact ⟨_, hg⟩)
    (fun b o e nm => F.keep b o (hideAll_get _ e nm))
    (fun b o e hm => by
      obtain rfl := List.mem_singleton.mp hm
      rw [hg] at e; cases e
      exact ⟨sl, (N _ (.head _)).1⟩)
  refine ⟨_, T, ⟨F.ns, S, by rw [T.size, ← hideAll_size [c]]; exact F.above⟩, fun p hp => ⟨(N p (.tail _ hp)).1, (N p (.tail _ hp)).2.1, T.none_ _ ?_⟩, ⟨B.stack, fun b o e => T.other b o (B.stays b o e) (fun hm => by
    have hm' : b ∈ [env].filterMap (·.frame) := by
      rw [List.filterMap_cons_some hf]; exact hm
    rw [(B.frames.mem hm').1] at e
    cases e), B.frames.of_keeps fun b o e _ => ?_⟩⟩
  · cases q : g.get? p.1 with
    | none => rfl
    | some o =>
      have := (N p (.tail _ hp)).2.2
      rw [hideAll_get _ q (fun hm => hn p hp (List.mem_singleton.mp hm))] at this; cases this
  · obtain ⟨s1, hs⟩ := T.up e
    exact ⟨_, hs, rfl⟩
end
theorem fr_get {h₀ h : Heap} {L : Addr} {m : Str → Option Value} (F : Fr h₀ L h m) : ∃ o, h.get? L = some o := by
  obtain ⟨o, _, _, e, _⟩ := F.ns
  exact ⟨o, e⟩

section
variable {prog : Program} {w : World} {A : Around} {E : Value → Shared → Prop} {s : Shared} {h₀ : Heap} {L a : Addr} {m : Str → Option Value} {news : List (Addr × Obj)} {vs : Array Value} {n : Nat}
theorem set_slice_p {c : Value} {d : Option Addr} {sl b : Addr} {p q : Int} {t₁ t₂ : Tok} {us : Array Value} {k₁ : Nat} {news' : Nat → List (Addr × Obj)} {h : Heap} {Q : Unit → Shared → Prop} (F : Fr h₀ L h m) (N : News h₀ L h news)
    (he : s.heap = h.push { cls := .type "slice", data := .fields #[.int p t₁, .int q t₂, .none] }) (hsl : sl = h.objs.size) (hq : q = p + 1) (hb : (b, W.listOf us k₁) ∈ news) (hab : a ≠ b)
    (Y : ∀ s' : Shared, Fr h₀ L s'.heap m → News h₀ L s'.heap news → LL prog w s'.heap a)
    (U : ∀ k, Upd a (seqO c d vs n) (seqO c d (vs.extract 0 p.toNat ++ us ++ vs.extract (p.toNat + 1) vs.size) k) news (news' k)) (hz : vs.size + us.size ≤ 1000) (h0 : 0 ≤ p) (hn : p.toNat < vs.size)
    (k : ∀ k h', Fr h₀ L h' m → News h₀ L h' (news' k) → Q () { s with heap := h' }) : wpAny (model prog w) A (setItem (.ref a) (.ref sl) (.ref b)) Q E s := by
  obtain ⟨F', N'⟩ := push_news F N { cls := .type "slice", data := .fields #[.int p t₁, .int q t₂, .none] }
  rw [← he] at F' N'
  exact ll_setslice (Y s F' N') F' N' (osl := { cls := .type "slice", data := .fields #[.int p t₁, .int q t₂, .none] }) (by rw [he, hsl]; exact Heap.get?_push_size _ rfl) rfl rfl hq hb hab U hz h0 hn k
end

/-- what one deed may do to the list's ints and to those that left -/
def StepR (ns qs : List Int) (z : Int) (ns' qs' : List Int) : Prop :=
  ns'.Nodup ∧ (∀ y ∈ qs', y ∉ ns') ∧ (∀ y ∈ ns', y ∈ ns ∨ y = z) ∧ (∀ y ∈ qs', y ∈ qs ∨ y ∈ ns) ∧ ns'.length ≤ ns.length + 1 ∧ qs'.length ≤ qs.length + 1
section
variable {ns qs ns' : List Int} {z : Int}
theorem step_perm (hn : ns.Nodup) (hd : ∀ y ∈ qs, y ∉ ns) (hp : ns'.Perm ns) : StepR ns qs z ns' qs :=
  ⟨hp.nodup_iff.mpr hn, fun y h q => hd y h (hp.mem_iff.mp q), fun y h => .inl (hp.mem_iff.mp h), fun y h => .inl h, by rw [hp.length_eq]; omega, by omega⟩
theorem step_new (hn : ns.Nodup) (hd : ∀ y ∈ qs, y ∉ ns) (hz : z ∉ ns) (hzq : z ∉ qs) (hp : ns'.Perm (z :: ns)) : StepR ns qs z ns' qs :=
  ⟨hp.nodup_iff.mpr (List.nodup_cons.mpr ⟨hz, hn⟩), fun y h q => by
    rcases List.mem_cons.mp (hp.mem_iff.mp q) with e | e
    · exact hzq (e ▸ h)
    · exact hd y h e, fun y h => by
    rcases List.mem_cons.mp (hp.mem_iff.mp h) with e | e
    · exact .inr e
    · exact .inl e, fun y h => .inl h, by rw [hp.length_eq, List.length_cons]; omega, by omega⟩
theorem perm_push : (ns ++ [z]).Perm (z :: ns) := List.perm_append_comm
theorem perm_insert (k : Nat) : (ns.take k ++ z :: ns.drop k).Perm (z :: ns) := by
  refine List.perm_middle.trans ?_
  rw [List.take_append_drop]
theorem getD_mem {i : Nat} (hi : i < ns.length) : ns.getD i 0 ∈ ns := by
  rw [List.getD_eq_getElem?_getD, List.getElem?_eq_getElem hi]; exact List.getElem_mem hi
theorem take_cons_drop {i : Nat} (hi : i < ns.length) : ns = ns.take i ++ ns.getD i 0 :: ns.drop (i + 1) := by
  have e : ns.getD i 0 = ns[i] := by rw [List.getD_eq_getElem?_getD, List.getElem?_eq_getElem hi]; rfl
  rw [e, ← List.drop_eq_getElem_cons hi, List.take_append_drop]
theorem split_perm {i : Nat} (hi : i < ns.length) : ns.Perm (ns.getD i 0 :: (ns.take i ++ ns.drop (i + 1))) := by
  have := List.perm_middle (a := ns.getD i 0) (l₁ := ns.take i) (l₂ := ns.drop (i + 1))
  rw [← take_cons_drop hi] at this
  exact this
theorem step_out {i : Nat} (hi : i < ns.length) (hn : ns.Nodup) (hd : ∀ y ∈ qs, y ∉ ns) (hp : ns'.Perm (ns.take i ++ ns.drop (i + 1))) : StepR ns qs z ns' (qs ++ [ns.getD i 0]) := by
  have hs := split_perm hi
  have hn' := List.nodup_cons.mp (hs.nodup_iff.mp hn)
  have hm : ∀ y, y ∈ ns' → y ∈ ns := fun y h => hs.mem_iff.mpr (.tail _ (hp.mem_iff.mp h))
  have hl := hs.length_eq
  rw [List.length_cons, ← hp.length_eq] at hl
  refine ⟨hp.nodup_iff.mpr hn'.2, fun y h q => ?_, fun y h => .inl (hm y h), fun y h => ?_, by omega, by simp⟩
  · rcases List.mem_append.mp h with h | h
    · exact hd y h (hm y q)
    · rw [List.mem_singleton.mp h] at q
      exact hn'.1 (hp.mem_iff.mp q)
  · rcases List.mem_append.mp h with h | h
    · exact .inl h
    · rw [List.mem_singleton.mp h]; exact .inr (getD_mem hi)
theorem step_swap {i : Nat} (hi : i < ns.length) (hn : ns.Nodup) (hd : ∀ y ∈ qs, y ∉ ns) (hz : z ∉ ns) (hzq : z ∉ qs) : StepR ns qs z (ns.take i ++ [z] ++ ns.drop (i + 1)) (qs ++ [ns.getD i 0]) := by
  have hs := split_perm hi
  have hn' := List.nodup_cons.mp (hs.nodup_iff.mp hn)
  have hp : (ns.take i ++ [z] ++ ns.drop (i + 1)).Perm (z :: (ns.take i ++ ns.drop (i + 1))) := by
    rw [List.append_assoc]; exact List.perm_middle
  have hm : ∀ y, y ∈ ns.take i ++ ns.drop (i + 1) → y ∈ ns := fun y h => hs.mem_iff.mpr (.tail _ h)
  have hl := hs.length_eq
  rw [List.length_cons] at hl
  refine ⟨hp.nodup_iff.mpr (List.nodup_cons.mpr ⟨fun h => hz (hm _ h), hn'.2⟩), fun y h q => ?_, fun y h => ?_, fun y h => ?_, by rw [hp.length_eq, List.length_cons]; omega, by simp⟩
  · rcases List.mem_cons.mp (hp.mem_iff.mp q) with e | e <;> rcases List.mem_append.mp h with h | h
    · exact hzq (e ▸ h)
    · rw [List.mem_singleton.mp h] at e; exact hz (e ▸ getD_mem hi)
    · exact hd y h (hm y e)
    · rw [List.mem_singleton.mp h] at e; exact hn'.1 e
  · rcases List.mem_cons.mp (hp.mem_iff.mp h) with e | e
    · exact .inr e
    · exact .inl (hm y e)
  · rcases List.mem_append.mp h with h | h
    · exact .inl h
    · rw [List.mem_singleton.mp h]; exact .inr (getD_mem hi)
end
theorem nth_fact {a : Array Value} {x : List Int} (h : IntsAre a.toList x) {i : Int} (h0 : 0 ≤ i) (h1 : i < a.size) : ∃ t, a[i.toNat]? = some (.int (x.getD i.toNat 0) t) := by
  have hs := ia_size h
  have hi : i.toNat < x.length := by omega
  exact ia_get h (by rw [List.getD_eq_getElem?_getD, List.getElem?_eq_getElem hi]; rfl)
theorem nth_some {x : List Int} {i : Nat} (h : i < x.length) : x[i]? = some (x.getD i 0) := by
  rw [List.getD_eq_getElem?_getD, List.getElem?_eq_getElem h]; rfl
theorem nth_first {x : List Int} (hn : x.Nodup) {i : Nat} (h : i < x.length) : ∀ j, j < i → x[j]? ≠ some (x.getD i 0) := fun j hj e => by
  have := (List.getElem?_inj (i := j) (j := i) (by omega) hn).mp (by rw [e, nth_some h])
  omega
theorem sorted_eq {a b : List Int} (hp : a.Perm b) (h1 : a.Pairwise (· ≤ ·)) (h2 : b.Pairwise (· ≤ ·)) : a = b :=
  hp.eq_of_pairwise (fun x y _ _ h k => Int.le_antisymm h k) h1 h2
theorem fmod_bounds {a b : Int} (ha : 0 ≤ a) (hb : 0 < b) : 0 ≤ a.fmod b ∧ a.fmod b < b := by
  rw [Int.fmod_eq_emod_of_nonneg a (Int.le_of_lt hb)]
  exact ⟨Int.emod_nonneg _ (by omega), Int.emod_lt_of_pos _ hb⟩
theorem perm_insert1 {ns : List Int} {z : Int} (k : Nat) : (ns.take k ++ [z] ++ ns.drop k).Perm (z :: ns) := by
  rw [List.append_assoc]; exact perm_insert k
theorem ia_cat1 {a : Array Value} {x : List Int} (h : IntsAre a.toList x) (i : Int) (t : Tok) : IntsAre (a ++ #[Value.int i t]).toList (x ++ [i]) := by
  rw [Array.toList_append]; exact ia_append h (ia_one i t)
theorem ia_out {a : Array Value} {x : List Int} (h : IntsAre a.toList x) (k : Nat) : IntsAre (a.eraseIdxIfInBounds k).toList (x.take k ++ x.drop (k + 1)) := by
  rw [← List.eraseIdx_eq_take_drop_succ]; exact ia_erase h k
theorem ia_slice1 {a : Array Value} {x : List Int} (h : IntsAre a.toList x) (k : Nat) (i : Int) (t : Tok) : IntsAre (a.extract 0 k ++ #[Value.int i t] ++ a.extract (k + 1) a.size).toList (x.take k ++ [i] ++ x.drop (k + 1)) := ia_setslice h (ia_one i t) k

section
variable {prog : Program} {w : World} {A₀ A : Around} {s : Shared} {base h₀ : Heap} {L : Addr} {m : Str → Option Value} {news : List (Addr × Obj)} {K : Frag} {p : Program} {loose : List Str} {mean : ExcName → Option Value} {mg mb : Str → Option Value}
    {R : Result → Shared → Prop} {name qual : Str} {params : Arguments} {body : List Stmt} {scope : Scope} {dV kV doc pm cdv ct oc : Value} {an od : Option Addr} {osl : Array (Option Value)} {f : Addr} {args : Args} {binds : List (Str × Value)}
/-- a call from the lowest frame, whatever that frame closes over; the ground may turn in the caller's frame -/
theorem code_ask {env : Env} (B : Below A₀ base [] h₀) (F : Fr h₀ L s.heap m) (X₀ : K.In h₀) (N : News h₀ L s.heap news) (T : Top p loose mean mg mb h₀) (hA : A.frames = some [env]) (hf : env.frame = some L) (hke : env.scope.kind = .function)
    (ho : K.lookup f = some ⟨oc, od, .func (fnOf name qual params body scope dV kV doc pm an cdv ct), osl⟩) (hcd : codeIn K cdv qual = true) (hroom : A.depth < recursionLimit)
    (hbind : BindsTo s (fnOf name qual params body scope dV kV doc pm an cdv ct) args binds) (hloc : ∀ y ∈ binds, scope.names.lookup y.1 = some .local)
    (h : ∀ g L' h₁, Fr h₀ L g m → Fr g L' h₁ (fun y => binds.reverse.lookup y) → News g L' h₁ news → Below A base [env] g → K.In g → Top p loose mean mg mb g → KtsDicts ([env].filterMap (·.frame)) g →
      wpAny (model prog w) (A.deeper (envOf qual scope L' f cdv)) (execs body (envOf qual scope L' f cdv))
        (fun fl s' => LeaveS0 ([env].filterMap (·.frame)) h₀ L m g R (match fl with | .ret v => v | _ => .none) s')
        (fun e s' => wpAny (model prog w) (A.deeper (envOf qual scope L' f cdv)) (leaving (envOf qual scope L' f cdv) e) (fun _ s'' => R (.error e) s'') (fun e' s'' => R (.error e') s'') s')
        { s with heap := h₁, toks := s.toks + binds.length })
    (hco : scope.isCoroutine = false) (hgen : scope.isGenerator = false) (hk : scope.kind = .function)
    (hcell : ∀ x ∈ scope.names, x.2 ≠ .cell) : codeAny (model prog w) A (.call (.ref f) args) R s := by
  have hfs : [env].filterMap (·.frame) = [L] := by rw [List.filterMap_cons_some hf]; rfl
  rw [hfs] at h
  have nL : h₀.get? L = none := kts_self F
  have notin : ∀ b o, h₀.get? b = some o → b ∉ news.map (·.1) := fun b o e q => by
    obtain ⟨r, hr, rfl⟩ := List.mem_map.mp q
    rw [(N r hr).2.2] at e; cases e
  have Lout : L ∉ news.map (·.1) := fun q => by
    obtain ⟨r, hr, e⟩ := List.mem_map.mp q
    exact (N r hr).2.1 e
  obtain ⟨oL, es, ep, hL, hLd, hLk, hLf⟩ := F.ns
  have hLg := hideAll_get (news.map (·.1)) hL Lout
  have st : h₀.StaysIn (hideAll s.heap (news.map (·.1))) := fun b o e => hideAll_get _ (F.keep b o e) (notin b o e)
  have bL : base.get? L = none := by
    cases q : base.get? L with
    | none => rfl
    | some o => rw [B.stays _ _ q] at nL; cases nL
  have Bg : Below A base [env] (hideAll s.heap (news.map (·.1))) := ⟨hA, fun b o e => st b o (B.stays b o e), by rw [hke]; decide, ⟨L, oL, hf, bL, hLg, fun vs q => by rw [hLd] at q; cases q⟩, trivial⟩
  have X := X₀.keeps F.keep
  refine codeAny_call_def (fd := fnOf name qual params body scope dV kV doc pm an cdv ct) (body := body) (binds := binds) hroom (X _ _ ho) rfl (T.nolimit.keeps F.keep) (codeRec_of X hcd) rfl hbind hcell hloc (fun h₁ hns hk₁ => ?_) hco hgen hk
  refine wpAny_mono (h _ s.heap.objs.size h₁ ⟨⟨oL, es, ep, hLg, hLd, hLk, hLf⟩, st, F.above⟩ ⟨hns, fun b o e => hk₁ b o (of_hideAll _ e), Nat.le_of_eq (hideAll_size _ _)⟩
    (fun q hq => ⟨hk₁ _ _ (N q hq).1, Nat.ne_of_lt (Heap.lt_size (N q hq).1), hideAll_none _ (List.mem_map_of_mem hq)⟩) Bg (X₀.keeps st) (T.keeps st) (fun b hb => by
      rw [List.mem_singleton.mp hb]; exact ⟨oL, es, ep, hLg, hLd⟩)) (fun fl s' hl => ?_) fun _ _ y => y
  obtain ⟨g', L', m', news', T', F', N', k⟩ := hl
  obtain ⟨sl, hs⟩ := T'.up hLg
  refine k ⟨⟨_, es, ep, F'.keep _ _ hs, hLd, hLk, hLf⟩, fun b o e => F'.keep b o (T'.other b o (st b o e) (fun q => by rw [List.mem_singleton.mp q, nL] at e; cases e)), F.above⟩ fun q hq => ⟨(N' q hq).1, fun e => ?_, ?_⟩
  · have := (N' q hq).2.2; rw [e, hs] at this; cases this
  · cases r : h₀.get? q.1 with
    | none => rfl
    | some o =>
      obtain ⟨sl', hs'⟩ := T'.up (st _ _ r)
      have := (N' q hq).2.2
      rw [hs'] at this; cases this
end
end Mine
end PP

section PZ
namespace Mine
theorem top_off_Z : True := by
  w_top off
  trivial
end Mine
set_option maxRecDepth 100000
set_option maxHeartbeats 8000000
namespace Mine
local macro_rules | `(tactic| k_inst) => `(tactic| (refine' inst_of_news ?N ?h1 ?h2; (case N => k_asm); (case h1 => k_mem); (case h2 => k_mem)))
local macro_rules | `(tactic| k_all) => `(tactic| first | assumption | exact allNe_all (by assumption) | exact allLt_ne (by assumption) | exact allLt_ne (And.right (by assumption)) | exact allLt_ne (And.right (And.right (by assumption))) | exact allLt_ne (And.right (And.right (And.right (by assumption)))) | exact allLt_ne (And.right (And.right (And.right (And.right (by assumption))))))
local macro_rules | `(tactic| walk_at "setAttr ref") => `(tactic| (k_here; k_dflt (refine' setL_dict ?k1 ?k2 ?k3 ?k4 ?k5 ?k6 ?k7 ?k8 ?k9 ?k10 ?k11 ?k12 ?k13 ?_; (case k1 => k_asm); (case k2 => k_asm); (case k3 => k_asm); (case k4 => k_inst); (case k5 => exact rfl); (case k6 => k_is); (case k7 => exact mroC _); (case k8 => k_is); (case k9 => k_is); (case k10 => k_get); (case k11 => k_put); (case k12 => k_upd); (case k13 => exact Nat.le_of_ble_eq_true rfl); k_whole; intro h' F' N'; (try k_sweep))))
local macro_rules | `(tactic| walk_at "setAttr ref") => `(tactic| (k_here; (first | ((with_reducible show wpAny _ _ (setAttr (Value.ref _) (Str.ofString "_dict") _) _ _ _); k_dflt (refine' set_d ?k1 ?k2 ?k3 ?k4 ?k5 ?k6 ?k7 ?k8 ?k9 ?_)) | ((with_reducible show wpAny _ _ (setAttr (Value.ref _) (Str.ofString "clean") _) _ _ _); k_dflt (refine' set_c ?k1 ?k2 ?k3 ?k4 ?k5 ?k6 ?k7 ?k8 ?k9 ?_))); (case k1 => k_asm); (case k2 => k_asm); (case k3 => k_asm); (case k4 => k_mem); (case k5 => k_dflt k_is); (case k6 => exact mroC _); (case k7 => k_dflt k_is); (case k8 => k_dflt k_is); (case k9 => k_dflt k_upd); k_whole; intro h' F' N'; (try k_sweep)))
local macro_rules | `(tactic| walk_at "eval Dict nil nil") => `(tactic| (k_here; k_dflt (refine' new_dictK ?k1 ?k2 (TopRead.nolimit (by k_asm)) ?_; (case k1 => k_asm); (case k2 => k_asm); k_whole); intro d' h' F' N' l1 lo'; (try k_lt l1); (try k_sweep)))
local macro_rules | `(tactic| walk_at "exec For Name Name cons nil") => `(tactic| (refine Stop.out ?_))
local macro_rules | `(tactic| walk_at "exec For Name Call cons nil") => `(tactic| (refine Stop.out ?_))
local macro_rules | `(tactic| walk_at "exec For Tuple Call cons nil") => `(tactic| (refine Stop.out ?_))
local macro_rules | `(tactic| walk_at "pyIter ref") => `(tactic| ((with_reducible show wpAny _ _ (pyIter (Value.ref _)) (fun it s₂ => LoopAtV _ _ _ _ _ _ _ _ _ it s₂) _ _); refine Stop.out ?_))
local macro_rules | `(tactic| walk_at "compareOp NotIn int ref") => `(tactic| (k_here; k_dflt ((first | refine' dm_notin_t ?k1 ?k2 ?k3 ?k4 ?k5 ?_; (case k1 => k_asm); (case k2 => k_mem); (case k3 => assumption); (case k4 => assumption); (case k5 => assumption) | refine' dm_notin_f ?k1 ?k2 ?k3 ?k4 ?k5 ?_; (case k1 => k_asm); (case k2 => k_mem); (case k3 => assumption); (case k4 => assumption); (case k5 => assumption)))))
local macro_rules | `(tactic| walk_at "compareOp In int ref") => `(tactic| (k_here; k_dflt ((first | refine' dm_in_t ?k1 ?k2 ?k3 ?k4 ?k5 ?_; (case k1 => k_asm); (case k2 => k_mem); (case k3 => assumption); (case k4 => assumption); (case k5 => assumption) | refine' dm_in_f ?k1 ?k2 ?k3 ?k4 ?k5 ?_; (case k1 => k_asm); (case k2 => k_mem); (case k3 => assumption); (case k4 => assumption); (case k5 => assumption)))))
local macro_rules | `(tactic| walk_at "setItem ref int") => `(tactic| (k_here; k_dflt (refine' dm_set ?k1 ?k2 ?k3 ?k4 ?k5 ?_; (case k1 => k_asm); (case k2 => k_asm); (case k3 => k_updF); (case k4 => assumption); (case k5 => omega); k_whole); intro o' h' F' N' x'; (try dsimp only at N'); (try k_sweep)))
local macro_rules | `(tactic| walk_at "getAttr ref") => `(tactic| (k_here; (first | ((with_reducible show wpAny _ _ (getAttr (Value.ref _) (Str.ofString "_dict") _) _ _ _); k_dflt (refine' getA_d ?k1 ?k2 ?k3 ?k4 ?k5 ?k6 ?k7 ?k8 ?k9 ?k10 ?k11 ?_)) | ((with_reducible show wpAny _ _ (getAttr (Value.ref _) (Str.ofString "clean") _) _ _ _); k_dflt (refine' getA_c ?k1 ?k2 ?k3 ?k4 ?k5 ?k6 ?k7 ?k8 ?k9 ?k10 ?k11 ?_))); (case k1 => k_asm); (case k2 => k_asm); (case k3 => k_asm); (case k4 => k_mem); (case k5 => k_mem); (case k6 => exact mroC _); (case k7 => k_dflt k_is); (case k8 => k_dflt k_is); (case k9 => k_dflt k_is); (case k10 => k_dflt k_is); (case k11 => k_dflt k_is); k_whole))
local macro_rules | `(tactic| walk_at "getMethod ref") => `(tactic| (k_here; k_dflt (refine' methA ?k1 ?k2 ?k3 ?k4 ?k5 ?k6 ?k7 ?k8 ?k9 ?k10 ?k11 ?_; (case k1 => k_asm); (case k2 => k_asm); (case k3 => k_asm); (case k4 => k_mem); (case k5 => k_mem); (case k6 => k_is); (case k7 => k_is); (case k8 => k_is); (case k9 => k_is); (case k10 => decide); (case k11 => k_get); k_whole)))
local macro_rules | `(tactic| walk_at "compareOp In int ref") => `(tactic| (k_here; k_dflt (refine' in_own ?k1 ?k2 ?k3 ?k4 ?k5 ?k6 ?_; (case k1 => k_asm); (case k2 => k_asm); (case k3 => k_asm); (case k4 => k_mem); (case k5 => k_is); (case k6 => k_is); k_whole)))
local macro_rules | `(tactic| walk_at "compareOp NotIn int ref") => `(tactic| (k_here; k_dflt (refine' notin_own ?k1 ?k2 ?k3 ?k4 ?k5 ?k6 ?_; (case k1 => k_asm); (case k2 => k_asm); (case k3 => k_asm); (case k4 => k_mem); (case k5 => k_is); (case k6 => k_is); k_whole)))
local macro_rules | `(tactic| walk_at "compareOp In int ref") => `(tactic| (k_here; k_dflt (refine' dm_in ?k1 ?k2 ?k3 ?k4 ?_; (case k1 => k_asm); (case k2 => k_mem); (case k3 => assumption); (case k4 => assumption))))
local macro_rules | `(tactic| walk_at "compareOp In int ref") => `(tactic| (k_here; k_dflt (first | refine' dm_in_t ?k1 ?k2 ?k3 ?k4 ?k5 ?_; (case k1 => k_asm); (case k2 => k_mem); (case k3 => assumption); (case k4 => assumption); (case k5 => assumption) | refine' dm_in_f ?k1 ?k2 ?k3 ?k4 ?k5 ?_; (case k1 => k_asm); (case k2 => k_mem); (case k3 => assumption); (case k4 => assumption); (case k5 => assumption))))
local macro_rules | `(tactic| walk_at "compareOp NotIn int ref") => `(tactic| (k_here; k_dflt (first | refine' dm_notin_t ?k1 ?k2 ?k3 ?k4 ?k5 ?_; (case k1 => k_asm); (case k2 => k_mem); (case k3 => assumption); (case k4 => assumption); (case k5 => assumption) | refine' dm_notin_f ?k1 ?k2 ?k3 ?k4 ?k5 ?_; (case k1 => k_asm); (case k2 => k_mem); (case k3 => assumption); (case k4 => assumption); (case k5 => assumption))))
local macro_rules | `(tactic| walk_at "subscriptTail") => `(tactic| (k_here; (with_reducible show wpAny _ _ (subscriptTail _ _ (Value.ref _) (Value.int _ _)) _ _ _); k_dflt (refine' dm_tail ?k1 ?k2 ?k3 ?k4 ?_; (case k1 => k_asm); (case k2 => k_mem); (case k3 => assumption); (case k4 => assumption))))
local macro_rules | `(tactic| walk_at "call ref") => `(tactic| ((first | (with_reducible show wpAny _ _ (call (Value.ref 37) _) _ _ _) | (with_reducible show wpAny _ _ (call (Value.ref 44) _) _ _ _) | (with_reducible show wpAny _ _ (call (Value.ref 51) _) _ _ _) | (with_reducible show wpAny _ _ (call (Value.ref 58) _) _ _ _) | (with_reducible show wpAny _ _ (call (Value.ref 65) _) _ _ _) | (with_reducible show wpAny _ _ (call (Value.ref 68) _) _ _ _) | (with_reducible show wpAny _ _ (call (Value.ref 79) _) _ _ _) | (with_reducible show wpAny _ _ (call (Value.ref 86) _) _ _ _) | (with_reducible show wpAny _ _ (call (Value.ref 93) _) _ _ _)); refine Stop.out ?_))
local macro_rules | `(tactic| walk_at "call builtin:len") => `(tactic| (k_here; (with_reducible show wpAny _ _ (call (Value.builtin "len") [Value.ref _]) _ _ _); k_dflt (refine' ll_len ?Y ?N ?hx ?hz ?_; (case N => k_asm); (case hx => k_mem); (case Y => (first | exact ll_own (by k_asm) (by k_asm) (by k_asm) (by k_mem) (mroC _) (by k_is) (by k_is) (by k_is) (by k_is) | exact ll_list (by k_asm) (by k_mem))); (case hz => first | omega | (simp only [Array.size_push]; omega)))))
local macro_rules | `(tactic| walk_at "call builtin:list.append") => `(tactic| (k_here; (with_reducible show wpAny _ _ (call (Value.builtin _) [Value.ref _, _]) _ _ _); k_dflt (refine' l_append ?F ?N ?hi ?U ?hz ?_; (case F => k_asm); (case N => k_asm); (case U => (intro k'; k_upd)); (case hi => first | exact is_news (by k_asm) (by k_asm) (by k_asm) (by k_mem) (mroC _) | exact is_list (by k_asm) (by k_mem)); (case hz => first | omega | (simp only [Array.size_push]; omega)); k_whole); intro k' h' F' N'; (try dsimp only at N'); (try k_sweep)))
local macro_rules | `(tactic| walk_at "getMethod type:list") => `(tactic| (k_here; refine' method_type ?F ?X ?m (by decide +kernel) ?e ?h ?_; (case F => k_asm); (case X => k_asm); (case m => exact meta_of_list); (case e => k_dflt k_is); (case h => k_handed)))
local macro_rules | `(tactic| walk_at "call type:enumerate") => `(tactic| (refine Stop.out ?_))
local macro_rules | `(tactic| ktr_enter) => `(tactic| (refine' code_def ?k1 ?k2 ?k3 ?k4 ?k5 ?kA ?kF ?kK ?k6 ?k7 ?k8 ?k9 ?kB ?_ ?c2 ?c3 ?c4 ?c5; (case kA => exact rfl); (case kF => exact rfl); (case kK => first | assumption | exact rfl); (case k1 => k_asm); (case k2 => k_asm); (case k3 => k_asm); (case k4 => k_asm); (case k5 => k_asm); (case k6 => k_is); (case k7 => k_is); (case k8 => ktr_room); (case k9 => first | exact BindsTo.of_eq rfl | exact binds_K (by k_in) rfl (by k_is) rfl rfl rfl); (case c5 => decide); (case kB => exact locs rfl); (case c2 => exact rfl); (case c3 => exact rfl); (case c4 => exact rfl); k_whole; intro g' L' h' FG' F' N' B' X' T'; (try dsimp only); (try k_fold)))
local macro_rules | `(tactic| walk_at "call type:list") => `(tactic| (k_here; (with_reducible show wpAny _ _ (call (Value.type "list") [Value.ref _]) _ _ _); k_dflt (refine' l_copy ?hh ?F ?X ?N ?hx ?hz (mroC _) ?h0 ?h1 ?h2 ?h3 ?h4 ?_; (case hh => exact rfl); (case F => k_asm); (case X => k_asm); (case N => k_asm); (case hx => k_mem); (case hz => omega); (case h0 => k_is); (case h1 => k_is); (case h2 => k_is); (case h3 => k_is); (case h4 => k_is); k_whole); intro l9 k9 h' tk9 F' N' lt9; (try k_sweep)))
local macro_rules | `(tactic| walk_at "subscriptTail") => `(tactic| (k_here; (with_reducible show wpAny _ _ (subscriptTail _ _ (Value.ref _) (Value.int _ _)) _ _ _); k_dflt (refine' li_tail ?k1 ?k2 ?k3 ?k4 ?_; (case k1 => k_asm); (case k2 => k_mem); (case k3 => assumption); (case k4 => omega))))
local macro_rules | `(tactic| walk_at "exec Raise some none") => `(tactic| (k_here; (with_reducible show wpAny _ _ (exec (Stmt.Raise (some (Expr.Name ("ValueError" : Str) _)) none _) _) _ _ _); (with_reducible rename Fr _ _ _ _ => kF); k_dflt (refine' raise_VE ?hh ?hs ?hx ?_; (case hh => rfl); (case hs => rw [isSubtype_type]; kernel_rfl); (case hx => (refine' name_B kF ?k1 ?k2 ?k3 ?k4 ?k5 ?_; (case k1 => k_asm); (case k2 => k_asm); (case k3 => k_is); (case k4 => boot_by_name); (case k5 => decide); exact ⟨rfl, rfl⟩)))))
local macro_rules | `(tactic| walk_at "my ask") => `(tactic| ((refine' code_ask ?k1 ?k2 ?k3 ?k4 ?k5 ?kA ?kF ?cK ?k6 ?k7 ?k8 ?k9 ?kB ?_ ?c2 ?c3 ?c4 ?c5; (case kA => exact rfl); (case kF => exact rfl); (case k2 => k_asm); (case k1 => k_asm); (case k3 => k_asm); (case k4 => k_asm); (case k5 => k_asm); (case k6 => k_is); (case k7 => k_is); (case k8 => ktr_room); (case k9 => first | exact BindsTo.of_eq rfl | exact binds_K (by k_in) rfl (by k_is) rfl rfl rfl); (case kB => exact locs rfl); (case cK => first | assumption | exact rfl); (case c2 => exact rfl); (case c3 => exact rfl); (case c4 => exact rfl); (case c5 => decide); k_whole; intro g' L' h' FG' F' N' B' X' T' D'; (try dsimp only); (try k_lift B'); (try k_fold))))
local macro_rules | `(tactic| walk_at "call builtin:list.insert") => `(tactic| (k_here; (with_reducible show wpAny _ _ (call (Value.builtin _) [Value.ref _, Value.int _ _, _]) _ _ _); k_dflt (refine' l_insert ?F ?N ?hi ?U ?hz ?h0 ?hn ?_; (case F => k_asm); (case N => k_asm); (case U => (intro k'; k_upd)); (case hi => (first | exact is_news (by k_asm) (by k_asm) (by k_asm) (by k_mem) (mroC _) | exact is_list (by k_asm) (by k_mem))); (case hz => omega); (case h0 => omega); (case hn => omega); k_whole); intro k' h' F' N'; (try dsimp only at N'); (try k_sweep)))
local macro_rules | `(tactic| walk_at "call builtin:list.extend") => `(tactic| (k_here; (with_reducible show wpAny _ _ (call (Value.builtin _) [Value.ref _, Value.ref _]) _ _ _); k_dflt (refine' l_extend ?F ?N ?hi ?hb ?U ?hz ?_; (case F => k_asm); (case N => k_asm); (case hb => k_mem); (case U => (intro k'; k_upd)); (case hi => (first | exact is_news (by k_asm) (by k_asm) (by k_asm) (by k_mem) (mroC _) | exact is_list (by k_asm) (by k_mem))); (case hz => (first | omega | (simp only [List.size_toArray, List.length_cons, List.length_nil]; omega))); k_whole); intro k' h' F' N'; (try dsimp only at N'); (try k_sweep)))
local macro_rules | `(tactic| walk_at "call builtin:list.reverse") => `(tactic| (k_here; (with_reducible show wpAny _ _ (call (Value.builtin _) [Value.ref _]) _ _ _); k_dflt (refine' l_reverse ?F ?N ?hi ?U ?hz ?_; (case F => k_asm); (case N => k_asm); (case U => (intro k'; k_upd)); (case hi => (first | exact is_news (by k_asm) (by k_asm) (by k_asm) (by k_mem) (mroC _) | exact is_list (by k_asm) (by k_mem))); (case hz => omega); k_whole); intro k' h' F' N'; (try dsimp only at N'); (try k_sweep)))
local macro_rules | `(tactic| walk_at "call builtin:list.sort") => `(tactic| (k_here; (with_reducible show wpAny _ _ (call (Value.builtin _) [Value.ref _]) _ _ _); k_dflt (refine' l_sort ?F ?N ?hi ?U ?hI ?h64 ?_; (case F => k_asm); (case N => k_asm); (case U => k_updF); (case hi => (first | exact is_news (by k_asm) (by k_asm) (by k_asm) (by k_mem) (mroC _) | exact is_list (by k_asm) (by k_mem))); (case hI => assumption); (case h64 => omega); k_whole); intro out ns' k' h' iI iP iS F' N'; (try dsimp only at N'); (try k_sweep)))
local macro_rules | `(tactic| walk_at "call builtin:list.pop") => `(tactic| (k_here; (with_reducible show wpAny _ _ (call (Value.builtin _) [Value.ref _, Value.int _ _]) _ _ _); k_dflt (refine' l_pop ?F ?N ?hi ?U ?hz ?h0 ?hv ?_; (case F => k_asm); (case N => k_asm); (case U => (intro k'; k_upd)); (case hi => (first | exact is_news (by k_asm) (by k_asm) (by k_asm) (by k_mem) (mroC _) | exact is_list (by k_asm) (by k_mem))); (case hz => omega); (case h0 => omega); (case hv => assumption); k_whole); intro k' h' F' N'; (try dsimp only at N'); (try k_sweep)))
local macro_rules | `(tactic| walk_at "call builtin:list.remove") => `(tactic| (k_here; (with_reducible show wpAny _ _ (call (Value.builtin _) [Value.ref _, Value.int _ _]) _ _ _); k_dflt (refine' l_remove ?F ?N ?hi ?U ?hz ?hI ?hj ?hno ?_; (case F => k_asm); (case N => k_asm); (case U => (intro k'; k_upd)); (case hI => assumption); (case hj => assumption); (case hno => assumption); (case hi => (first | exact is_news (by k_asm) (by k_asm) (by k_asm) (by k_mem) (mroC _) | exact is_list (by k_asm) (by k_mem))); (case hz => omega); k_whole); intro k' h' F' N'; (try dsimp only at N'); (try k_sweep)))
local macro_rules | `(tactic| walk_at "delItem ref int") => `(tactic| (k_here; k_dflt (refine' ll_del ?Y ?F ?N ?U ?hz ?h0 ?hn ?_; (case F => k_asm); (case N => k_asm); (case U => (intro k'; k_upd)); (case Y => (first | exact ll_own (by k_asm) (by k_asm) (by k_asm) (by k_mem) (mroC _) (by k_is) (by k_is) (by k_is) (by k_is) | exact ll_list (by k_asm) (by k_mem))); (case hz => omega); (case h0 => omega); (case hn => omega); k_whole); intro k' h' F' N'; (try dsimp only at N'); (try k_sweep)))
local macro_rules | `(tactic| walk_at "setItem ref ref") => `(tactic| (k_here; k_dflt (refine' set_slice_p ?F ?N ?he ?hs ?hq ?hb ?hab ?Y ?U ?hz ?h0 ?hn ?_; (case F => k_asm); (case N => k_asm); (case he => exact rfl); (case hs => exact rfl); (case hq => exact rfl); (case hb => k_mem); (case hab => k_ne); (case Y => (intro s' F' N'; (first | exact ll_own (by k_asm) (by k_asm) (by k_asm) (by k_mem) (mroC _) (by k_is) (by k_is) (by k_is) (by k_is) | exact ll_list (by k_asm) (by k_mem)))); (case U => (intro k'; k_upd)); (case hz => (first | omega | (simp only [List.size_toArray, List.length_cons, List.length_nil]; omega))); (case h0 => omega); (case hn => omega); k_whole); intro k' h' F' N'; (try dsimp only at N'); (try k_sweep)))
local macro_rules | `(tactic| walk_at "pad 0") => `(tactic| skip)
local macro_rules | `(tactic| walk_at "pad 1") => `(tactic| skip)
local macro_rules | `(tactic| walk_at "pad 2") => `(tactic| skip)
local macro_rules | `(tactic| walk_at "pad 3") => `(tactic| skip)
local macro_rules | `(tactic| walk_at "pad 4") => `(tactic| skip)
local macro_rules | `(tactic| walk_at "pad 5") => `(tactic| skip)
local macro_rules | `(tactic| walk_at "pad 6") => `(tactic| skip)
local macro_rules | `(tactic| walk_at "pad 7") => `(tactic| skip)
local macro_rules | `(tactic| walk_at "pad 8") => `(tactic| skip)
local macro_rules | `(tactic| walk_at "pad 9") => `(tactic| skip)
local macro_rules | `(tactic| walk_at "pad 10") => `(tactic| skip)
local macro_rules | `(tactic| walk_at "pad 11") => `(tactic| skip)
local macro_rules | `(tactic| walk_at "pad 12") => `(tactic| skip)
local macro_rules | `(tactic| walk_at "pad 13") => `(tactic| skip)
local macro_rules | `(tactic| walk_at "pad 14") => `(tactic| skip)
local macro_rules | `(tactic| walk_at "pad 15") => `(tactic| skip)
local macro_rules | `(tactic| walk_at "pad 16") => `(tactic| skip)
local macro_rules | `(tactic| walk_at "pad 17") => `(tactic| skip)
local macro_rules | `(tactic| walk_at "pad 18") => `(tactic| skip)
local macro_rules | `(tactic| walk_at "pad 19") => `(tactic| skip)
local macro_rules | `(tactic| walk_at "pad 20") => `(tactic| skip)
local macro_rules | `(tactic| walk_at "pad 21") => `(tactic| skip)
local macro_rules | `(tactic| walk_at "pad 22") => `(tactic| skip)
local macro_rules | `(tactic| walk_at "pad 23") => `(tactic| skip)
local macro_rules | `(tactic| walk_at "pad 24") => `(tactic| skip)
local macro_rules | `(tactic| walk_at "pad 25") => `(tactic| skip)
local macro_rules | `(tactic| walk_at "pad 26") => `(tactic| skip)
local macro_rules | `(tactic| walk_at "pad 27") => `(tactic| skip)
local macro_rules | `(tactic| walk_at "pad 28") => `(tactic| skip)
local macro_rules | `(tactic| walk_at "pad 29") => `(tactic| skip)
local macro_rules | `(tactic| walk_at "pad 30") => `(tactic| skip)
local macro_rules | `(tactic| walk_at "pad 31") => `(tactic| skip)
local macro_rules | `(tactic| walk_at "pad 32") => `(tactic| skip)
local macro_rules | `(tactic| walk_at "pad 33") => `(tactic| skip)
local macro_rules | `(tactic| walk_at "pad 34") => `(tactic| skip)
local macro_rules | `(tactic| walk_at "pad 35") => `(tactic| skip)
local macro_rules | `(tactic| walk_at "pad 36") => `(tactic| skip)
local macro_rules | `(tactic| walk_at "pad 37") => `(tactic| skip)
section
variable {w : World} {p : Program} {loose : List Str} {mean : ExcName → Option Value} {mg mb : Str → Option Value}
  {dp un : Nat} {gd : Option (List Code)} {cn : Str} {cs : Scope} {ca : Addr} {ccd : Value} {cl : List (Str × Addr)} {outer : List Env} {A₀ : Around} {base h₀ : Heap} {L : Addr} {m : Str → Option Value} {s : Shared} {Q E : Value → Shared → Prop}

theorem ask_spec {x dx D md gn : Addr} {vs us gs : Array Value} {n k ku kg : Nat} {t1 t2 : Tok} {b : Bool} {ns qs : List Int} {rest : List (Addr × Obj)}
    (B : Below A₀ base [] h₀) (F : Fr h₀ L s.heap m) (X : (hd.heap_39 w.params).In h₀) (T : Top p loose mean mg mb h₀) (hk : cs.kind = .function) (hdp : dp + 8 < recursionLimit) (hun : un + 140 < cLine)
    (N : News h₀ L s.heap ((x, subObj 68 dx vs n) :: (dx, attrD w.params t1 t2 b D k) :: (md, W.listOf us ku) :: (gn, W.listOf gs kg) :: rest))
    (XB : (hd.heap_39 w.params).In base) (TB : Top p loose mean mg mb base)
    (l1 : @Ne Nat x dx) (l2 : @Ne Nat x md) (l3 : @Ne Nat x gn) (l4 : @Ne Nat dx md) (l5 : @Ne Nat dx gn) (l6 : @Ne Nat md gn) (l7 : AllNe x rest) (l8 : AllNe dx rest) (l9 : AllNe md rest) (l10 : AllNe gn rest)
    (hI : IntsAre vs.toList ns) (hU : IntsAre us.toList ns) (hG : IntsAre gs.toList qs) (hz : ns.length ≤ 60) (hq : qs.length ≤ 60) (hn : ns.Nodup) (hd : ∀ z ∈ qs, z ∉ ns)
    (ret : ∀ D' o' f h' tk', Fr h₀ L h' m → News h₀ L h' ((D', o') :: (x, subObj 68 dx vs n) :: (dx, attrD w.params t1 t2 true D' k) :: (md, W.listOf us ku) :: (gn, W.listOf gs kg) :: rest) → DM PySem.Challenge.rw_aq6060_01.row.prog w o' f ns.length → Idx f ns →
      (D' == sysModules) = false → x < D' ∧ dx < D' ∧ AllLt D' ((md, W.listOf us ku) :: (gn, W.listOf gs kg) :: rest) → Q (.bool true) { s with heap := h', toks := tk' }) :
    wpAny (model PySem.Challenge.rw_aq6060_01.row.prog w) (ktrTop dp un gd cn cs L ca ccd cl []) (call (.ref 79) [.ref x, .ref md, .ref gn]) Q E s := by
  have hvz := ia_size hI
  have huz := ia_size hU
  have hgz := ia_size hG
  have l8' : ∀ p ∈ (md, W.listOf us ku) :: (gn, W.listOf gs kg) :: rest, p.1 ≠ dx := allNe_all ⟨Ne.symm l4, Ne.symm l5, l8⟩
  refine wpAny_call ?_
  k_dflt (walk_at "my ask")
  k_steps
  (refine ⟨?_⟩; k_dflt (refine' (rebuild_spec (b := b) (D := D) (k := k) (ns := ns) (rest := (md, W.listOf us ku) :: (gn, W.listOf gs kg) :: rest) (vs := vs) (n := n)) ?cB_1 ?cF_1 ?cX_1 ?cT_1 ?chk_1 ?chdp_1 ?chun_1 ?cN_1 l1 l8' hI (by omega) hn ?_; (case cB_1 => k_asm); (case cF_1 => k_asm); (case cX_1 => k_asm); (case cT_1 => k_asm); (case cN_1 => k_asm); (case chk_1 => exact rfl); (case chdp_1 => show (dp + 1 + 3) < recursionLimit; omega); (case chun_1 => show (un + 3 + 100) < cLine; omega)))
  intro D' o' f h2 tk2 F2 N2 M2 I2 lo2 lD2
  k_steps
  · omega
  refine ⟨?_⟩
  rename Fr _ _ _ _ => F1
  with_unfolding_all refine forF F1 (by exact rfl) (by exact rfl) ?_
  k_steps
  refine ⟨?_⟩
  rename Fr _ _ _ _ => F1
  rename News _ _ _ _ => N1
  rename IsRange _ _ _ _ _ _ _ _ => hR
  refine loop_range (n := ns.length) (news := (D', o') :: (x, subObj 68 dx vs n) :: (dx, attrD w.params t1 t2 true D' k) :: (md, W.listOf us ku) :: (gn, W.listOf gs kg) :: rest)
    (fun i m' nx => m' (Str.ofString "many") = some (.ref x) ∧ m' (Str.ofString "model") = some (.ref md) ∧ m' (Str.ofString "gone") = some (.ref gn) ∧ nx = (D', o') :: (x, subObj 68 dx vs n) :: (dx, attrD w.params t1 t2 true D' k) :: (md, W.listOf us ku) :: (gn, W.listOf gs kg) :: rest)
    rfl hR (by omega) (by omega) F1 (fun p hp => N1 p (.tail _ hp)) ⟨rfl, rfl, rfl, rfl⟩ ?turn ?done
  case turn =>
    rintro i ti m₁ nx h2 tk2 oI hi ⟨h1, h2, h3, rfl⟩ hoff F2 N2
    obtain ⟨tj, hj⟩ : ∃ tj, f (ns.getD ((i : Int)).toNat 0) = some (.int (i : Nat) tj) := I2.1 i _ (by simp [List.getD_eq_getElem?_getD, List.getElem?_eq_getElem hi])
    have F3 := fr_as F2 (in_three h1 h2 h3)
    have lx : AllNe x ((md, W.listOf us ku) :: (gn, W.listOf gs kg) :: rest) := ⟨Ne.symm l2, Ne.symm l3, l7⟩
    have N3 := news_in [(D', o'), (x, subObj 68 dx vs n), (dx, attrD w.params t1 t2 true D' k), (md, W.listOf us ku), (gn, W.listOf gs kg)] N2
    simp only [List.cons_append, List.nil_append] at N3
    clear F2 N2 h1 h2 h3
    k_steps
    (refine ⟨?_⟩; k_dflt (refine' (contains_spec (D := D') (k := k) (vs := vs) (n := n)) ?cB_2 ?cF_2 ?cX_2 ?cT_2 ?chk_2 ?chdp_2 ?chun_2 ?cN_2 M2 lo2 ?_; (case cB_2 => k_asm); (case cF_2 => k_asm); (case cX_2 => k_asm); (case cT_2 => k_asm); (case cN_2 => k_asm); (case chk_2 => exact rfl); (case chdp_2 => show (dp + 1 + 4) < recursionLimit; omega); (case chun_2 => show (un + 3 + 110) < cLine; omega)))
    intro h4 tk4 F4 N4
    rw [hj]
    refine ⟨true, rfl, ?_⟩
    k_steps
    (refine ⟨?_⟩; k_dflt (refine' (index_ok (D := D') (k := k) (vs := vs) (n := n)) ?cB_3 ?cF_3 ?cX_3 ?cT_3 ?chk_3 ?chdp_3 ?chun_3 ?cN_3 M2 lo2 hj ?_; (case cB_3 => k_asm); (case cF_3 => k_asm); (case cX_3 => k_asm); (case cT_3 => k_asm); (case cN_3 => k_asm); (case chk_3 => exact rfl); (case chdp_3 => show (dp + 1 + 6) < recursionLimit; omega); (case chun_3 => show (un + 3 + 120) < cLine; omega)))
    intro h5 tk5 F5 N5
    k_steps
    · exfalso; omega
    (refine ⟨?_⟩; k_dflt (refine' (add_old (D := D') (k := k) (vs := vs) (n := n)) ?cB_4 ?cF_4 ?cX_4 ?cT_4 ?chk_4 ?chdp_4 ?chun_4 ?cN_4 M2 lo2 hj ?_; (case cB_4 => k_asm); (case cF_4 => k_asm); (case cX_4 => k_asm); (case cT_4 => k_asm); (case cN_4 => k_asm); (case chk_4 => exact rfl); (case chdp_4 => show (dp + 1 + 6) < recursionLimit; omega); (case chun_4 => show (un + 3 + 120) < cLine; omega)))
    intro h6 tk6 F6 N6
    k_steps
    · exfalso; omega
    rename Fr _ _ _ _ => F7
    rename News _ _ _ _ => N7
    exact ⟨_, _, _, _, rfl, F7, news_out [(D', o'), (x, subObj 68 dx vs n), (dx, attrD w.params t1 t2 true D' k), (md, W.listOf us ku), (gn, W.listOf gs kg)] N7, hoff, rfl, rfl, rfl, rfl⟩
  case done =>
    rintro m₁ nx h2 tk2 ⟨h1, h2, h3, rfl⟩ hoff F2 N2
    have F3 := fr_as F2 (map_three h1 h2 h3)
    clear F2 h1 h2 h3
    k_steps
    refine ⟨?_⟩
    rename Fr _ _ _ _ => F1
    with_unfolding_all refine forF (fr_star (c := L) F1) (by exact rfl) (by exact rfl) ?_
    k_steps
    refine ⟨?_⟩
    rename Fr _ _ _ _ => F1
    rename Fr h₀ L _ _ => kFG
    rename Below _ _ _ _ => kB
    rename KtsDicts _ _ => kD
    obtain ⟨oL, hg⟩ := fr_get kFG
    have hLn : ∀ p ∈ (D', o') :: (x, subObj 68 dx vs n) :: (dx, attrD w.params t1 t2 true D' k) :: (md, W.listOf us ku) :: (gn, W.listOf gs kg) :: rest, p.1 ≠ L := fun p hp q => by
      have := (N2 p hp).2.2
      rw [q, hg] at this; cases this
    refine loop_seq (items := gs) (k := kg) (o := W.listOf gs kg) (l := gn) (news := (L, oL) :: (D', o') :: (x, subObj 68 dx vs n) :: (dx, attrD w.params t1 t2 true D' k) :: (md, W.listOf us ku) :: (gn, W.listOf gs kg) :: rest)
      (fun i m' nx => m' (Str.ofString "many") = some (.ref x) ∧ m' (Str.ofString "model") = some (.ref md) ∧ ∃ sl : Array (Option Value), nx = (L, { oL with slots := sl }) :: (D', o') :: (x, subObj 68 dx vs n) :: (dx, attrD w.params t1 t2 true D' k) :: (md, W.listOf us ku) :: (gn, W.listOf gs kg) :: rest)
      rfl rfl (by simp) (fr_star (c := L) F1) (news_star F1 N2 hg) ⟨rfl, rfl, oL.slots, rfl⟩ ?keep2 ?py2 ?turn2 ?done2
    case keep2 => rintro i m' nx ⟨-, -, sl, rfl⟩; simp
    case py2 => exact fun {_} h => wpAny_pyIter_list ⟨_, (N2 (gn, W.listOf gs kg) (by simp)).1, rfl, kg, rfl⟩ h
    case turn2 =>
      rintro i v m₁ nx h2 tk2 oI hv ⟨h1, h2, sl, rfl⟩ hoff F2 N2
      obtain ⟨y, ty, rfl, hy⟩ := ia_at hG hv
      have hfy : f y = none := I2.2 y (hd y (List.mem_of_getElem? hy))
      have N3 := news_in [(L, { oL with slots := sl }), (D', o'), (x, subObj 68 dx vs n), (dx, attrD w.params t1 t2 true D' k), (md, W.listOf us ku), (gn, W.listOf gs kg)] N2
      simp only [List.cons_append, List.nil_append] at N3
      obtain ⟨g2, T2, F3, N3, B3⟩ := star_back kB hg F2 N3 (fun p hp => by
        simp only [List.mem_cons] at hp
        rcases hp with h | h | h | h | h | h | h
        · exact hLn p (by simp [h])
        · exact hLn p (by simp [h])
        · exact hLn p (by simp [h])
        · exact hLn p (by simp [h])
        · exact hLn p (by simp [h])
        · rw [h]; exact (hoff _ (.head _)).symm
        · exact hLn p (by simp [h])) rfl
      have D3 := kD.turn T2
      have X3 := XB.keeps B3.stays
      have T3 := TB.keeps B3.stays
      have F3 := fr_as F3 (in_two h1 h2)
      clear F2 N2 h1 h2
      k_steps
      refine ⟨?_⟩
      refine wpAny_call ?_
      k_dflt ktr_enter
      k_steps
      (refine ⟨?_⟩; k_dflt (refine' (contains_spec (D := D') (k := k) (vs := vs) (n := n)) ?cB_5 ?cF_5 ?cX_5 ?cT_5 ?chk_5 ?chdp_5 ?chun_5 ?cN_5 M2 lo2 ?_; (case cB_5 => k_asm); (case cF_5 => k_asm); (case cX_5 => k_asm); (case cT_5 => k_asm); (case cN_5 => k_asm); (case chk_5 => exact rfl); (case chdp_5 => show (dp + 2 + 4) < recursionLimit; omega); (case chun_5 => show (un + 6 + 110) < cLine; omega)))
      intro h4 tk4 F4 N4
      rw [hfy]
      refine ⟨false, rfl, ?_⟩
      k_steps
      (refine ⟨?_⟩; k_dflt (refine' (contains_spec (D := D') (k := k) (vs := vs) (n := n)) ?cB_6 ?cF_6 ?cX_6 ?cT_6 ?chk_6 ?chdp_6 ?chun_6 ?cN_6 M2 lo2 ?_; (case cB_6 => k_asm); (case cF_6 => k_asm); (case cX_6 => k_asm); (case cT_6 => k_asm); (case cN_6 => k_asm); (case chk_6 => exact rfl); (case chdp_6 => show (dp + 1 + 4) < recursionLimit; omega); (case chun_6 => show (un + 3 + 110) < cLine; omega)))
      intro h5 tk5 F5 N5
      rw [hfy]
      refine ⟨false, rfl, ?_⟩
      k_steps
      rename Fr _ _ _ _ => F7
      rename News _ _ _ _ => N7
      rename KtsTurn _ _ _ => T7
      obtain ⟨F8, sl8, N8⟩ := star_on T7 hg F7 N7
      exact ⟨_, _, _, _, rfl, F8, news_out [(L, { oL with slots := sl8 }), (D', o'), (x, subObj 68 dx vs n), (dx, attrD w.params t1 t2 true D' k), (md, W.listOf us ku), (gn, W.listOf gs kg)] N8, (fun p hp => by
        rcases List.mem_cons.mp hp with h | h
        · have := hoff (L, { oL with slots := sl }) (.head _)
          rw [h]; exact this
        · exact hoff p (.tail _ h)), rfl, rfl, sl8, rfl⟩
    case done2 =>
      rintro m₁ nx h2 tk2 ⟨h1, h2, sl, rfl⟩ hoff F2 N2
      obtain ⟨g2, T2, F3, N3, B3⟩ := star_back kB hg F2 N2 hLn rfl
      have D3 := kD.turn T2
      have X3 := XB.keeps B3.stays
      have T3 := TB.keeps B3.stays
      have F3 := fr_as F3 (map_two h1 h2)
      clear F2 N2 h1 h2
      k_steps
      rename Fr h₀ _ _ _ => kF
      rename News h₀ _ _ _ => kN
      exact ret _ _ _ _ _ kF (fun p hp => kN p (.tail _ hp)) M2 I2 lo2 lD2
end
end Mine
end PZ

section PD1
namespace Mine
theorem top_off_D1 : True := by
  w_top off
  trivial
end Mine
set_option maxRecDepth 100000
set_option maxHeartbeats 8000000
namespace Mine
local macro_rules | `(tactic| k_inst) => `(tactic| (refine' inst_of_news ?N ?h1 ?h2; (case N => k_asm); (case h1 => k_mem); (case h2 => k_mem)))
local macro_rules | `(tactic| k_all) => `(tactic| first | assumption | exact allNe_all (by assumption) | exact allLt_ne (by assumption) | exact allLt_ne (And.right (by assumption)) | exact allLt_ne (And.right (And.right (by assumption))) | exact allLt_ne (And.right (And.right (And.right (by assumption)))) | exact allLt_ne (And.right (And.right (And.right (And.right (by assumption))))))
local macro_rules | `(tactic| walk_at "setAttr ref") => `(tactic| (k_here; k_dflt (refine' setL_dict ?k1 ?k2 ?k3 ?k4 ?k5 ?k6 ?k7 ?k8 ?k9 ?k10 ?k11 ?k12 ?k13 ?_; (case k1 => k_asm); (case k2 => k_asm); (case k3 => k_asm); (case k4 => k_inst); (case k5 => exact rfl); (case k6 => k_is); (case k7 => exact mroC _); (case k8 => k_is); (case k9 => k_is); (case k10 => k_get); (case k11 => k_put); (case k12 => k_upd); (case k13 => exact Nat.le_of_ble_eq_true rfl); k_whole; intro h' F' N'; (try k_sweep))))
local macro_rules | `(tactic| walk_at "setAttr ref") => `(tactic| (k_here; (first | ((with_reducible show wpAny _ _ (setAttr (Value.ref _) (Str.ofString "_dict") _) _ _ _); k_dflt (refine' set_d ?k1 ?k2 ?k3 ?k4 ?k5 ?k6 ?k7 ?k8 ?k9 ?_)) | ((with_reducible show wpAny _ _ (setAttr (Value.ref _) (Str.ofString "clean") _) _ _ _); k_dflt (refine' set_c ?k1 ?k2 ?k3 ?k4 ?k5 ?k6 ?k7 ?k8 ?k9 ?_))); (case k1 => k_asm); (case k2 => k_asm); (case k3 => k_asm); (case k4 => k_mem); (case k5 => k_dflt k_is); (case k6 => exact mroC _); (case k7 => k_dflt k_is); (case k8 => k_dflt k_is); (case k9 => k_dflt k_upd); k_whole; intro h' F' N'; (try k_sweep)))
local macro_rules | `(tactic| walk_at "eval Dict nil nil") => `(tactic| (k_here; k_dflt (refine' new_dictK ?k1 ?k2 (TopRead.nolimit (by k_asm)) ?_; (case k1 => k_asm); (case k2 => k_asm); k_whole); intro d' h' F' N' l1 lo'; (try k_lt l1); (try k_sweep)))
local macro_rules | `(tactic| walk_at "exec For Name Name cons nil") => `(tactic| (refine Stop.out ?_))
local macro_rules | `(tactic| walk_at "exec For Name Call cons nil") => `(tactic| (refine Stop.out ?_))
local macro_rules | `(tactic| walk_at "exec For Tuple Call cons nil") => `(tactic| (refine Stop.out ?_))
local macro_rules | `(tactic| walk_at "pyIter ref") => `(tactic| ((with_reducible show wpAny _ _ (pyIter (Value.ref _)) (fun it s₂ => LoopAtV _ _ _ _ _ _ _ _ _ it s₂) _ _); refine Stop.out ?_))
local macro_rules | `(tactic| walk_at "compareOp NotIn int ref") => `(tactic| (k_here; k_dflt ((first | refine' dm_notin_t ?k1 ?k2 ?k3 ?k4 ?k5 ?_; (case k1 => k_asm); (case k2 => k_mem); (case k3 => assumption); (case k4 => assumption); (case k5 => assumption) | refine' dm_notin_f ?k1 ?k2 ?k3 ?k4 ?k5 ?_; (case k1 => k_asm); (case k2 => k_mem); (case k3 => assumption); (case k4 => assumption); (case k5 => assumption)))))
local macro_rules | `(tactic| walk_at "compareOp In int ref") => `(tactic| (k_here; k_dflt ((first | refine' dm_in_t ?k1 ?k2 ?k3 ?k4 ?k5 ?_; (case k1 => k_asm); (case k2 => k_mem); (case k3 => assumption); (case k4 => assumption); (case k5 => assumption) | refine' dm_in_f ?k1 ?k2 ?k3 ?k4 ?k5 ?_; (case k1 => k_asm); (case k2 => k_mem); (case k3 => assumption); (case k4 => assumption); (case k5 => assumption)))))
local macro_rules | `(tactic| walk_at "setItem ref int") => `(tactic| (k_here; k_dflt (refine' dm_set ?k1 ?k2 ?k3 ?k4 ?k5 ?_; (case k1 => k_asm); (case k2 => k_asm); (case k3 => k_updF); (case k4 => assumption); (case k5 => omega); k_whole); intro o' h' F' N' x'; (try dsimp only at N'); (try k_sweep)))
local macro_rules | `(tactic| walk_at "getAttr ref") => `(tactic| (k_here; (first | ((with_reducible show wpAny _ _ (getAttr (Value.ref _) (Str.ofString "_dict") _) _ _ _); k_dflt (refine' getA_d ?k1 ?k2 ?k3 ?k4 ?k5 ?k6 ?k7 ?k8 ?k9 ?k10 ?k11 ?_)) | ((with_reducible show wpAny _ _ (getAttr (Value.ref _) (Str.ofString "clean") _) _ _ _); k_dflt (refine' getA_c ?k1 ?k2 ?k3 ?k4 ?k5 ?k6 ?k7 ?k8 ?k9 ?k10 ?k11 ?_))); (case k1 => k_asm); (case k2 => k_asm); (case k3 => k_asm); (case k4 => k_mem); (case k5 => k_mem); (case k6 => exact mroC _); (case k7 => k_dflt k_is); (case k8 => k_dflt k_is); (case k9 => k_dflt k_is); (case k10 => k_dflt k_is); (case k11 => k_dflt k_is); k_whole))
local macro_rules | `(tactic| walk_at "getMethod ref") => `(tactic| (k_here; k_dflt (refine' methA ?k1 ?k2 ?k3 ?k4 ?k5 ?k6 ?k7 ?k8 ?k9 ?k10 ?k11 ?_; (case k1 => k_asm); (case k2 => k_asm); (case k3 => k_asm); (case k4 => k_mem); (case k5 => k_mem); (case k6 => k_is); (case k7 => k_is); (case k8 => k_is); (case k9 => k_is); (case k10 => decide); (case k11 => k_get); k_whole)))
local macro_rules | `(tactic| walk_at "compareOp In int ref") => `(tactic| (k_here; k_dflt (refine' in_own ?k1 ?k2 ?k3 ?k4 ?k5 ?k6 ?_; (case k1 => k_asm); (case k2 => k_asm); (case k3 => k_asm); (case k4 => k_mem); (case k5 => k_is); (case k6 => k_is); k_whole)))
local macro_rules | `(tactic| walk_at "compareOp NotIn int ref") => `(tactic| (k_here; k_dflt (refine' notin_own ?k1 ?k2 ?k3 ?k4 ?k5 ?k6 ?_; (case k1 => k_asm); (case k2 => k_asm); (case k3 => k_asm); (case k4 => k_mem); (case k5 => k_is); (case k6 => k_is); k_whole)))
local macro_rules | `(tactic| walk_at "compareOp In int ref") => `(tactic| (k_here; k_dflt (refine' dm_in ?k1 ?k2 ?k3 ?k4 ?_; (case k1 => k_asm); (case k2 => k_mem); (case k3 => assumption); (case k4 => assumption))))
local macro_rules | `(tactic| walk_at "compareOp In int ref") => `(tactic| (k_here; k_dflt (first | refine' dm_in_t ?k1 ?k2 ?k3 ?k4 ?k5 ?_; (case k1 => k_asm); (case k2 => k_mem); (case k3 => assumption); (case k4 => assumption); (case k5 => assumption) | refine' dm_in_f ?k1 ?k2 ?k3 ?k4 ?k5 ?_; (case k1 => k_asm); (case k2 => k_mem); (case k3 => assumption); (case k4 => assumption); (case k5 => assumption))))
local macro_rules | `(tactic| walk_at "compareOp NotIn int ref") => `(tactic| (k_here; k_dflt (first | refine' dm_notin_t ?k1 ?k2 ?k3 ?k4 ?k5 ?_; (case k1 => k_asm); (case k2 => k_mem); (case k3 => assumption); (case k4 => assumption); (case k5 => assumption) | refine' dm_notin_f ?k1 ?k2 ?k3 ?k4 ?k5 ?_; (case k1 => k_asm); (case k2 => k_mem); (case k3 => assumption); (case k4 => assumption); (case k5 => assumption))))
local macro_rules | `(tactic| walk_at "subscriptTail") => `(tactic| (k_here; (with_reducible show wpAny _ _ (subscriptTail _ _ (Value.ref _) (Value.int _ _)) _ _ _); k_dflt (refine' dm_tail ?k1 ?k2 ?k3 ?k4 ?_; (case k1 => k_asm); (case k2 => k_mem); (case k3 => assumption); (case k4 => assumption))))
local macro_rules | `(tactic| walk_at "call ref") => `(tactic| ((first | (with_reducible show wpAny _ _ (call (Value.ref 37) _) _ _ _) | (with_reducible show wpAny _ _ (call (Value.ref 44) _) _ _ _) | (with_reducible show wpAny _ _ (call (Value.ref 51) _) _ _ _) | (with_reducible show wpAny _ _ (call (Value.ref 58) _) _ _ _) | (with_reducible show wpAny _ _ (call (Value.ref 65) _) _ _ _) | (with_reducible show wpAny _ _ (call (Value.ref 68) _) _ _ _) | (with_reducible show wpAny _ _ (call (Value.ref 79) _) _ _ _) | (with_reducible show wpAny _ _ (call (Value.ref 86) _) _ _ _) | (with_reducible show wpAny _ _ (call (Value.ref 93) _) _ _ _)); refine Stop.out ?_))
local macro_rules | `(tactic| walk_at "call builtin:len") => `(tactic| (k_here; (with_reducible show wpAny _ _ (call (Value.builtin "len") [Value.ref _]) _ _ _); k_dflt (refine' ll_len ?Y ?N ?hx ?hz ?_; (case N => k_asm); (case hx => k_mem); (case Y => (first | exact ll_own (by k_asm) (by k_asm) (by k_asm) (by k_mem) (mroC _) (by k_is) (by k_is) (by k_is) (by k_is) | exact ll_list (by k_asm) (by k_mem))); (case hz => first | omega | (simp only [Array.size_push]; omega)))))
local macro_rules | `(tactic| walk_at "call builtin:list.append") => `(tactic| (k_here; (with_reducible show wpAny _ _ (call (Value.builtin _) [Value.ref _, _]) _ _ _); k_dflt (refine' l_append ?F ?N ?hi ?U ?hz ?_; (case F => k_asm); (case N => k_asm); (case U => (intro k'; k_upd)); (case hi => first | exact is_news (by k_asm) (by k_asm) (by k_asm) (by k_mem) (mroC _) | exact is_list (by k_asm) (by k_mem)); (case hz => first | omega | (simp only [Array.size_push]; omega)); k_whole); intro k' h' F' N'; (try dsimp only at N'); (try k_sweep)))
local macro_rules | `(tactic| walk_at "getMethod type:list") => `(tactic| (k_here; refine' method_type ?F ?X ?m (by decide +kernel) ?e ?h ?_; (case F => k_asm); (case X => k_asm); (case m => exact meta_of_list); (case e => k_dflt k_is); (case h => k_handed)))
local macro_rules | `(tactic| walk_at "call type:enumerate") => `(tactic| (refine Stop.out ?_))
local macro_rules | `(tactic| ktr_enter) => `(tactic| (refine' code_def ?k1 ?k2 ?k3 ?k4 ?k5 ?kA ?kF ?kK ?k6 ?k7 ?k8 ?k9 ?kB ?_ ?c2 ?c3 ?c4 ?c5; (case kA => exact rfl); (case kF => exact rfl); (case kK => first | assumption | exact rfl); (case k1 => k_asm); (case k2 => k_asm); (case k3 => k_asm); (case k4 => k_asm); (case k5 => k_asm); (case k6 => k_is); (case k7 => k_is); (case k8 => ktr_room); (case k9 => first | exact BindsTo.of_eq rfl | exact binds_K (by k_in) rfl (by k_is) rfl rfl rfl); (case c5 => decide); (case kB => exact locs rfl); (case c2 => exact rfl); (case c3 => exact rfl); (case c4 => exact rfl); k_whole; intro g' L' h' FG' F' N' B' X' T'; (try dsimp only); (try k_fold)))
local macro_rules | `(tactic| walk_at "call type:list") => `(tactic| (k_here; (with_reducible show wpAny _ _ (call (Value.type "list") [Value.ref _]) _ _ _); k_dflt (refine' l_copy ?hh ?F ?X ?N ?hx ?hz (mroC _) ?h0 ?h1 ?h2 ?h3 ?h4 ?_; (case hh => exact rfl); (case F => k_asm); (case X => k_asm); (case N => k_asm); (case hx => k_mem); (case hz => omega); (case h0 => k_is); (case h1 => k_is); (case h2 => k_is); (case h3 => k_is); (case h4 => k_is); k_whole); intro l9 k9 h' tk9 F' N' lt9; (try k_sweep)))
local macro_rules | `(tactic| walk_at "subscriptTail") => `(tactic| (k_here; (with_reducible show wpAny _ _ (subscriptTail _ _ (Value.ref _) (Value.int _ _)) _ _ _); k_dflt (refine' li_tail ?k1 ?k2 ?k3 ?k4 ?_; (case k1 => k_asm); (case k2 => k_mem); (case k3 => assumption); (case k4 => omega))))
local macro_rules | `(tactic| walk_at "exec Raise some none") => `(tactic| (k_here; (with_reducible show wpAny _ _ (exec (Stmt.Raise (some (Expr.Name ("ValueError" : Str) _)) none _) _) _ _ _); (with_reducible rename Fr _ _ _ _ => kF); k_dflt (refine' raise_VE ?hh ?hs ?hx ?_; (case hh => rfl); (case hs => rw [isSubtype_type]; kernel_rfl); (case hx => (refine' name_B kF ?k1 ?k2 ?k3 ?k4 ?k5 ?_; (case k1 => k_asm); (case k2 => k_asm); (case k3 => k_is); (case k4 => boot_by_name); (case k5 => decide); exact ⟨rfl, rfl⟩)))))
local macro_rules | `(tactic| walk_at "my ask") => `(tactic| ((refine' code_ask ?k1 ?k2 ?k3 ?k4 ?k5 ?kA ?kF ?cK ?k6 ?k7 ?k8 ?k9 ?kB ?_ ?c2 ?c3 ?c4 ?c5; (case kA => exact rfl); (case kF => exact rfl); (case k2 => k_asm); (case k1 => k_asm); (case k3 => k_asm); (case k4 => k_asm); (case k5 => k_asm); (case k6 => k_is); (case k7 => k_is); (case k8 => ktr_room); (case k9 => first | exact BindsTo.of_eq rfl | exact binds_K (by k_in) rfl (by k_is) rfl rfl rfl); (case kB => exact locs rfl); (case cK => first | assumption | exact rfl); (case c2 => exact rfl); (case c3 => exact rfl); (case c4 => exact rfl); (case c5 => decide); k_whole; intro g' L' h' FG' F' N' B' X' T' D'; (try dsimp only); (try k_lift B'); (try k_fold))))
local macro_rules | `(tactic| walk_at "call builtin:list.insert") => `(tactic| (k_here; (with_reducible show wpAny _ _ (call (Value.builtin _) [Value.ref _, Value.int _ _, _]) _ _ _); k_dflt (refine' l_insert ?F ?N ?hi ?U ?hz ?h0 ?hn ?_; (case F => k_asm); (case N => k_asm); (case U => (intro k'; k_upd)); (case hi => (first | exact is_news (by k_asm) (by k_asm) (by k_asm) (by k_mem) (mroC _) | exact is_list (by k_asm) (by k_mem))); (case hz => omega); (case h0 => omega); (case hn => omega); k_whole); intro k' h' F' N'; (try dsimp only at N'); (try k_sweep)))
local macro_rules | `(tactic| walk_at "call builtin:list.extend") => `(tactic| (k_here; (with_reducible show wpAny _ _ (call (Value.builtin _) [Value.ref _, Value.ref _]) _ _ _); k_dflt (refine' l_extend ?F ?N ?hi ?hb ?U ?hz ?_; (case F => k_asm); (case N => k_asm); (case hb => k_mem); (case U => (intro k'; k_upd)); (case hi => (first | exact is_news (by k_asm) (by k_asm) (by k_asm) (by k_mem) (mroC _) | exact is_list (by k_asm) (by k_mem))); (case hz => (first | omega | (simp only [List.size_toArray, List.length_cons, List.length_nil]; omega))); k_whole); intro k' h' F' N'; (try dsimp only at N'); (try k_sweep)))
local macro_rules | `(tactic| walk_at "call builtin:list.reverse") => `(tactic| (k_here; (with_reducible show wpAny _ _ (call (Value.builtin _) [Value.ref _]) _ _ _); k_dflt (refine' l_reverse ?F ?N ?hi ?U ?hz ?_; (case F => k_asm); (case N => k_asm); (case U => (intro k'; k_upd)); (case hi => (first | exact is_news (by k_asm) (by k_asm) (by k_asm) (by k_mem) (mroC _) | exact is_list (by k_asm) (by k_mem))); (case hz => omega); k_whole); intro k' h' F' N'; (try dsimp only at N'); (try k_sweep)))
local macro_rules | `(tactic| walk_at "call builtin:list.sort") => `(tactic| (k_here; (with_reducible show wpAny _ _ (call (Value.builtin _) [Value.ref _]) _ _ _); k_dflt (refine' l_sort ?F ?N ?hi ?U ?hI ?h64 ?_; (case F => k_asm); (case N => k_asm); (case U => k_updF); (case hi => (first | exact is_news (by k_asm) (by k_asm) (by k_asm) (by k_mem) (mroC _) | exact is_list (by k_asm) (by k_mem))); (case hI => assumption); (case h64 => omega); k_whole); intro out ns' k' h' iI iP iS F' N'; (try dsimp only at N'); (try k_sweep)))
local macro_rules | `(tactic| walk_at "call builtin:list.pop") => `(tactic| (k_here; (with_reducible show wpAny _ _ (call (Value.builtin _) [Value.ref _, Value.int _ _]) _ _ _); k_dflt (refine' l_pop ?F ?N ?hi ?U ?hz ?h0 ?hv ?_; (case F => k_asm); (case N => k_asm); (case U => (intro k'; k_upd)); (case hi => (first | exact is_news (by k_asm) (by k_asm) (by k_asm) (by k_mem) (mroC _) | exact is_list (by k_asm) (by k_mem))); (case hz => omega); (case h0 => omega); (case hv => assumption); k_whole); intro k' h' F' N'; (try dsimp only at N'); (try k_sweep)))
local macro_rules | `(tactic| walk_at "call builtin:list.remove") => `(tactic| (k_here; (with_reducible show wpAny _ _ (call (Value.builtin _) [Value.ref _, Value.int _ _]) _ _ _); k_dflt (refine' l_remove ?F ?N ?hi ?U ?hz ?hI ?hj ?hno ?_; (case F => k_asm); (case N => k_asm); (case U => (intro k'; k_upd)); (case hI => assumption); (case hj => assumption); (case hno => assumption); (case hi => (first | exact is_news (by k_asm) (by k_asm) (by k_asm) (by k_mem) (mroC _) | exact is_list (by k_asm) (by k_mem))); (case hz => omega); k_whole); intro k' h' F' N'; (try dsimp only at N'); (try k_sweep)))
local macro_rules | `(tactic| walk_at "delItem ref int") => `(tactic| (k_here; k_dflt (refine' ll_del ?Y ?F ?N ?U ?hz ?h0 ?hn ?_; (case F => k_asm); (case N => k_asm); (case U => (intro k'; k_upd)); (case Y => (first | exact ll_own (by k_asm) (by k_asm) (by k_asm) (by k_mem) (mroC _) (by k_is) (by k_is) (by k_is) (by k_is) | exact ll_list (by k_asm) (by k_mem))); (case hz => omega); (case h0 => omega); (case hn => omega); k_whole); intro k' h' F' N'; (try dsimp only at N'); (try k_sweep)))
local macro_rules | `(tactic| walk_at "setItem ref ref") => `(tactic| (k_here; k_dflt (refine' set_slice_p ?F ?N ?he ?hs ?hq ?hb ?hab ?Y ?U ?hz ?h0 ?hn ?_; (case F => k_asm); (case N => k_asm); (case he => exact rfl); (case hs => exact rfl); (case hq => exact rfl); (case hb => k_mem); (case hab => k_ne); (case Y => (intro s' F' N'; (first | exact ll_own (by k_asm) (by k_asm) (by k_asm) (by k_mem) (mroC _) (by k_is) (by k_is) (by k_is) (by k_is) | exact ll_list (by k_asm) (by k_mem)))); (case U => (intro k'; k_upd)); (case hz => (first | omega | (simp only [List.size_toArray, List.length_cons, List.length_nil]; omega))); (case h0 => omega); (case hn => omega); k_whole); intro k' h' F' N'; (try dsimp only at N'); (try k_sweep)))
local macro_rules | `(tactic| walk_at "pad 0") => `(tactic| skip)
local macro_rules | `(tactic| walk_at "pad 1") => `(tactic| skip)
local macro_rules | `(tactic| walk_at "pad 2") => `(tactic| skip)
local macro_rules | `(tactic| walk_at "pad 3") => `(tactic| skip)
local macro_rules | `(tactic| walk_at "pad 4") => `(tactic| skip)
local macro_rules | `(tactic| walk_at "pad 5") => `(tactic| skip)
local macro_rules | `(tactic| walk_at "pad 6") => `(tactic| skip)
local macro_rules | `(tactic| walk_at "pad 7") => `(tactic| skip)
local macro_rules | `(tactic| walk_at "pad 8") => `(tactic| skip)
local macro_rules | `(tactic| walk_at "pad 9") => `(tactic| skip)
local macro_rules | `(tactic| walk_at "pad 10") => `(tactic| skip)
local macro_rules | `(tactic| walk_at "pad 11") => `(tactic| skip)
local macro_rules | `(tactic| walk_at "pad 12") => `(tactic| skip)
local macro_rules | `(tactic| walk_at "pad 13") => `(tactic| skip)
local macro_rules | `(tactic| walk_at "pad 14") => `(tactic| skip)
local macro_rules | `(tactic| walk_at "pad 15") => `(tactic| skip)
local macro_rules | `(tactic| walk_at "pad 16") => `(tactic| skip)
local macro_rules | `(tactic| walk_at "pad 17") => `(tactic| skip)
local macro_rules | `(tactic| walk_at "pad 18") => `(tactic| skip)
local macro_rules | `(tactic| walk_at "pad 19") => `(tactic| skip)
local macro_rules | `(tactic| walk_at "pad 20") => `(tactic| skip)
local macro_rules | `(tactic| walk_at "pad 21") => `(tactic| skip)
local macro_rules | `(tactic| walk_at "pad 22") => `(tactic| skip)
local macro_rules | `(tactic| walk_at "pad 23") => `(tactic| skip)
local macro_rules | `(tactic| walk_at "pad 24") => `(tactic| skip)
local macro_rules | `(tactic| walk_at "pad 25") => `(tactic| skip)
local macro_rules | `(tactic| walk_at "pad 26") => `(tactic| skip)
local macro_rules | `(tactic| walk_at "pad 27") => `(tactic| skip)
local macro_rules | `(tactic| walk_at "pad 28") => `(tactic| skip)
local macro_rules | `(tactic| walk_at "pad 29") => `(tactic| skip)
local macro_rules | `(tactic| walk_at "pad 30") => `(tactic| skip)
local macro_rules | `(tactic| walk_at "pad 31") => `(tactic| skip)
local macro_rules | `(tactic| walk_at "pad 32") => `(tactic| skip)
local macro_rules | `(tactic| walk_at "pad 33") => `(tactic| skip)
local macro_rules | `(tactic| walk_at "pad 34") => `(tactic| skip)
local macro_rules | `(tactic| walk_at "pad 35") => `(tactic| skip)
local macro_rules | `(tactic| walk_at "pad 36") => `(tactic| skip)
local macro_rules | `(tactic| walk_at "pad 37") => `(tactic| skip)
local macro_rules | `(tactic| walk_at "pad 38") => `(tactic| skip)
section
variable {w : World} {p : Program} {loose : List Str} {mean : ExcName → Option Value} {mg mb : Str → Option Value}
  {dp un : Nat} {gd : Option (List Code)} {cn : Str} {cs : Scope} {ca : Addr} {ccd : Value} {cl : List (Str × Addr)} {outer : List Env} {A₀ : Around} {base h₀ : Heap} {L : Addr} {m : Str → Option Value} {s : Shared} {Q E : Value → Shared → Prop}

theorem deed_0 {x dx D md gn : Addr} {o : Obj} {vs us gs : Array Value} {n k ku kg : Nat} {t1 t2 td tn tf : Tok} {nu z : Int} {f : Int → Option Value} {ns qs : List Int} {rest : List (Addr × Obj)}
    (B : Below A₀ base outer h₀) (F : Fr h₀ L s.heap m) (X : (hd.heap_39 w.params).In h₀) (T : Top p loose mean mg mb h₀) (hk : cs.kind = .function) (hdp : dp + 8 < recursionLimit) (hun : un + 140 < cLine)
    (N : News h₀ L s.heap ((D, o) :: (x, subObj 68 dx vs n) :: (dx, attrD w.params t1 t2 true D k) :: (md, W.listOf us ku) :: (gn, W.listOf gs kg) :: rest))
    (hM : DM PySem.Challenge.rw_aq6060_01.row.prog w o f ns.length) (hf : Idx f ns) (hD : (D == sysModules) = false)
    (l1 : @Ne Nat x dx) (l2 : @Ne Nat x md) (l3 : @Ne Nat x gn) (l4 : @Ne Nat dx md) (l5 : @Ne Nat dx gn) (l6 : @Ne Nat md gn) (l7 : AllNe x rest) (l8 : AllNe dx rest) (l9 : AllNe md rest) (l10 : AllNe gn rest)
    (l11 : @Ne Nat D x) (l12 : @Ne Nat D dx) (l13 : @Ne Nat D md) (l14 : @Ne Nat D gn) (l15 : AllNe D rest)
    (hI : IntsAre vs.toList ns) (hU : IntsAre us.toList ns) (hG : IntsAre gs.toList qs) (hz : ns.length ≤ 50) (hq : qs.length ≤ 50) (hn : ns.Nodup) (hd : ∀ y ∈ qs, y ∉ ns) (hzn : z ∉ ns) (hzq : z ∉ qs) (hu0 : 0 ≤ nu)
    (ret : ∀ o' vs' n' us' ku' gs' kg' ns' qs' h' tk', Fr h₀ L h' m → News h₀ L h' ((D, o') :: (x, subObj 68 dx vs' n') :: (dx, attrD w.params t1 t2 true D k) :: (md, W.listOf us' ku') :: (gn, W.listOf gs' kg') :: rest) →
      IntsAre vs'.toList ns' → IntsAre us'.toList ns' → IntsAre gs'.toList qs' → StepR ns qs z ns' qs' → Q (.bool true) { s with heap := h', toks := tk' }) :
    wpAny (model PySem.Challenge.rw_aq6060_01.row.prog w) (ktrTop dp un gd cn cs L ca ccd cl outer) (call (.ref 86) [.ref x, .ref md, .ref gn, .int 0 td, .int nu tn, .int z tf]) Q E s := by
  have hvz := ia_size hI
  have huz := ia_size hU
  have hgz := ia_size hG
  obtain ⟨hp0, hp1⟩ := fmod_bounds hu0 (show (0 : Int) < ((us.size : Nat) : Int) + 1 by omega)
  have hpn : (nu.fmod (((us.size : Nat) : Int) + 1)).toNat ≤ ns.length := by omega
  refine wpAny_call ?_
  k_dflt ktr_enter
  k_steps
  rename Fr h₀ _ _ _ => kF
  rename News h₀ _ _ _ => kN
  exact ret _ _ _ _ _ _ _ _ _ _ _ kF kN (ia_insert hI _ _ _) (ia_insert hU _ _ _) hG (step_new hn hd hzn hzq (perm_insert1 _))

theorem deed_1 {x dx D md gn : Addr} {o : Obj} {vs us gs : Array Value} {n k ku kg : Nat} {t1 t2 td tn tf : Tok} {nu z : Int} {f : Int → Option Value} {ns qs : List Int} {rest : List (Addr × Obj)}
    (B : Below A₀ base outer h₀) (F : Fr h₀ L s.heap m) (X : (hd.heap_39 w.params).In h₀) (T : Top p loose mean mg mb h₀) (hk : cs.kind = .function) (hdp : dp + 8 < recursionLimit) (hun : un + 140 < cLine)
    (N : News h₀ L s.heap ((D, o) :: (x, subObj 68 dx vs n) :: (dx, attrD w.params t1 t2 true D k) :: (md, W.listOf us ku) :: (gn, W.listOf gs kg) :: rest))
    (hM : DM PySem.Challenge.rw_aq6060_01.row.prog w o f ns.length) (hf : Idx f ns) (hD : (D == sysModules) = false)
    (l1 : @Ne Nat x dx) (l2 : @Ne Nat x md) (l3 : @Ne Nat x gn) (l4 : @Ne Nat dx md) (l5 : @Ne Nat dx gn) (l6 : @Ne Nat md gn) (l7 : AllNe x rest) (l8 : AllNe dx rest) (l9 : AllNe md rest) (l10 : AllNe gn rest)
    (l11 : @Ne Nat D x) (l12 : @Ne Nat D dx) (l13 : @Ne Nat D md) (l14 : @Ne Nat D gn) (l15 : AllNe D rest)
    (hI : IntsAre vs.toList ns) (hU : IntsAre us.toList ns) (hG : IntsAre gs.toList qs) (hz : ns.length ≤ 50) (hq : qs.length ≤ 50) (hn : ns.Nodup) (hd : ∀ y ∈ qs, y ∉ ns) (hzn : z ∉ ns) (hzq : z ∉ qs) (hu0 : 0 ≤ nu)
    (ret : ∀ o' vs' n' us' ku' gs' kg' ns' qs' h' tk', Fr h₀ L h' m → News h₀ L h' ((D, o') :: (x, subObj 68 dx vs' n') :: (dx, attrD w.params t1 t2 true D k) :: (md, W.listOf us' ku') :: (gn, W.listOf gs' kg') :: rest) →
      IntsAre vs'.toList ns' → IntsAre us'.toList ns' → IntsAre gs'.toList qs' → StepR ns qs z ns' qs' → Q (.bool true) { s with heap := h', toks := tk' }) :
    wpAny (model PySem.Challenge.rw_aq6060_01.row.prog w) (ktrTop dp un gd cn cs L ca ccd cl outer) (call (.ref 86) [.ref x, .ref md, .ref gn, .int 1 td, .int nu tn, .int z tf]) Q E s := by
  have hvz := ia_size hI
  have huz := ia_size hU
  have hgz := ia_size hG
  refine wpAny_call ?_
  k_dflt ktr_enter
  k_steps
  rename Fr h₀ _ _ _ => kF
  rename News h₀ _ _ _ => kN
  exact ret _ _ _ _ _ _ _ _ _ _ _ kF (fun p hp => kN p (.tail _ (.tail _ hp))) (ia_cat1 hI _ _) (ia_cat1 hU _ _) hG (step_new hn hd hzn hzq perm_push)

theorem deed_2 {x dx D md gn : Addr} {o : Obj} {vs us gs : Array Value} {n k ku kg : Nat} {t1 t2 td tn tf : Tok} {nu z : Int} {f : Int → Option Value} {ns qs : List Int} {rest : List (Addr × Obj)}
    (B : Below A₀ base outer h₀) (F : Fr h₀ L s.heap m) (X : (hd.heap_39 w.params).In h₀) (T : Top p loose mean mg mb h₀) (hk : cs.kind = .function) (hdp : dp + 8 < recursionLimit) (hun : un + 140 < cLine)
    (N : News h₀ L s.heap ((D, o) :: (x, subObj 68 dx vs n) :: (dx, attrD w.params t1 t2 true D k) :: (md, W.listOf us ku) :: (gn, W.listOf gs kg) :: rest))
    (hM : DM PySem.Challenge.rw_aq6060_01.row.prog w o f ns.length) (hf : Idx f ns) (hD : (D == sysModules) = false)
    (l1 : @Ne Nat x dx) (l2 : @Ne Nat x md) (l3 : @Ne Nat x gn) (l4 : @Ne Nat dx md) (l5 : @Ne Nat dx gn) (l6 : @Ne Nat md gn) (l7 : AllNe x rest) (l8 : AllNe dx rest) (l9 : AllNe md rest) (l10 : AllNe gn rest)
    (l11 : @Ne Nat D x) (l12 : @Ne Nat D dx) (l13 : @Ne Nat D md) (l14 : @Ne Nat D gn) (l15 : AllNe D rest)
    (hI : IntsAre vs.toList ns) (hU : IntsAre us.toList ns) (hG : IntsAre gs.toList qs) (hz : ns.length ≤ 50) (hq : qs.length ≤ 50) (hn : ns.Nodup) (hd : ∀ y ∈ qs, y ∉ ns) (hzn : z ∉ ns) (hzq : z ∉ qs) (hu0 : 0 ≤ nu)
    (ret : ∀ o' vs' n' us' ku' gs' kg' ns' qs' h' tk', Fr h₀ L h' m → News h₀ L h' ((D, o') :: (x, subObj 68 dx vs' n') :: (dx, attrD w.params t1 t2 true D k) :: (md, W.listOf us' ku') :: (gn, W.listOf gs' kg') :: rest) →
      IntsAre vs'.toList ns' → IntsAre us'.toList ns' → IntsAre gs'.toList qs' → StepR ns qs z ns' qs' → Q (.bool true) { s with heap := h', toks := tk' }) :
    wpAny (model PySem.Challenge.rw_aq6060_01.row.prog w) (ktrTop dp un gd cn cs L ca ccd cl outer) (call (.ref 86) [.ref x, .ref md, .ref gn, .int 2 td, .int nu tn, .int z tf]) Q E s := by
  have hvz := ia_size hI
  have huz := ia_size hU
  have hgz := ia_size hG
  have hfz : f z = none := hf.2 z hzn
  refine wpAny_call ?_
  k_dflt ktr_enter
  k_steps
  (refine ⟨?_⟩; k_dflt (refine' (append_new (D := D) (k := k) (vs := vs) (n := n) (rest := (md, W.listOf us ku) :: (gn, W.listOf gs kg) :: rest)) ?cB_7 ?cF_7 ?cX_7 ?cT_7 ?chk_7 ?chdp_7 ?chun_7 ?cN_7 hM hD (by omega) (by omega) l11 l12 l1 ⟨Ne.symm l13, Ne.symm l14, l15⟩ ⟨Ne.symm l2, Ne.symm l3, l7⟩ hfz ?_; (case cB_7 => k_asm); (case cF_7 => k_asm); (case cX_7 => k_asm); (case cT_7 => k_asm); (case cN_7 => k_asm); (case chk_7 => exact rfl); (case chdp_7 => show (dp + 1 + 4) < recursionLimit; omega); (case chun_7 => show (un + 3 + 110) < cLine; omega)))
  intro o2 t9 n2 h2 tk2 F2 N2 M2
  k_steps
  rename Fr h₀ _ _ _ => kF
  rename News h₀ _ _ _ => kN
  exact ret _ _ _ _ _ _ _ _ _ _ _ kF kN (ia_push hI _ _) (ia_push hU _ _) hG (step_new hn hd hzn hzq perm_push)

theorem deed_3 {x dx D md gn : Addr} {o : Obj} {vs us gs : Array Value} {n k ku kg : Nat} {t1 t2 td tn tf : Tok} {nu z : Int} {f : Int → Option Value} {ns qs : List Int} {rest : List (Addr × Obj)}
    (B : Below A₀ base outer h₀) (F : Fr h₀ L s.heap m) (X : (hd.heap_39 w.params).In h₀) (T : Top p loose mean mg mb h₀) (hk : cs.kind = .function) (hdp : dp + 8 < recursionLimit) (hun : un + 140 < cLine)
    (N : News h₀ L s.heap ((D, o) :: (x, subObj 68 dx vs n) :: (dx, attrD w.params t1 t2 true D k) :: (md, W.listOf us ku) :: (gn, W.listOf gs kg) :: rest))
    (hM : DM PySem.Challenge.rw_aq6060_01.row.prog w o f ns.length) (hf : Idx f ns) (hD : (D == sysModules) = false)
    (l1 : @Ne Nat x dx) (l2 : @Ne Nat x md) (l3 : @Ne Nat x gn) (l4 : @Ne Nat dx md) (l5 : @Ne Nat dx gn) (l6 : @Ne Nat md gn) (l7 : AllNe x rest) (l8 : AllNe dx rest) (l9 : AllNe md rest) (l10 : AllNe gn rest)
    (l11 : @Ne Nat D x) (l12 : @Ne Nat D dx) (l13 : @Ne Nat D md) (l14 : @Ne Nat D gn) (l15 : AllNe D rest)
    (hI : IntsAre vs.toList ns) (hU : IntsAre us.toList ns) (hG : IntsAre gs.toList qs) (hz : ns.length ≤ 50) (hq : qs.length ≤ 50) (hn : ns.Nodup) (hd : ∀ y ∈ qs, y ∉ ns) (hzn : z ∉ ns) (hzq : z ∉ qs) (hu0 : 0 ≤ nu)
    (ret : ∀ o' vs' n' us' ku' gs' kg' ns' qs' h' tk', Fr h₀ L h' m → News h₀ L h' ((D, o') :: (x, subObj 68 dx vs' n') :: (dx, attrD w.params t1 t2 true D k) :: (md, W.listOf us' ku') :: (gn, W.listOf gs' kg') :: rest) →
      IntsAre vs'.toList ns' → IntsAre us'.toList ns' → IntsAre gs'.toList qs' → StepR ns qs z ns' qs' → Q (.bool true) { s with heap := h', toks := tk' }) :
    wpAny (model PySem.Challenge.rw_aq6060_01.row.prog w) (ktrTop dp un gd cn cs L ca ccd cl outer) (call (.ref 86) [.ref x, .ref md, .ref gn, .int 3 td, .int nu tn, .int z tf]) Q E s := by
  have hvz := ia_size hI
  have huz := ia_size hU
  have hgz := ia_size hG
  have hfz : f z = none := hf.2 z hzn
  refine wpAny_call ?_
  k_dflt ktr_enter
  k_steps
  (refine ⟨?_⟩; k_dflt (refine' (add_new (D := D) (k := k) (vs := vs) (n := n) (rest := (md, W.listOf us ku) :: (gn, W.listOf gs kg) :: rest)) ?cB_8 ?cF_8 ?cX_8 ?cT_8 ?chk_8 ?chdp_8 ?chun_8 ?cN_8 hM hD (by omega) (by omega) l11 l12 l1 ⟨Ne.symm l13, Ne.symm l14, l15⟩ ⟨Ne.symm l2, Ne.symm l3, l7⟩ hfz ?_; (case cB_8 => k_asm); (case cF_8 => k_asm); (case cX_8 => k_asm); (case cT_8 => k_asm); (case cN_8 => k_asm); (case chk_8 => exact rfl); (case chdp_8 => show (dp + 1 + 6) < recursionLimit; omega); (case chun_8 => show (un + 3 + 120) < cLine; omega)))
  intro o2 t9 n2 h2 tk2 F2 N2 M2
  k_steps
  · exfalso; omega
  rename Fr h₀ _ _ _ => kF
  rename News h₀ _ _ _ => kN
  exact ret _ _ _ _ _ _ _ _ _ _ _ kF kN (ia_push hI _ _) (ia_push hU _ _) hG (step_new hn hd hzn hzq perm_push)

theorem deed_4 {x dx D md gn : Addr} {o : Obj} {vs us gs : Array Value} {n k ku kg : Nat} {t1 t2 td tn tf : Tok} {nu z : Int} {f : Int → Option Value} {ns qs : List Int} {rest : List (Addr × Obj)}
    (B : Below A₀ base outer h₀) (F : Fr h₀ L s.heap m) (X : (hd.heap_39 w.params).In h₀) (T : Top p loose mean mg mb h₀) (hk : cs.kind = .function) (hdp : dp + 8 < recursionLimit) (hun : un + 140 < cLine)
    (N : News h₀ L s.heap ((D, o) :: (x, subObj 68 dx vs n) :: (dx, attrD w.params t1 t2 true D k) :: (md, W.listOf us ku) :: (gn, W.listOf gs kg) :: rest))
    (hM : DM PySem.Challenge.rw_aq6060_01.row.prog w o f ns.length) (hf : Idx f ns) (hD : (D == sysModules) = false)
    (l1 : @Ne Nat x dx) (l2 : @Ne Nat x md) (l3 : @Ne Nat x gn) (l4 : @Ne Nat dx md) (l5 : @Ne Nat dx gn) (l6 : @Ne Nat md gn) (l7 : AllNe x rest) (l8 : AllNe dx rest) (l9 : AllNe md rest) (l10 : AllNe gn rest)
    (l11 : @Ne Nat D x) (l12 : @Ne Nat D dx) (l13 : @Ne Nat D md) (l14 : @Ne Nat D gn) (l15 : AllNe D rest)
    (hI : IntsAre vs.toList ns) (hU : IntsAre us.toList ns) (hG : IntsAre gs.toList qs) (hz : ns.length ≤ 50) (hq : qs.length ≤ 50) (hn : ns.Nodup) (hd : ∀ y ∈ qs, y ∉ ns) (hzn : z ∉ ns) (hzq : z ∉ qs) (hu0 : 0 ≤ nu)
    (ret : ∀ o' vs' n' us' ku' gs' kg' ns' qs' h' tk', Fr h₀ L h' m → News h₀ L h' ((D, o') :: (x, subObj 68 dx vs' n') :: (dx, attrD w.params t1 t2 true D k) :: (md, W.listOf us' ku') :: (gn, W.listOf gs' kg') :: rest) →
      IntsAre vs'.toList ns' → IntsAre us'.toList ns' → IntsAre gs'.toList qs' → StepR ns qs z ns' qs' → Q (.bool true) { s with heap := h', toks := tk' }) :
    wpAny (model PySem.Challenge.rw_aq6060_01.row.prog w) (ktrTop dp un gd cn cs L ca ccd cl outer) (call (.ref 86) [.ref x, .ref md, .ref gn, .int 4 td, .int nu tn, .int z tf]) Q E s := by
  have hvz := ia_size hI
  have huz := ia_size hU
  have hgz := ia_size hG
  refine wpAny_call ?_
  k_dflt ktr_enter
  k_steps
  rename Fr h₀ _ _ _ => kF
  rename News h₀ _ _ _ => kN
  exact ret _ _ _ _ _ _ _ _ _ _ _ kF kN (by simpa using ia_reverse hI) (by simpa using ia_reverse hU) hG (step_perm hn hd (List.reverse_perm _))

theorem deed_5 {x dx D md gn : Addr} {o : Obj} {vs us gs : Array Value} {n k ku kg : Nat} {t1 t2 td tn tf : Tok} {nu z : Int} {f : Int → Option Value} {ns qs : List Int} {rest : List (Addr × Obj)}
    (B : Below A₀ base outer h₀) (F : Fr h₀ L s.heap m) (X : (hd.heap_39 w.params).In h₀) (T : Top p loose mean mg mb h₀) (hk : cs.kind = .function) (hdp : dp + 8 < recursionLimit) (hun : un + 140 < cLine)
    (N : News h₀ L s.heap ((D, o) :: (x, subObj 68 dx vs n) :: (dx, attrD w.params t1 t2 true D k) :: (md, W.listOf us ku) :: (gn, W.listOf gs kg) :: rest))
    (hM : DM PySem.Challenge.rw_aq6060_01.row.prog w o f ns.length) (hf : Idx f ns) (hD : (D == sysModules) = false)
    (l1 : @Ne Nat x dx) (l2 : @Ne Nat x md) (l3 : @Ne Nat x gn) (l4 : @Ne Nat dx md) (l5 : @Ne Nat dx gn) (l6 : @Ne Nat md gn) (l7 : AllNe x rest) (l8 : AllNe dx rest) (l9 : AllNe md rest) (l10 : AllNe gn rest)
    (l11 : @Ne Nat D x) (l12 : @Ne Nat D dx) (l13 : @Ne Nat D md) (l14 : @Ne Nat D gn) (l15 : AllNe D rest)
    (hI : IntsAre vs.toList ns) (hU : IntsAre us.toList ns) (hG : IntsAre gs.toList qs) (hz : ns.length ≤ 50) (hq : qs.length ≤ 50) (hn : ns.Nodup) (hd : ∀ y ∈ qs, y ∉ ns) (hzn : z ∉ ns) (hzq : z ∉ qs) (hu0 : 0 ≤ nu)
    (ret : ∀ o' vs' n' us' ku' gs' kg' ns' qs' h' tk', Fr h₀ L h' m → News h₀ L h' ((D, o') :: (x, subObj 68 dx vs' n') :: (dx, attrD w.params t1 t2 true D k) :: (md, W.listOf us' ku') :: (gn, W.listOf gs' kg') :: rest) →
      IntsAre vs'.toList ns' → IntsAre us'.toList ns' → IntsAre gs'.toList qs' → StepR ns qs z ns' qs' → Q (.bool true) { s with heap := h', toks := tk' }) :
    wpAny (model PySem.Challenge.rw_aq6060_01.row.prog w) (ktrTop dp un gd cn cs L ca ccd cl outer) (call (.ref 86) [.ref x, .ref md, .ref gn, .int 5 td, .int nu tn, .int z tf]) Q E s := by
  have hvz := ia_size hI
  have huz := ia_size hU
  have hgz := ia_size hG
  refine wpAny_call ?_
  k_dflt ktr_enter
  k_steps
  rename IntsAre _ _ => iI
  rename List.Perm _ _ => iP
  rename List.Pairwise _ _ => iS
  have w2 := And.intro iI (And.intro iP iS)
  clear iI iP iS
  rename IntsAre _ _ => iI1
  rename List.Perm _ _ => iP1
  rename List.Pairwise _ _ => iS1
  obtain ⟨iI2, iP2, iS2⟩ := w2
  rename Fr h₀ _ _ _ => kF
  rename News h₀ _ _ _ => kN
  exact ret _ _ _ _ _ _ _ _ _ _ _ kF kN iI1 (sorted_eq (iP2.trans iP1.symm) iS2 iS1 ▸ iI2) hG (step_perm hn hd iP1)

theorem deed_6 {x dx D md gn : Addr} {o : Obj} {vs us gs : Array Value} {n k ku kg : Nat} {t1 t2 td tn tf : Tok} {nu z : Int} {f : Int → Option Value} {ns qs : List Int} {rest : List (Addr × Obj)}
    (B : Below A₀ base outer h₀) (F : Fr h₀ L s.heap m) (X : (hd.heap_39 w.params).In h₀) (T : Top p loose mean mg mb h₀) (hk : cs.kind = .function) (hdp : dp + 8 < recursionLimit) (hun : un + 140 < cLine)
    (N : News h₀ L s.heap ((D, o) :: (x, subObj 68 dx vs n) :: (dx, attrD w.params t1 t2 true D k) :: (md, W.listOf us ku) :: (gn, W.listOf gs kg) :: rest))
    (hM : DM PySem.Challenge.rw_aq6060_01.row.prog w o f ns.length) (hf : Idx f ns) (hD : (D == sysModules) = false)
    (l1 : @Ne Nat x dx) (l2 : @Ne Nat x md) (l3 : @Ne Nat x gn) (l4 : @Ne Nat dx md) (l5 : @Ne Nat dx gn) (l6 : @Ne Nat md gn) (l7 : AllNe x rest) (l8 : AllNe dx rest) (l9 : AllNe md rest) (l10 : AllNe gn rest)
    (l11 : @Ne Nat D x) (l12 : @Ne Nat D dx) (l13 : @Ne Nat D md) (l14 : @Ne Nat D gn) (l15 : AllNe D rest)
    (hI : IntsAre vs.toList ns) (hU : IntsAre us.toList ns) (hG : IntsAre gs.toList qs) (hz : ns.length ≤ 50) (hq : qs.length ≤ 50) (hn : ns.Nodup) (hd : ∀ y ∈ qs, y ∉ ns) (hzn : z ∉ ns) (hzq : z ∉ qs) (hu0 : 0 ≤ nu) (hsz : 0 < us.size)
    (ret : ∀ o' vs' n' us' ku' gs' kg' ns' qs' h' tk', Fr h₀ L h' m → News h₀ L h' ((D, o') :: (x, subObj 68 dx vs' n') :: (dx, attrD w.params t1 t2 true D k) :: (md, W.listOf us' ku') :: (gn, W.listOf gs' kg') :: rest) →
      IntsAre vs'.toList ns' → IntsAre us'.toList ns' → IntsAre gs'.toList qs' → StepR ns qs z ns' qs' → Q (.bool true) { s with heap := h', toks := tk' }) :
    wpAny (model PySem.Challenge.rw_aq6060_01.row.prog w) (ktrTop dp un gd cn cs L ca ccd cl outer) (call (.ref 86) [.ref x, .ref md, .ref gn, .int 6 td, .int nu tn, .int z tf]) Q E s := by
  have hvz := ia_size hI
  have huz := ia_size hU
  have hgz := ia_size hG
  obtain ⟨hp0, hp1⟩ := fmod_bounds hu0 (show (0 : Int) < ((us.size : Nat) : Int) by omega)
  obtain ⟨tv, hv⟩ := nth_fact hI hp0 (by omega)
  obtain ⟨tu, hu⟩ := nth_fact hU hp0 (by omega)
  have hpn : (nu.fmod ((us.size : Nat) : Int)).toNat < ns.length := by omega
  have hj := nth_some hpn
  have hno := nth_first hn hpn
  refine wpAny_call ?_
  k_dflt ktr_enter
  k_steps
  · exfalso; omega
  rename Fr h₀ _ _ _ => kF
  rename News h₀ _ _ _ => kN
  exact ret _ _ _ _ _ _ _ _ _ _ _ kF kN (ia_out hI _) (ia_out hU _) (ia_push hG _ _) (step_out hpn hn hd (List.Perm.refl _))

theorem deed_7 {x dx D md gn : Addr} {o : Obj} {vs us gs : Array Value} {n k ku kg : Nat} {t1 t2 td tn tf : Tok} {nu z : Int} {f : Int → Option Value} {ns qs : List Int} {rest : List (Addr × Obj)}
    (B : Below A₀ base outer h₀) (F : Fr h₀ L s.heap m) (X : (hd.heap_39 w.params).In h₀) (T : Top p loose mean mg mb h₀) (hk : cs.kind = .function) (hdp : dp + 8 < recursionLimit) (hun : un + 140 < cLine)
    (N : News h₀ L s.heap ((D, o) :: (x, subObj 68 dx vs n) :: (dx, attrD w.params t1 t2 true D k) :: (md, W.listOf us ku) :: (gn, W.listOf gs kg) :: rest))
    (hM : DM PySem.Challenge.rw_aq6060_01.row.prog w o f ns.length) (hf : Idx f ns) (hD : (D == sysModules) = false)
    (l1 : @Ne Nat x dx) (l2 : @Ne Nat x md) (l3 : @Ne Nat x gn) (l4 : @Ne Nat dx md) (l5 : @Ne Nat dx gn) (l6 : @Ne Nat md gn) (l7 : AllNe x rest) (l8 : AllNe dx rest) (l9 : AllNe md rest) (l10 : AllNe gn rest)
    (l11 : @Ne Nat D x) (l12 : @Ne Nat D dx) (l13 : @Ne Nat D md) (l14 : @Ne Nat D gn) (l15 : AllNe D rest)
    (hI : IntsAre vs.toList ns) (hU : IntsAre us.toList ns) (hG : IntsAre gs.toList qs) (hz : ns.length ≤ 50) (hq : qs.length ≤ 50) (hn : ns.Nodup) (hd : ∀ y ∈ qs, y ∉ ns) (hzn : z ∉ ns) (hzq : z ∉ qs) (hu0 : 0 ≤ nu) (hsz : 0 < us.size)
    (ret : ∀ o' vs' n' us' ku' gs' kg' ns' qs' h' tk', Fr h₀ L h' m → News h₀ L h' ((D, o') :: (x, subObj 68 dx vs' n') :: (dx, attrD w.params t1 t2 true D k) :: (md, W.listOf us' ku') :: (gn, W.listOf gs' kg') :: rest) →
      IntsAre vs'.toList ns' → IntsAre us'.toList ns' → IntsAre gs'.toList qs' → StepR ns qs z ns' qs' → Q (.bool true) { s with heap := h', toks := tk' }) :
    wpAny (model PySem.Challenge.rw_aq6060_01.row.prog w) (ktrTop dp un gd cn cs L ca ccd cl outer) (call (.ref 86) [.ref x, .ref md, .ref gn, .int 7 td, .int nu tn, .int z tf]) Q E s := by
  have hvz := ia_size hI
  have huz := ia_size hU
  have hgz := ia_size hG
  obtain ⟨hp0, hp1⟩ := fmod_bounds hu0 (show (0 : Int) < ((us.size : Nat) : Int) by omega)
  obtain ⟨tv, hv⟩ := nth_fact hI hp0 (by omega)
  obtain ⟨tu, hu⟩ := nth_fact hU hp0 (by omega)
  have hpn : (nu.fmod ((us.size : Nat) : Int)).toNat < ns.length := by omega
  have hj := nth_some hpn
  have hno := nth_first hn hpn
  refine wpAny_call ?_
  k_dflt ktr_enter
  k_steps
  rename Fr h₀ _ _ _ => kF
  rename News h₀ _ _ _ => kN
  exact ret _ _ _ _ _ _ _ _ _ _ _ kF kN (ia_out hI _) (ia_out hU _) (ia_push hG _ _) (step_out hpn hn hd (List.Perm.refl _))

theorem deed_8 {x dx D md gn : Addr} {o : Obj} {vs us gs : Array Value} {n k ku kg : Nat} {t1 t2 td tn tf : Tok} {nu z : Int} {f : Int → Option Value} {ns qs : List Int} {rest : List (Addr × Obj)}
    (B : Below A₀ base outer h₀) (F : Fr h₀ L s.heap m) (X : (hd.heap_39 w.params).In h₀) (T : Top p loose mean mg mb h₀) (hk : cs.kind = .function) (hdp : dp + 8 < recursionLimit) (hun : un + 140 < cLine)
    (N : News h₀ L s.heap ((D, o) :: (x, subObj 68 dx vs n) :: (dx, attrD w.params t1 t2 true D k) :: (md, W.listOf us ku) :: (gn, W.listOf gs kg) :: rest))
    (hM : DM PySem.Challenge.rw_aq6060_01.row.prog w o f ns.length) (hf : Idx f ns) (hD : (D == sysModules) = false)
    (l1 : @Ne Nat x dx) (l2 : @Ne Nat x md) (l3 : @Ne Nat x gn) (l4 : @Ne Nat dx md) (l5 : @Ne Nat dx gn) (l6 : @Ne Nat md gn) (l7 : AllNe x rest) (l8 : AllNe dx rest) (l9 : AllNe md rest) (l10 : AllNe gn rest)
    (l11 : @Ne Nat D x) (l12 : @Ne Nat D dx) (l13 : @Ne Nat D md) (l14 : @Ne Nat D gn) (l15 : AllNe D rest)
    (hI : IntsAre vs.toList ns) (hU : IntsAre us.toList ns) (hG : IntsAre gs.toList qs) (hz : ns.length ≤ 50) (hq : qs.length ≤ 50) (hn : ns.Nodup) (hd : ∀ y ∈ qs, y ∉ ns) (hzn : z ∉ ns) (hzq : z ∉ qs) (hu0 : 0 ≤ nu) (hsz : 0 < us.size)
    (ret : ∀ o' vs' n' us' ku' gs' kg' ns' qs' h' tk', Fr h₀ L h' m → News h₀ L h' ((D, o') :: (x, subObj 68 dx vs' n') :: (dx, attrD w.params t1 t2 true D k) :: (md, W.listOf us' ku') :: (gn, W.listOf gs' kg') :: rest) →
      IntsAre vs'.toList ns' → IntsAre us'.toList ns' → IntsAre gs'.toList qs' → StepR ns qs z ns' qs' → Q (.bool true) { s with heap := h', toks := tk' }) :
    wpAny (model PySem.Challenge.rw_aq6060_01.row.prog w) (ktrTop dp un gd cn cs L ca ccd cl outer) (call (.ref 86) [.ref x, .ref md, .ref gn, .int 8 td, .int nu tn, .int z tf]) Q E s := by
  have hvz := ia_size hI
  have huz := ia_size hU
  have hgz := ia_size hG
  obtain ⟨hp0, hp1⟩ := fmod_bounds hu0 (show (0 : Int) < ((us.size : Nat) : Int) by omega)
  obtain ⟨tv, hv⟩ := nth_fact hI hp0 (by omega)
  obtain ⟨tu, hu⟩ := nth_fact hU hp0 (by omega)
  have hpn : (nu.fmod ((us.size : Nat) : Int)).toNat < ns.length := by omega
  have hj := nth_some hpn
  have hno := nth_first hn hpn
  refine wpAny_call ?_
  k_dflt ktr_enter
  k_steps
  rename Fr h₀ _ _ _ => kF
  rename News h₀ _ _ _ => kN
  exact ret _ _ _ _ _ _ _ _ _ _ _ kF kN (ia_out hI _) (ia_out hU _) (ia_push hG _ _) (step_out hpn hn hd (List.Perm.refl _))

theorem deed_9 {x dx D md gn : Addr} {o : Obj} {vs us gs : Array Value} {n k ku kg : Nat} {t1 t2 td tn tf : Tok} {nu z : Int} {f : Int → Option Value} {ns qs : List Int} {rest : List (Addr × Obj)}
    (B : Below A₀ base outer h₀) (F : Fr h₀ L s.heap m) (X : (hd.heap_39 w.params).In h₀) (T : Top p loose mean mg mb h₀) (hk : cs.kind = .function) (hdp : dp + 8 < recursionLimit) (hun : un + 140 < cLine)
    (N : News h₀ L s.heap ((D, o) :: (x, subObj 68 dx vs n) :: (dx, attrD w.params t1 t2 true D k) :: (md, W.listOf us ku) :: (gn, W.listOf gs kg) :: rest))
    (hM : DM PySem.Challenge.rw_aq6060_01.row.prog w o f ns.length) (hf : Idx f ns) (hD : (D == sysModules) = false)
    (l1 : @Ne Nat x dx) (l2 : @Ne Nat x md) (l3 : @Ne Nat x gn) (l4 : @Ne Nat dx md) (l5 : @Ne Nat dx gn) (l6 : @Ne Nat md gn) (l7 : AllNe x rest) (l8 : AllNe dx rest) (l9 : AllNe md rest) (l10 : AllNe gn rest)
    (l11 : @Ne Nat D x) (l12 : @Ne Nat D dx) (l13 : @Ne Nat D md) (l14 : @Ne Nat D gn) (l15 : AllNe D rest)
    (hI : IntsAre vs.toList ns) (hU : IntsAre us.toList ns) (hG : IntsAre gs.toList qs) (hz : ns.length ≤ 50) (hq : qs.length ≤ 50) (hn : ns.Nodup) (hd : ∀ y ∈ qs, y ∉ ns) (hzn : z ∉ ns) (hzq : z ∉ qs) (hu0 : 0 ≤ nu) (hsz : 0 < us.size)
    (ret : ∀ o' vs' n' us' ku' gs' kg' ns' qs' h' tk', Fr h₀ L h' m → News h₀ L h' ((D, o') :: (x, subObj 68 dx vs' n') :: (dx, attrD w.params t1 t2 true D k) :: (md, W.listOf us' ku') :: (gn, W.listOf gs' kg') :: rest) →
      IntsAre vs'.toList ns' → IntsAre us'.toList ns' → IntsAre gs'.toList qs' → StepR ns qs z ns' qs' → Q (.bool true) { s with heap := h', toks := tk' }) :
    wpAny (model PySem.Challenge.rw_aq6060_01.row.prog w) (ktrTop dp un gd cn cs L ca ccd cl outer) (call (.ref 86) [.ref x, .ref md, .ref gn, .int 9 td, .int nu tn, .int z tf]) Q E s := by
  have hvz := ia_size hI
  have huz := ia_size hU
  have hgz := ia_size hG
  obtain ⟨hp0, hp1⟩ := fmod_bounds hu0 (show (0 : Int) < ((us.size : Nat) : Int) by omega)
  obtain ⟨tv, hv⟩ := nth_fact hI hp0 (by omega)
  obtain ⟨tu, hu⟩ := nth_fact hU hp0 (by omega)
  have hpn : (nu.fmod ((us.size : Nat) : Int)).toNat < ns.length := by omega
  have hj := nth_some hpn
  have hno := nth_first hn hpn
  refine wpAny_call ?_
  k_dflt ktr_enter
  k_steps
  rename Fr h₀ _ _ _ => kF
  rename News h₀ _ _ _ => kN
  exact ret _ _ _ _ _ _ _ _ _ _ _ kF (fun p hp => kN p (.tail _ (.tail _ hp))) (ia_slice1 hI _ _ _) (ia_slice1 hU _ _ _) (ia_push hG _ _) (step_swap hpn hn hd hzn hzq)

theorem deed_6e {x dx D md gn : Addr} {o : Obj} {vs us gs : Array Value} {n k ku kg : Nat} {t1 t2 td tn tf : Tok} {nu z : Int} {f : Int → Option Value} {ns qs : List Int} {rest : List (Addr × Obj)}
    (B : Below A₀ base outer h₀) (F : Fr h₀ L s.heap m) (X : (hd.heap_39 w.params).In h₀) (T : Top p loose mean mg mb h₀) (hk : cs.kind = .function) (hdp : dp + 8 < recursionLimit) (hun : un + 140 < cLine)
    (N : News h₀ L s.heap ((D, o) :: (x, subObj 68 dx vs n) :: (dx, attrD w.params t1 t2 true D k) :: (md, W.listOf us ku) :: (gn, W.listOf gs kg) :: rest))
    (hM : DM PySem.Challenge.rw_aq6060_01.row.prog w o f ns.length) (hf : Idx f ns) (hD : (D == sysModules) = false)
    (l1 : @Ne Nat x dx) (l2 : @Ne Nat x md) (l3 : @Ne Nat x gn) (l4 : @Ne Nat dx md) (l5 : @Ne Nat dx gn) (l6 : @Ne Nat md gn) (l7 : AllNe x rest) (l8 : AllNe dx rest) (l9 : AllNe md rest) (l10 : AllNe gn rest)
    (l11 : @Ne Nat D x) (l12 : @Ne Nat D dx) (l13 : @Ne Nat D md) (l14 : @Ne Nat D gn) (l15 : AllNe D rest)
    (hI : IntsAre vs.toList ns) (hU : IntsAre us.toList ns) (hG : IntsAre gs.toList qs) (hz : ns.length ≤ 50) (hq : qs.length ≤ 50) (hn : ns.Nodup) (hd : ∀ y ∈ qs, y ∉ ns) (hzn : z ∉ ns) (hzq : z ∉ qs) (hu0 : 0 ≤ nu) (hsz : us.size = 0)
    (ret : ∀ o' vs' n' us' ku' gs' kg' ns' qs' h' tk', Fr h₀ L h' m → News h₀ L h' ((D, o') :: (x, subObj 68 dx vs' n') :: (dx, attrD w.params t1 t2 true D k) :: (md, W.listOf us' ku') :: (gn, W.listOf gs' kg') :: rest) →
      IntsAre vs'.toList ns' → IntsAre us'.toList ns' → IntsAre gs'.toList qs' → StepR ns qs z ns' qs' → Q (.bool true) { s with heap := h', toks := tk' }) :
    wpAny (model PySem.Challenge.rw_aq6060_01.row.prog w) (ktrTop dp un gd cn cs L ca ccd cl outer) (call (.ref 86) [.ref x, .ref md, .ref gn, .int 6 td, .int nu tn, .int z tf]) Q E s := by
  have hvz := ia_size hI
  have huz := ia_size hU
  have hgz := ia_size hG
  refine wpAny_call ?_
  k_dflt ktr_enter
  k_steps
  rename Fr h₀ _ _ _ => kF
  rename News h₀ _ _ _ => kN
  exact ret _ _ _ _ _ _ _ _ _ _ _ kF kN hI hU hG (step_perm hn hd (List.Perm.refl _))

theorem deed_7e {x dx D md gn : Addr} {o : Obj} {vs us gs : Array Value} {n k ku kg : Nat} {t1 t2 td tn tf : Tok} {nu z : Int} {f : Int → Option Value} {ns qs : List Int} {rest : List (Addr × Obj)}
    (B : Below A₀ base outer h₀) (F : Fr h₀ L s.heap m) (X : (hd.heap_39 w.params).In h₀) (T : Top p loose mean mg mb h₀) (hk : cs.kind = .function) (hdp : dp + 8 < recursionLimit) (hun : un + 140 < cLine)
    (N : News h₀ L s.heap ((D, o) :: (x, subObj 68 dx vs n) :: (dx, attrD w.params t1 t2 true D k) :: (md, W.listOf us ku) :: (gn, W.listOf gs kg) :: rest))
    (hM : DM PySem.Challenge.rw_aq6060_01.row.prog w o f ns.length) (hf : Idx f ns) (hD : (D == sysModules) = false)
    (l1 : @Ne Nat x dx) (l2 : @Ne Nat x md) (l3 : @Ne Nat x gn) (l4 : @Ne Nat dx md) (l5 : @Ne Nat dx gn) (l6 : @Ne Nat md gn) (l7 : AllNe x rest) (l8 : AllNe dx rest) (l9 : AllNe md rest) (l10 : AllNe gn rest)
    (l11 : @Ne Nat D x) (l12 : @Ne Nat D dx) (l13 : @Ne Nat D md) (l14 : @Ne Nat D gn) (l15 : AllNe D rest)
    (hI : IntsAre vs.toList ns) (hU : IntsAre us.toList ns) (hG : IntsAre gs.toList qs) (hz : ns.length ≤ 50) (hq : qs.length ≤ 50) (hn : ns.Nodup) (hd : ∀ y ∈ qs, y ∉ ns) (hzn : z ∉ ns) (hzq : z ∉ qs) (hu0 : 0 ≤ nu) (hsz : us.size = 0)
    (ret : ∀ o' vs' n' us' ku' gs' kg' ns' qs' h' tk', Fr h₀ L h' m → News h₀ L h' ((D, o') :: (x, subObj 68 dx vs' n') :: (dx, attrD w.params t1 t2 true D k) :: (md, W.listOf us' ku') :: (gn, W.listOf gs' kg') :: rest) →
      IntsAre vs'.toList ns' → IntsAre us'.toList ns' → IntsAre gs'.toList qs' → StepR ns qs z ns' qs' → Q (.bool true) { s with heap := h', toks := tk' }) :
    wpAny (model PySem.Challenge.rw_aq6060_01.row.prog w) (ktrTop dp un gd cn cs L ca ccd cl outer) (call (.ref 86) [.ref x, .ref md, .ref gn, .int 7 td, .int nu tn, .int z tf]) Q E s := by
  have hvz := ia_size hI
  have huz := ia_size hU
  have hgz := ia_size hG
  refine wpAny_call ?_
  k_dflt ktr_enter
  k_steps
  rename Fr h₀ _ _ _ => kF
  rename News h₀ _ _ _ => kN
  exact ret _ _ _ _ _ _ _ _ _ _ _ kF kN hI hU hG (step_perm hn hd (List.Perm.refl _))

theorem deed_8e {x dx D md gn : Addr} {o : Obj} {vs us gs : Array Value} {n k ku kg : Nat} {t1 t2 td tn tf : Tok} {nu z : Int} {f : Int → Option Value} {ns qs : List Int} {rest : List (Addr × Obj)}
    (B : Below A₀ base outer h₀) (F : Fr h₀ L s.heap m) (X : (hd.heap_39 w.params).In h₀) (T : Top p loose mean mg mb h₀) (hk : cs.kind = .function) (hdp : dp + 8 < recursionLimit) (hun : un + 140 < cLine)
    (N : News h₀ L s.heap ((D, o) :: (x, subObj 68 dx vs n) :: (dx, attrD w.params t1 t2 true D k) :: (md, W.listOf us ku) :: (gn, W.listOf gs kg) :: rest))
    (hM : DM PySem.Challenge.rw_aq6060_01.row.prog w o f ns.length) (hf : Idx f ns) (hD : (D == sysModules) = false)
    (l1 : @Ne Nat x dx) (l2 : @Ne Nat x md) (l3 : @Ne Nat x gn) (l4 : @Ne Nat dx md) (l5 : @Ne Nat dx gn) (l6 : @Ne Nat md gn) (l7 : AllNe x rest) (l8 : AllNe dx rest) (l9 : AllNe md rest) (l10 : AllNe gn rest)
    (l11 : @Ne Nat D x) (l12 : @Ne Nat D dx) (l13 : @Ne Nat D md) (l14 : @Ne Nat D gn) (l15 : AllNe D rest)
    (hI : IntsAre vs.toList ns) (hU : IntsAre us.toList ns) (hG : IntsAre gs.toList qs) (hz : ns.length ≤ 50) (hq : qs.length ≤ 50) (hn : ns.Nodup) (hd : ∀ y ∈ qs, y ∉ ns) (hzn : z ∉ ns) (hzq : z ∉ qs) (hu0 : 0 ≤ nu) (hsz : us.size = 0)
    (ret : ∀ o' vs' n' us' ku' gs' kg' ns' qs' h' tk', Fr h₀ L h' m → News h₀ L h' ((D, o') :: (x, subObj 68 dx vs' n') :: (dx, attrD w.params t1 t2 true D k) :: (md, W.listOf us' ku') :: (gn, W.listOf gs' kg') :: rest) →
      IntsAre vs'.toList ns' → IntsAre us'.toList ns' → IntsAre gs'.toList qs' → StepR ns qs z ns' qs' → Q (.bool true) { s with heap := h', toks := tk' }) :
    wpAny (model PySem.Challenge.rw_aq6060_01.row.prog w) (ktrTop dp un gd cn cs L ca ccd cl outer) (call (.ref 86) [.ref x, .ref md, .ref gn, .int 8 td, .int nu tn, .int z tf]) Q E s := by
  have hvz := ia_size hI
  have huz := ia_size hU
  have hgz := ia_size hG
  refine wpAny_call ?_
  k_dflt ktr_enter
  k_steps
  rename Fr h₀ _ _ _ => kF
  rename News h₀ _ _ _ => kN
  exact ret _ _ _ _ _ _ _ _ _ _ _ kF kN hI hU hG (step_perm hn hd (List.Perm.refl _))

theorem deed_9e {x dx D md gn : Addr} {o : Obj} {vs us gs : Array Value} {n k ku kg : Nat} {t1 t2 td tn tf : Tok} {nu z : Int} {f : Int → Option Value} {ns qs : List Int} {rest : List (Addr × Obj)}
    (B : Below A₀ base outer h₀) (F : Fr h₀ L s.heap m) (X : (hd.heap_39 w.params).In h₀) (T : Top p loose mean mg mb h₀) (hk : cs.kind = .function) (hdp : dp + 8 < recursionLimit) (hun : un + 140 < cLine)
    (N : News h₀ L s.heap ((D, o) :: (x, subObj 68 dx vs n) :: (dx, attrD w.params t1 t2 true D k) :: (md, W.listOf us ku) :: (gn, W.listOf gs kg) :: rest))
    (hM : DM PySem.Challenge.rw_aq6060_01.row.prog w o f ns.length) (hf : Idx f ns) (hD : (D == sysModules) = false)
    (l1 : @Ne Nat x dx) (l2 : @Ne Nat x md) (l3 : @Ne Nat x gn) (l4 : @Ne Nat dx md) (l5 : @Ne Nat dx gn) (l6 : @Ne Nat md gn) (l7 : AllNe x rest) (l8 : AllNe dx rest) (l9 : AllNe md rest) (l10 : AllNe gn rest)
    (l11 : @Ne Nat D x) (l12 : @Ne Nat D dx) (l13 : @Ne Nat D md) (l14 : @Ne Nat D gn) (l15 : AllNe D rest)
    (hI : IntsAre vs.toList ns) (hU : IntsAre us.toList ns) (hG : IntsAre gs.toList qs) (hz : ns.length ≤ 50) (hq : qs.length ≤ 50) (hn : ns.Nodup) (hd : ∀ y ∈ qs, y ∉ ns) (hzn : z ∉ ns) (hzq : z ∉ qs) (hu0 : 0 ≤ nu) (hsz : us.size = 0)
    (ret : ∀ o' vs' n' us' ku' gs' kg' ns' qs' h' tk', Fr h₀ L h' m → News h₀ L h' ((D, o') :: (x, subObj 68 dx vs' n') :: (dx, attrD w.params t1 t2 true D k) :: (md, W.listOf us' ku') :: (gn, W.listOf gs' kg') :: rest) →
      IntsAre vs'.toList ns' → IntsAre us'.toList ns' → IntsAre gs'.toList qs' → StepR ns qs z ns' qs' → Q (.bool true) { s with heap := h', toks := tk' }) :
    wpAny (model PySem.Challenge.rw_aq6060_01.row.prog w) (ktrTop dp un gd cn cs L ca ccd cl outer) (call (.ref 86) [.ref x, .ref md, .ref gn, .int 9 td, .int nu tn, .int z tf]) Q E s := by
  have hvz := ia_size hI
  have huz := ia_size hU
  have hgz := ia_size hG
  refine wpAny_call ?_
  k_dflt ktr_enter
  k_steps
  rename Fr h₀ _ _ _ => kF
  rename News h₀ _ _ _ => kN
  exact ret _ _ _ _ _ _ _ _ _ _ _ kF kN hI hU hG (step_perm hn hd (List.Perm.refl _))

end
end Mine
end PD1

section PD2
set_option maxRecDepth 100000
set_option maxHeartbeats 8000000
namespace Mine
section
variable {w : World} {p : Program} {loose : List Str} {mean : ExcName → Option Value} {mg mb : Str → Option Value}
  {dp un : Nat} {gd : Option (List Code)} {cn : Str} {cs : Scope} {ca : Addr} {ccd : Value} {cl : List (Str × Addr)} {outer : List Env} {A₀ : Around} {base h₀ : Heap} {L : Addr} {m : Str → Option Value} {s : Shared} {Q E : Value → Shared → Prop}

theorem deed_any {x dx D md gn : Addr} {o : Obj} {vs us gs : Array Value} {n k ku kg : Nat} {t1 t2 td tn tf : Tok} {dd nu z : Int} {f : Int → Option Value} {ns qs : List Int} {rest : List (Addr × Obj)}
    (B : Below A₀ base outer h₀) (F : Fr h₀ L s.heap m) (X : (hd.heap_39 w.params).In h₀) (T : Top p loose mean mg mb h₀) (hk : cs.kind = .function) (hdp : dp + 8 < recursionLimit) (hun : un + 140 < cLine)
    (N : News h₀ L s.heap ((D, o) :: (x, subObj 68 dx vs n) :: (dx, attrD w.params t1 t2 true D k) :: (md, W.listOf us ku) :: (gn, W.listOf gs kg) :: rest))
    (hM : DM PySem.Challenge.rw_aq6060_01.row.prog w o f ns.length) (hf : Idx f ns) (hD : (D == sysModules) = false)
    (l1 : @Ne Nat x dx) (l2 : @Ne Nat x md) (l3 : @Ne Nat x gn) (l4 : @Ne Nat dx md) (l5 : @Ne Nat dx gn) (l6 : @Ne Nat md gn) (l7 : AllNe x rest) (l8 : AllNe dx rest) (l9 : AllNe md rest) (l10 : AllNe gn rest)
    (l11 : @Ne Nat D x) (l12 : @Ne Nat D dx) (l13 : @Ne Nat D md) (l14 : @Ne Nat D gn) (l15 : AllNe D rest)
    (hI : IntsAre vs.toList ns) (hU : IntsAre us.toList ns) (hG : IntsAre gs.toList qs) (hz : ns.length ≤ 50) (hq : qs.length ≤ 50) (hn : ns.Nodup) (hd : ∀ y ∈ qs, y ∉ ns) (hzn : z ∉ ns) (hzq : z ∉ qs) (hu0 : 0 ≤ nu) (hd0 : 0 ≤ dd) (hd9 : dd ≤ 9)
    (ret : ∀ o' vs' n' us' ku' gs' kg' ns' qs' h' tk', Fr h₀ L h' m → News h₀ L h' ((D, o') :: (x, subObj 68 dx vs' n') :: (dx, attrD w.params t1 t2 true D k) :: (md, W.listOf us' ku') :: (gn, W.listOf gs' kg') :: rest) →
      IntsAre vs'.toList ns' → IntsAre us'.toList ns' → IntsAre gs'.toList qs' → StepR ns qs z ns' qs' → Q (.bool true) { s with heap := h', toks := tk' }) :
    wpAny (model PySem.Challenge.rw_aq6060_01.row.prog w) (ktrTop dp un gd cn cs L ca ccd cl outer) (call (.ref 86) [.ref x, .ref md, .ref gn, .int dd td, .int nu tn, .int z tf]) Q E s := by
  have hdd : dd = 0 ∨ dd = 1 ∨ dd = 2 ∨ dd = 3 ∨ dd = 4 ∨ dd = 5 ∨ dd = 6 ∨ dd = 7 ∨ dd = 8 ∨ dd = 9 := by omega
  rcases hdd with e | e | e | e | e | e | e | e | e | e <;> subst e
  · exact deed_0 B F X T hk hdp hun N hM hf hD l1 l2 l3 l4 l5 l6 l7 l8 l9 l10 l11 l12 l13 l14 l15 hI hU hG hz hq hn hd hzn hzq hu0 ret
  · exact deed_1 B F X T hk hdp hun N hM hf hD l1 l2 l3 l4 l5 l6 l7 l8 l9 l10 l11 l12 l13 l14 l15 hI hU hG hz hq hn hd hzn hzq hu0 ret
  · exact deed_2 B F X T hk hdp hun N hM hf hD l1 l2 l3 l4 l5 l6 l7 l8 l9 l10 l11 l12 l13 l14 l15 hI hU hG hz hq hn hd hzn hzq hu0 ret
  · exact deed_3 B F X T hk hdp hun N hM hf hD l1 l2 l3 l4 l5 l6 l7 l8 l9 l10 l11 l12 l13 l14 l15 hI hU hG hz hq hn hd hzn hzq hu0 ret
  · exact deed_4 B F X T hk hdp hun N hM hf hD l1 l2 l3 l4 l5 l6 l7 l8 l9 l10 l11 l12 l13 l14 l15 hI hU hG hz hq hn hd hzn hzq hu0 ret
  · exact deed_5 B F X T hk hdp hun N hM hf hD l1 l2 l3 l4 l5 l6 l7 l8 l9 l10 l11 l12 l13 l14 l15 hI hU hG hz hq hn hd hzn hzq hu0 ret
  · rcases Nat.eq_zero_or_pos us.size with hs | hs
    · exact deed_6e B F X T hk hdp hun N hM hf hD l1 l2 l3 l4 l5 l6 l7 l8 l9 l10 l11 l12 l13 l14 l15 hI hU hG hz hq hn hd hzn hzq hu0 hs ret
    · exact deed_6 B F X T hk hdp hun N hM hf hD l1 l2 l3 l4 l5 l6 l7 l8 l9 l10 l11 l12 l13 l14 l15 hI hU hG hz hq hn hd hzn hzq hu0 hs ret
  · rcases Nat.eq_zero_or_pos us.size with hs | hs
    · exact deed_7e B F X T hk hdp hun N hM hf hD l1 l2 l3 l4 l5 l6 l7 l8 l9 l10 l11 l12 l13 l14 l15 hI hU hG hz hq hn hd hzn hzq hu0 hs ret
    · exact deed_7 B F X T hk hdp hun N hM hf hD l1 l2 l3 l4 l5 l6 l7 l8 l9 l10 l11 l12 l13 l14 l15 hI hU hG hz hq hn hd hzn hzq hu0 hs ret
  · rcases Nat.eq_zero_or_pos us.size with hs | hs
    · exact deed_8e B F X T hk hdp hun N hM hf hD l1 l2 l3 l4 l5 l6 l7 l8 l9 l10 l11 l12 l13 l14 l15 hI hU hG hz hq hn hd hzn hzq hu0 hs ret
    · exact deed_8 B F X T hk hdp hun N hM hf hD l1 l2 l3 l4 l5 l6 l7 l8 l9 l10 l11 l12 l13 l14 l15 hI hU hG hz hq hn hd hzn hzq hu0 hs ret
  · rcases Nat.eq_zero_or_pos us.size with hs | hs
    · exact deed_9e B F X T hk hdp hun N hM hf hD l1 l2 l3 l4 l5 l6 l7 l8 l9 l10 l11 l12 l13 l14 l15 hI hU hG hz hq hn hd hzn hzq hu0 hs ret
    · exact deed_9 B F X T hk hdp hun N hM hf hD l1 l2 l3 l4 l5 l6 l7 l8 l9 l10 l11 l12 l13 l14 l15 hI hU hG hz hq hn hd hzn hzq hu0 hs ret
end
end Mine
end PD2

section PT2
set_option maxRecDepth 100000
set_option maxHeartbeats 4000000
namespace Mine
abbrev tupO (a b : Int) (ta tb : Tok) (c : Nat) : Obj := { cls := .type "tuple", data := .seq #[.int a ta, .int b tb] c }
section
variable {prog : Program} {w : World} {A : Around} {E : Value → Shared → Prop} {s : Shared} {h₀ : Heap} {L t : Addr} {m : Str → Option Value} {news : List (Addr × Obj)} {a b : Int} {ta tb u : Tok} {c : Nat}
theorem tup_at0 {value slice : Expr} {Q : Value → Shared → Prop} (N : News h₀ L s.heap news) (hm : (t, tupO a b ta tb c) ∈ news) (h : Q (.int a ta) s)
    (hs : subscripted slice false (.ref t) (.int 0 u) = operate [.ref t, .int 0 u] (getItem (.ref t) (.int 0 u)) := by with_unfolding_all rfl) :
    wpAny (model prog w) A (subscriptTail value slice (.ref t) (.int 0 u)) Q E s := by
  have ht : IsTup s.heap t #[.int a ta, .int b tb] := ⟨_, (N _ hm).1, rfl, c, rfl⟩
  exact tail_any ht.typeIs slot_tuple_getitem.lookup (getItem_tuple ht (by omega) (by omega) (seqIndex_of (by omega) (by simp)) (x := .int a ta) (by simp) h) hs
theorem tup_at1 {value slice : Expr} {Q : Value → Shared → Prop} (N : News h₀ L s.heap news) (hm : (t, tupO a b ta tb c) ∈ news) (h : Q (.int b tb) s)
    (hs : subscripted slice false (.ref t) (.int 1 u) = operate [.ref t, .int 1 u] (getItem (.ref t) (.int 1 u)) := by with_unfolding_all rfl) :
    wpAny (model prog w) A (subscriptTail value slice (.ref t) (.int 1 u)) Q E s := by
  have ht : IsTup s.heap t #[.int a ta, .int b tb] := ⟨_, (N _ hm).1, rfl, c, rfl⟩
  exact tail_any ht.typeIs slot_tuple_getitem.lookup (getItem_tuple ht (by omega) (by omega) (seqIndex_of (by omega) (by simp)) (x := .int b tb) (by simp) h) hs
end

theorem news_sub {h₀ h : Heap} {L : Addr} {l : List (Addr × Obj)} (N : News h₀ L h l) (l' : List (Addr × Obj)) (hs : ∀ p, p ∈ l' → p ∈ l) : News h₀ L h l' := fun p hp => N p (hs p hp)
/-- every int of the list is a start value, or was made fresh at a turn before the i-th -/
def Old (i : Nat) (l : List Int) : Prop := ∀ y ∈ l, y ≤ 9 ∨ ∃ j, j < i ∧ 10 ≤ y ∧ (y - 10) / 64 = ((j : Int) * 7919).fmod 10007
theorem blk_inj : ∀ i : Nat, i < 22 → ∀ j : Nat, j < i → ((j : Int) * 7919).fmod 10007 ≠ ((i : Int) * 7919).fmod 10007 := by decide
theorem old_fresh {i : Nat} {l : List Int} {b : Int} (h : Old i l) (hi : i < 22) : 64 * ((i : Int) * 7919).fmod 10007 + 10 + b.fmod 64 ∉ l := by
  intro hm
  have h0 := (fmod_bounds (a := (i : Int) * 7919) (b := 10007) (by omega) (by omega)).1
  have h1 : 0 ≤ b.fmod 64 ∧ b.fmod 64 < 64 := ⟨Int.fmod_nonneg_of_pos _ (by decide), Int.fmod_lt_of_pos _ (by decide)⟩
  rcases h _ hm with e | ⟨j, hj, -, e⟩
  · omega
  · refine blk_inj i hi j hj ?_
    omega
theorem old_step {i : Nat} {l l' : List Int} {b : Int} (h : Old i l) (hs : ∀ y ∈ l', y ∈ l ∨ y = 64 * ((i : Int) * 7919).fmod 10007 + 10 + b.fmod 64) : Old (i + 1) l' := by
  intro y hy
  have h0 := (fmod_bounds (a := (i : Int) * 7919) (b := 10007) (by omega) (by omega)).1
  have h1 : 0 ≤ b.fmod 64 ∧ b.fmod 64 < 64 := ⟨Int.fmod_nonneg_of_pos _ (by decide), Int.fmod_lt_of_pos _ (by decide)⟩
  rcases hs y hy with e | e
  · rcases h y e with e | ⟨j, hj, e1, e2⟩
    · exact .inl e
    · exact .inr ⟨j, by omega, e1, e2⟩
  · exact .inr ⟨i, by omega, by omega, by omega⟩
theorem old_two {i : Nat} {l l' q q' : List Int} {b : Int} (h : Old i l) (hq : Old i q) (hs : StepR l q (64 * ((i : Int) * 7919).fmod 10007 + 10 + b.fmod 64) l' q') : Old (i + 1) l' ∧ Old (i + 1) q' := by
  obtain ⟨-, -, s1, s2, -, -⟩ := hs
  refine ⟨old_step h s1, ?_⟩
  intro y hy
  rcases s2 y hy with e | e
  · rcases hq y e with e | ⟨j, hj, e1, e2⟩
    · exact .inl e
    · exact .inr ⟨j, by omega, e1, e2⟩
  · rcases h y e with e | ⟨j, hj, e1, e2⟩
    · exact .inl e
    · exact .inr ⟨j, by omega, e1, e2⟩
def bodyOf (K : Frag) (f : Addr) : List Stmt := match K.lookup f with
  | some o => (match o.data with | .func fd => (match fd.body with | .stmts b => b | _ => []) | _ => [])
  | none => []
def scopeOf (K : Frag) (f : Addr) : Scope := match K.lookup f with
  | some o => (match o.data with | .func fd => fd.scope | _ => .mk .function [] false false [])
  | none => .mk .function [] false false []
theorem rest_of {P : Params} {k : Nat} {M : Model} {A : Scope → Around} {en : Scope → Env} {Q : Flow → Shared → Prop} {E : Value → Shared → Prop} {s : Shared} {name qual : Str} {params : Arguments} {body : List Stmt} {scope : Scope} {dV kV doc pm cdv ct oc : Value} {an od : Option Addr} {osl : Array (Option Value)} {f : Addr}
    (ho : (hd.heap_39 P).lookup f = some ⟨oc, od, .func (fnOf name qual params body scope dV kV doc pm an cdv ct), osl⟩) (h : wpAny M (A scope) (execs (body.drop k) (en scope)) Q E s) :
    wpAny M (A (scopeOf (hd.heap_39 P) f)) (execs ((bodyOf (hd.heap_39 P) f).drop k) (en (scopeOf (hd.heap_39 P) f))) Q E s := by
  have e1 : bodyOf (hd.heap_39 P) f = body := by unfold bodyOf; rw [ho]
  have e2 : scopeOf (hd.heap_39 P) f = scope := by unfold scopeOf; rw [ho]
  rw [e1, e2]; exact h
theorem rest_of' {P : Params} {k : Nat} {M : Model} {A : Scope → Around} {en : Scope → Env} {Q : Flow → Shared → Prop} {E : Value → Shared → Prop} {s : Shared} {name qual : Str} {params : Arguments} {body : List Stmt} {scope : Scope} {dV kV doc pm cdv ct oc : Value} {an od : Option Addr} {osl : Array (Option Value)} {f : Addr}
    (hE : PassesOwn M (A (scopeOf (hd.heap_39 P) f)) (en (scopeOf (hd.heap_39 P) f)) E)
    (ho : (hd.heap_39 P).lookup f = some ⟨oc, od, .func (fnOf name qual params body scope dV kV doc pm an cdv ct), osl⟩)
    (h : (∀ k' s', wpAny M (A (scopeOf (hd.heap_39 P) f)) (execs ((bodyOf (hd.heap_39 P) f).drop k') (en (scopeOf (hd.heap_39 P) f))) Q E s' → wpAny M (A scope) (execs (body.drop k') (en scope)) Q E s') →
      PassesOwn M (A scope) (en scope) E → wpAny M (A scope) (execs (body.drop k) (en scope)) Q E s) :
    wpAny M (A (scopeOf (hd.heap_39 P) f)) (execs ((bodyOf (hd.heap_39 P) f).drop k) (en (scopeOf (hd.heap_39 P) f))) Q E s := by
  have e1 : bodyOf (hd.heap_39 P) f = body := by unfold bodyOf; rw [ho]
  have e2 : scopeOf (hd.heap_39 P) f = scope := by unfold scopeOf; rw [ho]
  rw [e1, e2] at h ⊢
  rw [e2] at hE
  exact h (fun _ _ z => z) hE
end Mine
end PT2

section PT3
set_option maxRecDepth 100000
set_option maxHeartbeats 4000000
namespace Mine
/-- the list's items are refs of pair tuples of the ledger, each under a law -/
def Pairs (G : Int → Int → Prop) (ys : List Value) (tups : List (Addr × Obj)) : Prop :=
  ∀ (i : Nat) v, ys[i]? = some v → ∃ t a b ta tb c, v = Value.ref t ∧ (t, tupO a b ta tb c) ∈ tups ∧ G a b
theorem Pairs.nil {G : Int → Int → Prop} {tups : List (Addr × Obj)} : Pairs G [] tups := fun i v h => by simp at h
theorem Pairs.snoc {G : Int → Int → Prop} {ys : List Value} {tups : List (Addr × Obj)} (x : Pairs G ys tups) {t : Addr} {a b : Int} {ta tb : Tok} {c : Nat} (g : G a b) : Pairs G (ys ++ [.ref t]) ((t, tupO a b ta tb c) :: tups) := fun i v h => by
  rw [List.getElem?_append] at h
  split at h
  · obtain ⟨t', a', b', ta', tb', c', e, hm, g'⟩ := x i v h
    exact ⟨t', a', b', ta', tb', c', e, .tail _ hm, g'⟩
  · have e : i - ys.length = 0 := by
      have := (List.getElem?_eq_some_iff.mp h).1
      simp at this; omega
    rw [e] at h
    simp only [List.getElem?_cons_zero, Option.some.injEq] at h
    exact ⟨t, a, b, ta, tb, c, h.symm, .head _, g⟩
theorem Pairs.more {G : Int → Int → Prop} {ys : List Value} {tups : List (Addr × Obj)} (x : Pairs G ys tups) (more : List (Addr × Obj)) : Pairs G ys (tups ++ more) := fun i v h => by
  obtain ⟨t', a', b', ta', tb', c', e, hm, g'⟩ := x i v h
  exact ⟨t', a', b', ta', tb', c', e, List.mem_append.mpr (.inl hm), g'⟩
theorem Pairs.cat {G : Int → Int → Prop} {ys zs : List Value} {tups : List (Addr × Obj)} (x : Pairs G ys tups) (z : Pairs G zs tups) : Pairs G (ys ++ zs) tups := fun i v h => by
  rw [List.getElem?_append] at h
  split at h
  · exact x i v h
  · exact z _ v h
/-- what making one pair ends in -/
structure TupPost (h₀ : Heap) (L : Addr) (m : Str → Option Value) (s : Shared) (I : Addr) (oI : Obj) (C : Addr) (oC : Obj) (D : Addr) (zs : List Value) (nw : List (Addr × Obj)) (G : Int → Int → Prop) (y : Value) (s₂ : Shared) : Prop where
  out : ∃ h' tk' T a b ta tb c, y = .ref T ∧ s₂ = { s with heap := h', toks := tk' } ∧ Fr h₀ L h' m ∧ News h₀ L h' ((T, tupO a b ta tb c) :: (I, oI) :: (C, oC) :: (D, LCg.lst zs) :: nw) ∧ ((@LT.lt Nat _ I T) ∧ (@LT.lt Nat _ C T) ∧ (@LT.lt Nat _ D T)) ∧ G a b
section
variable {prog : Program} {w : World} {A : Around} {s : Shared} {h₀ : Heap} {L : Addr} {m : Str → Option Value} {env : Env} {elt : Expr} {x : Str} {scope : Scope} {cl : List (Str × Addr)} {base : List (Addr × Obj)}
theorem comp_rest {S : List (Addr × Obj) → Prop} {P : Nat → Value → Prop} {n : Nat} {ms : List Int} {G : Int → Int → Prop} {Fin : List Value → List (Addr × Obj) → Prop} (hms : ms.length = n) (hP : ∀ i v, i < n → P i v → ∃ k t, ms[i]? = some k ∧ v = .int k t)
    (hS : ∀ tups, S (tups ++ base))
    (turn : ∀ k t I oI C oC D m₂ zs h tk nw (E' : Value → Shared → Prop), k ∈ ms → LCg.NsObj oC m₂ → m₂ x = some (.int k t) → Fr h₀ L h m → News h₀ L h ((I, oI) :: (C, oC) :: (D, LCg.lst zs) :: nw) → LCg.Off3 I C D nw → ((@Ne Nat I C) ∧ (@Ne Nat I D) ∧ (@Ne Nat C D)) → (∃ tups, nw = tups ++ base) →
      wpAny (model prog w) A (eval elt (compEnvC scope cl C env)) (TupPost h₀ L m s I oI C oC D zs nw G) E' { s with heap := h, toks := tk })
    (fin : ∀ ys tups, Pairs G ys tups → ys.length = n → Fin ys (tups ++ base)) : LCg.CompRest prog w A h₀ L m env elt x scope cl s S P Fin n 0 [] base := by
  have key : ∀ (j i : Nat) (ys : List Value) (tups : List (Addr × Obj)), i + j = n → ys.length = i → Pairs G ys tups → LCg.CompRest prog w A h₀ L m env elt x scope cl s S P Fin j i ys (tups ++ base) := by
    intro j
    induction j with
    | zero =>
      intro i ys tups hi hy hp
      exact LCg.CompRest.zero (fin ys tups hp (by omega))
    | succ j ih =>
      intro i ys tups hi hy hp
      refine LCg.CompRest.succ ?_
      intro v I oI C oC D m₂ h tk E' hv hC hx F N off ne
      obtain ⟨k, t, hk, rfl⟩ := hP i v (by omega) hv
      refine wpAny_mono (turn k t I oI C oC D m₂ ys h tk _ E' (List.mem_of_getElem? hk) hC hx F N off ne ⟨tups, rfl⟩) (fun y s₂ hq => ?_) fun _ _ e => e
      obtain ⟨h', tk', T, a, b, ta, tb, c, rfl, rfl, F', N', ⟨o1, o2, o3⟩, g⟩ := hq.out
      refine ⟨h', tk', ((T, tupO a b ta tb c) :: tups) ++ base, rfl, F', fun p hp' => N' p ?_, ⟨⟨Nat.ne_of_gt o1, Nat.ne_of_gt o2, Nat.ne_of_gt o3⟩, off⟩, hS _, ?_⟩
      · simp only [List.mem_cons, List.cons_append] at hp' ⊢
        grind
      · exact ih (i + 1) _ _ (by omega) (by simp [hy]) (hp.snoc g)
  exact key n 0 [] [] (by omega) rfl Pairs.nil
theorem comp_list {its : List Value} {ms : List Int} {nb : Addr} {G : Int → Int → Prop} {Fin : Shared → List Value → List (Addr × Obj) → Prop} (hh : A.handled = none) (F : Fr h₀ L s.heap m) (N : News h₀ L s.heap base) (hm : (nb, LCg.lst its) ∈ base) (hi : IntsAre its ms) (hsz : its.length ≤ 1000)
    (turn : ∀ (s : Shared) k t I oI C oC D m₂ zs h tk nw (E' : Value → Shared → Prop), k ∈ ms → LCg.NsObj oC m₂ → m₂ x = some (.int k t) → Fr h₀ L h m → News h₀ L h ((I, oI) :: (C, oC) :: (D, LCg.lst zs) :: nw) → LCg.Off3 I C D nw → ((@Ne Nat I C) ∧ (@Ne Nat I D) ∧ (@Ne Nat C D)) → (∃ tups, nw = tups ++ base) →
      wpAny (model prog w) A (eval elt (compEnvC scope cl C env)) (TupPost h₀ L m s I oI C oC D zs nw G) E' { s with heap := h, toks := tk })
    (fin : ∀ g ys tups, Pairs G ys tups → ys.length = ms.length → Fin { s with heap := g } ys (tups ++ base)) : LCg.CompSrc prog w A h₀ L m env elt x scope cl Fin (.ref nb) s := by
  refine LCg.CompSrc.ledger (its := its.toArray) (k := its.length) hh F N hm (by rw [List.size_toArray, sizeLine_eq]; omega) fun g => ?_
  refine comp_rest (G := G) (ms := ms) (by rw [List.size_toArray]; exact hi.length.symm) (fun i v hi' hv => ?_) (fun tups => .inr ⟨_, List.mem_append.mpr (.inr hm), rfl, _, rfl⟩) (fun k t I oI C oC D m₂ zs h tk nw E' a b c d e f g' h' => turn { s with heap := g } k t I oI C oC D m₂ zs h tk nw E' a b c d e f g' h') (fun ys tups hp hl => fin g ys tups hp (by rw [hl, List.size_toArray]; exact hi.length))
  obtain ⟨y, t, rfl, e⟩ := ia_at (vs := its.toArray) (by simpa using hi) hv
  exact ⟨y, t, e, rfl⟩
structure TupSrc (prog : Program) (w : World) (A : Around) (h₀ : Heap) (L : Addr) (m : Str → Option Value) (env : Env) (elt : Expr) (x : Str) (scope : Scope) (cl : List (Str × Addr)) (Q : Value → Shared → Prop) (xv : Value) (s₁ : Shared) : Prop where
  out : ∃ ax lo its k news, xv = Value.ref ax ∧ Fr h₀ L s₁.heap m ∧ News h₀ L s₁.heap news ∧ (ax, lo) ∈ news ∧ lo.cls = .type "tuple" ∧ lo.data = .seq its k ∧ its.size ≤ sizeLine ∧
      ∀ s₂ : Shared, (∃ h, s₂ = { s₁ with heap := h }) → LCg.CompRest prog w A h₀ L m env elt x scope cl s₂ (fun nw => (ax, lo) ∈ nw) (fun i v => its[i]? = some v) (LCg.FinE h₀ L m s₂ Q) its.size 0 [] news
theorem ListComp_T {E : Value → Shared → Prop} {iter : Expr} {px : Pos} {pos : Pos} {Q : Value → Shared → Prop} (F₀ : Fr h₀ L s.heap m) (hh : A.handled = none)
    (hclos : closureFor scope env = pure cl) (hcell : ∀ y ∈ scope.names, y.2 ≠ .cell) (hkind : scope.kind = .function)
    (hnames : ∀ y ∈ scope.names, y.2 = .local → scope.names.lookup y.1 = some .local) (hx : scope.names.lookup x = some .local)
    (h : wpAny (model prog w) A (eval iter env) (TupSrc prog w A h₀ L m env elt x scope cl Q) E s)
    (hs : ∀ x, foldedSetIterable iter env x = pure x := by intro _; rfl) :
    wpAny (model prog w) A (eval (.ListComp elt [⟨.Name x px, iter, [], 0⟩] scope pos) env) Q E s := by
  rw [eval_ListComp]
  refine wpAny_comprehension_free (use := none) rfl hs hclos hkind hnames (wpAny_mono h (fun xv s₁ h₁ => ?_) fun _ _ e => e)
  obtain ⟨ax, lo, its, k, news, rfl, F, N, hm, hlc, hld, hsz, R⟩ := h₁.out
  have hl : s₁.heap.IsTuple ax its := ⟨lo, (N _ hm).1, hlc, k, hld⟩
  have hlt : ax < s₁.heap.objs.size := Heap.lt_size (N _ hm).1
  refine wpAny_pyIter_tuple hl ?_
  have up : ∀ b o, s₁.heap.get? b = some o → (s₁.heap.push { cls := .type "tuple_iterator", data := .fields #[.ref ax, .int 0 0] }).get? b = some o := fun b o e => Heap.get?_push_of_some _ e
  refine LCg.block_U (S := fun nw => (ax, lo) ∈ nw) (Walks.tuple hh s₁.heap.objs.size ax (Nat.ne_of_lt hlt) its) hsz (fun i h st => by obtain ⟨o, e, _⟩ := st.1; exact ⟨o, e⟩)
    (fun i h h' o nw st e e' k' N' S' => ⟨by obtain ⟨o', q, r⟩ := st.1; rw [e] at q; cases q; exact ⟨o, e', r⟩, ⟨lo, (N' _ S').1, hlc, k, hld⟩⟩) hcell hkind hx ⟨⟨_, Heap.get?_push_size _ rfl, rfl, rfl⟩, hl.push _⟩ (fun b hb => ?_)
    (F.keeps up) (N.grown up) (Nat.ne_of_lt F.ns.lt) (next_is_new F) (fun p hp => Nat.ne_of_lt (Heap.lt_size (N p hp).1)) hm (R _ ⟨_, rfl⟩) ?_
  · show b < (s₁.heap.push _).objs.size
    rw [Heap.size_push]
    rcases List.mem_cons.mp hb with rfl | hb
    · exact Nat.lt_succ_self _
    · rw [List.mem_singleton.mp hb]; exact Nat.lt_succ_of_lt hlt
  · intro D C h tk m' ys news' F' N' o1 hn hC₀ hD₀ hCL hDL hCD offC fin
    refine ⟨m', hn, fun h'' hs'' => fin D h'' tk (F'.change hs'' hCL hC₀) (fun p hp => ?_) o1⟩
    refine ⟨hs''.extBut _ _ ?_ (N' p hp).1, (N' p hp).2⟩
    rcases List.mem_cons.mp hp with rfl | hp
    · exact Ne.symm hCD
    · exact offC p hp
end
theorem drop5 {α : Type} {a b c d e : α} {l : List α} {p : α} (h : p ∈ a :: b :: c :: d :: l) : p ∈ a :: b :: c :: d :: e :: l := by
  simp only [List.mem_cons] at h ⊢; grind
end Mine
end PT3

section PG1
set_option maxRecDepth 100000
set_option maxHeartbeats 4000000
namespace Mine

/-- v is a key that can be asked: its datum and its hash -/
structure MKey (prog : Program) (w : World) (h : Heap) (v : Value) (d : PyData) (hv : Int) : Prop where
  reads : ∃ as, Reads h v d as
  lay : d.canLay0 = true
  depth : d.depth ≤ 1
  hash : ∀ {A : Around} {E : Value → Shared → Prop} {s : Shared} {Q : Int → Shared → Prop}, s.heap = h → A.units + 2 < cLine → (∀ tk, Q hv { s with toks := tk }) → wpAny (model prog w) A (pyHash v) Q E s
  quiet : ∀ {A : Around} {E : Value → Shared → Prop} {s : Shared} {Q : Bool → Shared → Prop}, s.heap = h → Q true s → wpAny (model prog w) A (eqIsQuiet 8 v) Q E s

section
variable {prog : Program} {w : World} {A : Around} {E : Value → Shared → Prop} {s : Shared}
theorem mkey_eq {y x : Value} {dy dx : PyData} {hy hx : Int} {Q : Bool → Shared → Prop} (hu : A.units + 2 < cLine) (ky : MKey prog w s.heap y dy hy) (kx : MKey prog w s.heap x dx hx) (h : Q (PyData.eqv dy dx) s) :
    wpAny (model prog w) A (eqBool y x) Q E s := by
  obtain ⟨as, ra⟩ := ky.reads
  obtain ⟨bs, rb⟩ := kx.reads
  have := ky.depth
  have := kx.depth
  exact SeqAt.eqBoolOverData prog w A E s y x dy dx as bs Q ra rb ky.lay kx.lay (by omega) h

theorem mtell_quiet {key : Value} {stored : List Value} {Q : Bool → Shared → Prop} (hk : ∀ {Q : Bool → Shared → Prop}, Q true s → wpAny (model prog w) A (eqIsQuiet 8 key) Q E s)
    (hst : ∀ v ∈ stored, ∀ {Q : Bool → Shared → Prop}, Q true s → wpAny (model prog w) A (eqIsQuiet 8 v) Q E s) (h : Q false s) : wpAny (model prog w) A (tableMayTell key stored) Q E s := by
  unfold tableMayTell
  split
  · exact wpAny_pure h
  · refine wpAny_bind (hk ?_)
    simp only [Bool.not_true, Bool.false_eq_true, if_false]
    refine wpAny_bind ?_
    refine wpAny_forIn_list _ (fun rest r s' => s' = s ∧ r = (none, ()) ∧ ∀ v ∈ rest, v ∈ stored) _ ?_ ?_ _ _ ⟨rfl, rfl, fun _ z => z⟩
    · rintro x rest r s' ⟨rfl, rfl, hr⟩
      refine wpAny_bind (hst x (hr x List.mem_cons_self) ?_)
      simp only [Bool.not_true, Bool.false_eq_true, if_false]
      exact wpAny_pure ⟨rfl, rfl, fun v hv => hr v (List.mem_cons_of_mem _ hv)⟩
    · rintro r s' ⟨rfl, rfl, _⟩
      exact wpAny_pure h

theorem mfind {d : Addr} {o : Obj} {es : Array DictEntry} {ep : Nat} {key : Value} {dk : PyData} {hv : Int} {j : Option Nat} {Q : Option Nat → Shared → Prop} (hu : A.units + 2 < cLine) (K : MKey prog w s.heap key dk hv)
    (ho : s.heap.get? d = some o) (hd : o.data = .dict es ep)
    (he : ∀ (i : Nat) e, es[i]? = some e → ∃ de, MKey prog w s.heap e.key de e.hash ∧ PyData.eqv de dk = decide (j = some i))
    (hj : ∀ i, j = some i → ∃ e, es[i]? = some e ∧ e.hash = hv)
    (hsm : ∀ e ∈ es, ∀ a, key = .ref a → e.key = key → e.hash = hv) (hstr : ∀ x t, key = .str x t → (es.all fun e => isExactStrKey e.key) = false)
    (h : Q j s) : wpAny (model prog w) A (dictFind d key hv) Q E s := by
  have inpl : ∀ i, j = some i → i < es.size ∧ ((es[i]?.map (·.hash)) == some hv) = true := by
    intro i e
    obtain ⟨en, h1, h2⟩ := hj i e
    refine ⟨(Array.getElem?_eq_some_iff.mp h1).1, ?_⟩
    rw [h1, Option.map_some, h2]; simp
  have hany : ∀ a, key = .ref a → ¬ (es.any fun e => e.key == key && e.hash != hv) = true := by
    intro a ea
    rw [← Array.any_toList, List.any_eq_true]
    rintro ⟨e, hin, hc⟩
    simp only [Bool.and_eq_true, beq_iff_eq, bne_iff_ne, ne_eq] at hc
    exact hc.2 (hsm e (Array.mem_toList_iff.mp hin) a ea hc.1)
  have hst : ∀ v ∈ (placesWithHash es.size (fun i => es[i]?.map (·.hash)) hv).filterMap (fun i => es[i]?.map (·.key)), ∀ {Q : Bool → Shared → Prop}, Q true s → wpAny (model prog w) A (eqIsQuiet 8 v) Q E s := by
    intro v hv' Q q
    obtain ⟨i, _, hi⟩ := List.mem_filterMap.mp hv'
    cases hei : es[i]? with
    | none => rw [hei] at hi; cases hi
    | some e =>
      rw [hei] at hi
      obtain rfl : e.key = v := by simpa using hi
      obtain ⟨de, k1, _⟩ := he i e hei
      exact k1.quiet rfl q
  have hkq : ∀ {Q : Bool → Shared → Prop}, Q true s → wpAny (model prog w) A (eqIsQuiet 8 key) Q E s := fun q => K.quiet rfl q
  -- one turn's test
  have plain : wpAny (model prog w) A (dictWalkPlain d key hv es (placesWithHash es.size (fun i => es[i]?.map (·.hash)) hv)) Q E s := by
    refine wpAny_bind ?_
    refine wpAny_forIn_list _
      (fun rest b s' => s' = s ∧ b = (none, ()) ∧ ∃ i, rest = (List.range' i (es.size - i)).filter (fun i => (es[i]?.map (·.hash)) == some hv) ∧ i ≤ es.size ∧ ∀ k, j = some k → i ≤ k) _ ?_ ?_ _ _
      ⟨rfl, rfl, 0, by rw [placesWithHash, List.range_eq_range', Nat.sub_zero], Nat.zero_le _, fun _ _ => Nat.zero_le _⟩
    · rintro x rest b s' ⟨rfl, rfl, i, hr, hi, hno⟩
      obtain ⟨hix, hxn, hpx, hskip, hrest⟩ := filter_range'_cons _ _ _ _ _ hr.symm
      have hlt : x < es.size := by omega
      obtain ⟨de, k1, k2⟩ := he x es[x] (Array.getElem?_eq_getElem hlt)
      have hge : ∀ k, j = some k → x ≤ k := fun k e => by
        have h1 := hno k e
        rcases Nat.lt_or_ge k x with h' | h'
        · have := hskip k h1 h'
          rw [(inpl k e).2] at this; cases this
        · exact h'
      have hnext : ¬ j = some x → ∃ i, rest = (List.range' i (es.size - i)).filter (fun i => (es[i]?.map (·.hash)) == some hv) ∧ i ≤ es.size ∧ ∀ k, j = some k → i ≤ k := fun hne =>
        ⟨x + 1, by rw [hrest]; congr 2; omega, hlt, fun k e => by
          have := hge k e
          rcases Nat.eq_or_lt_of_le this with q | q
          · rw [← q] at e; exact absurd e hne
          · exact q⟩
      simp only [Array.getElem?_eq_getElem hlt]
      have hh : (es[x].hash == hv) = true := by
        rw [Array.getElem?_eq_getElem hlt, Option.map_some] at hpx; simpa using hpx
      rw [if_pos hh]
      refine wpAny_bind (wpAny_dictEpoch ho hd (wpAny_bind (mkey_eq hu k1 K (wpAny_bind (wpAny_dictEpoch ho hd ?_)))))
      show wpAny _ _ (if (ep != ep) = true then _ else _) _ E _
      rw [if_neg (by simp), k2]
      by_cases hkk : j = some x
      · rw [decide_eq_true hkk]
        rw [hkk] at h
        exact wpAny_bind (wpAny_rule (wpAny_pure (wpAny_pure h)))
      · rw [decide_eq_false hkk]
        exact wpAny_bind (wpAny_rule (wpAny_pure ⟨rfl, rfl, hnext hkk⟩))
    · rintro b s' ⟨rfl, rfl, i, hr, hi, hno⟩
      have : j = none := by
        cases hjj : j with
        | none => rfl
        | some k =>
          have h1 := hno k hjj
          obtain ⟨h2, h3⟩ := inpl k hjj
          have := List.filter_eq_nil_iff.mp hr.symm k (List.mem_range'_1.mpr ⟨h1, by omega⟩)
          exact absurd h3 this
      rw [this] at h
      exact wpAny_pure h
  unfold dictFind
  try with_reducible refine wpAny_holding ?_
  refine wpAny_bind (wpAny_dictEntries ho hd ?_)
  dsimp only
  by_cases hall : ((key :: (placesWithHash es.size (fun i => es[i]?.map (·.hash)) hv).filterMap fun i => es[i]?.map (·.key)).all carriedByValue) = true
  · rw [if_pos hall]
    split
    next x t =>
      split
      next hs => rw [hstr x t rfl] at hs; cases hs
      next => exact plain
    next => exact plain
  · rw [if_neg hall]
    clear plain
    split <;> first | (rw [if_neg (by rw [hstr _ _ rfl]; decide)]; dsimp only) | split
    all_goals (try rw [if_neg (hany _ rfl)])
    all_goals (
      refine wpAny_ite_split (fun _ => ?_) (fun _ => ?_) <;> (first | refine wpAny_bind (wpAny_pure ?_) | refine wpAny_bind (mtell_quiet hkq hst ?_)) <;> (
      rw [if_neg (by simp)]
      refine wpAny_bind ?_
      refine wpAny_forIn_list _
        (fun rest b s' => s' = s ∧ ∃ i hit, b = (none, hit) ∧ rest = (List.range' i (es.size - i)).filter (fun i => (es[i]?.map (·.hash)) == some hv) ∧ i ≤ es.size ∧
          ((hit = none ∧ ∀ k, j = some k → i ≤ k) ∨ ∃ k, hit = some k ∧ k < i ∧ j = some k)) _ ?_ ?_ _ _
        ⟨rfl, 0, none, rfl, by rw [placesWithHash, List.range_eq_range', Nat.sub_zero], Nat.zero_le _, .inl ⟨rfl, fun _ _ => Nat.zero_le _⟩⟩
      · rintro x rest b s' ⟨rfl, i, hit, rfl, hr, hi, hH⟩
        obtain ⟨hix, hxn, hpx, hskip, hrest⟩ := filter_range'_cons _ _ _ _ _ hr.symm
        have hlt : x < es.size := by omega
        have hrest' : rest = (List.range' (x + 1) (es.size - (x + 1))).filter (fun i => (es[i]?.map (·.hash)) == some hv) := by rw [hrest]; congr 2; omega
        obtain ⟨de, k1, k2⟩ := he x es[x] (Array.getElem?_eq_getElem hlt)
        have hHx : (hit = none ∧ ∀ k, j = some k → x ≤ k) ∨ ∃ k, hit = some k ∧ k < x ∧ j = some k := by
          rcases hH with ⟨h0, hno⟩ | ⟨k, h1, hki, hk⟩
          · refine .inl ⟨h0, fun k e => ?_⟩
            have h1 := hno k e
            rcases Nat.lt_or_ge k x with h' | h'
            · have := hskip k h1 h'
              rw [(inpl k e).2] at this; cases this
            · exact h'
          · exact .inr ⟨k, h1, by omega, hk⟩
        have hstay : ¬ j = some x → ((hit = none ∧ ∀ k, j = some k → x + 1 ≤ k) ∨ ∃ k, hit = some k ∧ k < x + 1 ∧ j = some k) := by
          intro hne
          rcases hHx with ⟨h0, hno⟩ | ⟨k, h1, hkx, hk⟩
          · refine .inl ⟨h0, fun k e => ?_⟩
            have := hno k e
            rcases Nat.eq_or_lt_of_le this with q | q
            · rw [← q] at e; exact absurd e hne
            · exact q
          · exact .inr ⟨k, h1, by omega, hk⟩
        have hh : (es[x].hash == hv) = true := by
          rw [Array.getElem?_eq_getElem hlt, Option.map_some] at hpx; simpa using hpx
        rw [Array.getElem?_eq_getElem hlt]
        dsimp only
        rw [if_pos hh]
        refine wpAny_bind (wpAny_dictEpoch ho hd (wpAny_bind (mkey_eq hu k1 K (wpAny_bind (wpAny_dictEpoch ho hd ?_)))))
        show wpAny _ _ (if (ep != ep) = true then _ else _) _ E _
        rw [if_neg (by simp), k2]
        by_cases hkk : j = some x
        · rw [decide_eq_true hkk]
          rcases hHx with ⟨rfl, _⟩ | ⟨k, _, hkx, hk⟩
          · first | rw [if_pos rfl] | skip
            simp only [Option.isSome_none, Bool.false_eq_true, if_false]
            first | refine wpAny_bind (wpAny_pure ?_) | skip
            refine wpAny_bind (wpAny_rule ?_)
            split
            · exact wpAny_pure (wpAny_pure (by rw [← hkk]; exact h))
            · exact wpAny_pure ⟨rfl, x + 1, some x, rfl, hrest', hlt, .inr ⟨x, rfl, Nat.lt_succ_self x, hkk⟩⟩
          · rw [hkk] at hk
            exact absurd (Option.some.inj hk) (by omega)
        · rw [decide_eq_false hkk]
          simp only [Bool.false_eq_true, if_false]
          refine wpAny_bind (wpAny_rule ?_)
          first | rw [if_neg (by simp)] | skip
          first
            | exact wpAny_pure ⟨rfl, x + 1, hit, rfl, hrest', hlt, hstay hkk⟩
            | exact wpAny_bind (wpAny_pure (wpAny_pure ⟨rfl, x + 1, hit, rfl, hrest', hlt, hstay hkk⟩))
      · rintro b s' ⟨rfl, i, hit, rfl, hr, hi, hH⟩
        rcases hH with ⟨rfl, hno⟩ | ⟨k, rfl, _, hk⟩
        · have : j = none := by
            cases hjj : j with
            | none => rfl
            | some k =>
              have h1 := hno k hjj
              obtain ⟨h2, h3⟩ := inpl k hjj
              have := List.filter_eq_nil_iff.mp hr.symm k (List.mem_range'_1.mpr ⟨h1, by omega⟩)
              exact absurd h3 this
          rw [this] at h
          exact wpAny_pure h
        · rw [hk] at h
          exact wpAny_pure h))
end

/-! ## the three keys -/
abbrev me0 (t u : Tok) : DictEntry := ⟨hashInt 1, .int 1 t, .int 0 u⟩
abbrev me1 (w : World) (t u : Tok) : DictEntry := ⟨hashStr w (Str.ofString "1"), .str (Str.ofString "1") t, .int 1 u⟩
abbrev me2 (prog : Program) (w : World) (tup : Addr) (u : Tok) : DictEntry := ⟨tupleKeyHash (intKind prog w) [1, 2], .ref tup, .int 2 u⟩
def MD (prog : Program) (w : World) (tup : Addr) (n : Nat) (o : Obj) : Prop :=
  ∃ es ep t0 u0 t1 u1 u2, o.ExactDict ∧ o.data = .dict es ep ∧ es.toList = [me0 t0 u0, me1 w t1 u1, me2 prog w tup u2].take n
theorem MD.nil (prog : Program) (w : World) (tup : Addr) (n : Nat) : MD prog w tup 0 (dictOf [] n) := ⟨#[], n, 0, 0, 0, 0, 0, ⟨rfl, rfl, rfl⟩, rfl, rfl⟩
def Tup12 (h : Heap) (tup : Addr) : Prop := ∃ ta tb c, h.get? tup = some (tupO 1 2 ta tb c)

structure MPos (d : PyData) (j : Option Nat) : Prop where
  e0 : PyData.eqv (.int 1) d = decide (j = some 0)
  e1 : PyData.eqv (.str (Str.ofString "1")) d = decide (j = some 1)
  e2 : PyData.eqv (.tuple [.int 1, .int 2]) d = decide (j = some 2)

/-- v is asked for: it stands at place j of the three, or is none of them -/
def MAsk (prog : Program) (w : World) (h : Heap) (tup : Addr) (v : Value) (j : Option Nat) : Prop :=
  ∃ d hv, MKey prog w h v d hv ∧ MPos d j ∧ (j = some 0 → hv = hashInt 1) ∧ (j = some 1 → hv = hashStr w (Str.ofString "1")) ∧ (j = some 2 → hv = tupleKeyHash (intKind prog w) [1, 2]) ∧ (∀ i, j = some i → i < 3) ∧ (v = .ref tup → hv = tupleKeyHash (intKind prog w) [1, 2])

theorem mkey_int (prog : Program) (w : World) (h : Heap) (n : Int) (t : Tok) : MKey prog w h (.int n t) (.int n) (hashInt n) where
  reads := ⟨_, .int n t⟩
  lay := rfl
  depth := Nat.zero_le _
  hash := fun _ _ q => wpAny_pyHash_int (q _)
  quiet := fun _ q => by rw [eqIsQuiet_byValue _ rfl]; exact wpAny_pure q
theorem mkey_str (prog : Program) (w : World) (h : Heap) (x : Str) (t : Tok) (hx : (PyData.str x).canLay0 = true) : MKey prog w h (.str x t) (.str x) (hashStr w x) where
  reads := ⟨_, .str x t⟩
  lay := hx
  depth := Nat.zero_le _
  hash := fun _ _ q => wpAny_pyHash_str (q _)
  quiet := fun _ q => by rw [eqIsQuiet_byValue _ rfl]; exact wpAny_pure q
theorem mkey_bool (prog : Program) (w : World) (h : Heap) : MKey prog w h (.bool true) (.bool true) (hashInt 1) where
  reads := ⟨_, .bool true⟩
  lay := rfl
  depth := Nat.zero_le _
  hash := fun {A E s Q} _ hu q => by
    unfold pyHash
    exact pyHash_slot (T := "bool") rfl F.slot_bool_hash entry_int_hash (args_int_hash _) (beq_builtin_none _) (.inl rfl) (show wpAny _ _ (do ret (← mkInt 1)) _ _ s from wpAny_bind (wpAny_mkInt (wpAny_pure ⟨_, _, rfl, q _⟩)))
  quiet := fun _ q => by rw [eqIsQuiet_byValue _ rfl]; exact wpAny_pure q
theorem mkey_tup (prog : Program) (w : World) (h : Heap) (a b : Int) (t : Addr) (ht : ∃ ta tb c, h.get? t = some (tupO a b ta tb c)) : MKey prog w h (.ref t) (.tuple [.int a, .int b]) (tupleKeyHash (intKind prog w) [a, b]) := by
  obtain ⟨ta, tb, c, e⟩ := ht
  have hk : IsTupleKey (intKind prog w) h [a, b] t := ⟨_, _, _, e, rfl, rfl, .cons (by simp [intKind, Value.isInt]) (.cons (by simp [intKind, Value.isInt]) .nil)⟩
  refine ⟨⟨_, .tuple e rfl rfl (.cons (.int _ _) (.cons (.int _ _) .nil))⟩, rfl, Nat.le_refl 1, ?_, ?_⟩
  · rintro A E s Q rfl hu q
    exact wpAny_pyHash_tuple (by omega) hk (q _)
  · rintro A E s Q rfl q
    exact wpAny_eqIsQuiet_tuple hk q

def upto (n : Nat) (j : Option Nat) : Option Nat := j.filter fun i => decide (i < n)
theorem upto_some {n : Nat} {j : Option Nat} {i : Nat} : upto n j = some i ↔ j = some i ∧ i < n := by
  unfold upto; rw [Option.filter_eq_some_iff]; simp
theorem md_at {prog : Program} {w : World} {tup : Addr} {n i : Nat} {t0 u0 t1 u1 u2 : Tok} {e : DictEntry} (h : ([me0 t0 u0, me1 w t1 u1, me2 prog w tup u2].take n)[i]? = some e) :
    i < n ∧ ((i = 0 ∧ e = me0 t0 u0) ∨ (i = 1 ∧ e = me1 w t1 u1) ∨ (i = 2 ∧ e = me2 prog w tup u2)) := by
  rw [List.getElem?_take] at h
  split at h
  · rename_i hi
    refine ⟨hi, ?_⟩
    match i, h with
    | 0, h => exact .inl ⟨rfl, (Option.some.inj h).symm⟩
    | 1, h => exact .inr (.inl ⟨rfl, (Option.some.inj h).symm⟩)
    | 2, h => exact .inr (.inr ⟨rfl, (Option.some.inj h).symm⟩)
    | i + 3, h => simp at h
  · cases h

section
variable {prog : Program} {w : World} {A : Around} {E : Value → Shared → Prop} {s : Shared} {D tup : Addr} {o : Obj} {n : Nat} {v : Value} {j : Option Nat}
theorem md_find {d : PyData} {hv : Int} {es : Array DictEntry} {ep : Nat} {t0 u0 t1 u1 u2 : Tok} {Q : Option Nat → Shared → Prop} (hu : A.units + 2 < cLine) (K : MKey prog w s.heap v d hv) (P : MPos d j) (c0 : j = some 0 → hv = hashInt 1) (c1 : j = some 1 → hv = hashStr w (Str.ofString "1"))
    (c2 : j = some 2 → hv = tupleKeyHash (intKind prog w) [1, 2]) (c3 : ∀ i, j = some i → i < 3) (c4 : v = .ref tup → hv = tupleKeyHash (intKind prog w) [1, 2]) (T : Tup12 s.heap tup)
    (ho : s.heap.get? D = some o) (hd : o.data = .dict es ep) (he : es.toList = [me0 t0 u0, me1 w t1 u1, me2 prog w tup u2].take n) (hn : n ≤ 3) (h0 : 0 < n ∨ ∀ y t, v ≠ .str y t) (h : Q (upto n j) s) :
    wpAny (model prog w) A (dictFind D v hv) Q E s := by
  refine mfind hu K ho hd (fun i e hi => ?_) (fun i hi => ?_) (fun e hm a ea ek => ?_) (fun x t ex => ?_) h
  · rw [← Array.getElem?_toList, he] at hi
    obtain ⟨hin, hcase⟩ := md_at hi
    have hdec : decide (upto n j = some i) = decide (j = some i) := decide_eq_decide.mpr (by rw [upto_some]; exact ⟨fun z => z.1, fun z => ⟨z, hin⟩⟩)
    rw [hdec]
    rcases hcase with ⟨rfl, rfl⟩ | ⟨rfl, rfl⟩ | ⟨rfl, rfl⟩
    · exact ⟨_, mkey_int prog w _ 1 t0, P.e0⟩
    · exact ⟨_, mkey_str prog w _ (Str.ofString "1") t1 (by decide +kernel), P.e1⟩
    · exact ⟨_, mkey_tup prog w _ 1 2 tup T, P.e2⟩
  · obtain ⟨hj, hin⟩ := upto_some.mp hi
    have h3 := c3 i hj
    have hg : ∀ e, ([me0 t0 u0, me1 w t1 u1, me2 prog w tup u2])[i]? = some e → es[i]? = some e := fun e z => by
      rw [← Array.getElem?_toList, he, List.getElem?_take, if_pos hin]; exact z
    match i, h3 with
    | 0, _ => exact ⟨_, hg _ rfl, (c0 hj).symm⟩
    | 1, _ => exact ⟨_, hg _ rfl, (c1 hj).symm⟩
    | 2, _ => exact ⟨_, hg _ rfl, (c2 hj).symm⟩
  · obtain ⟨i, hi⟩ := List.mem_iff_getElem?.mp (Array.mem_toList_iff.mpr hm)
    rw [he] at hi
    obtain ⟨-, ⟨rfl, rfl⟩ | ⟨rfl, rfl⟩ | ⟨rfl, rfl⟩⟩ := md_at hi
    · rw [ea] at ek; cases ek
    · rw [ea] at ek; cases ek
    · exact (c4 ek.symm).symm
  · rcases h0 with h0 | h0
    · have hm : me0 t0 u0 ∈ es := by
        rw [← Array.mem_toList_iff, he]
        obtain ⟨n, rfl⟩ : ∃ k, n = k + 1 := ⟨n - 1, by omega⟩
        exact .head _
      cases hq : es.all fun e => isExactStrKey e.key with
      | false => rfl
      | true =>
        rw [Array.all_eq_true'] at hq
        have := hq _ hm
        cases this
    · exact absurd ex (h0 x t)
theorem md_get {Q : Option Value → Shared → Prop} (hu : A.units + 2 < cLine) (K : MAsk prog w s.heap tup v j) (T : Tup12 s.heap tup) (ho : s.heap.get? D = some o) (x : MD prog w tup n o) (hn : n ≤ 3) (h0 : 0 < n ∨ ∀ y t, v ≠ .str y t)
    (hnone : upto n j = none → ∀ tk, Q none { s with toks := tk }) (hsome : ∀ i, upto n j = some i → ∀ u tk, Q (some (.int (i : Nat) u)) { s with toks := tk }) : wpAny (model prog w) A (dictGet D v) Q E s := by
  obtain ⟨d, hv, K, P, c0, c1, c2, c3, c4⟩ := K
  obtain ⟨es, ep, t0, u0, t1, u1, u2, hx, hd, he⟩ := x
  unfold dictGet
  try with_reducible refine wpAny_holding ?_
  refine wpAny_bind (K.hash rfl hu fun tk => wpAny_bind (md_find (s := { s with toks := tk }) hu K P c0 c1 c2 c3 c4 T ho hd he hn h0 ?_))
  cases hj : upto n j with
  | none => exact wpAny_pure (hnone hj tk)
  | some i =>
    obtain ⟨hji, hin⟩ := upto_some.mp hj
    have h3 := c3 i hji
    refine wpAny_bind (wpAny_dictEntries (s := { s with toks := tk }) ho hd (wpAny_pure ?_))
    have hg : ∃ u, es[i]?.map (·.val) = some (.int (i : Nat) u) := by
      rw [← Array.getElem?_toList, he, List.getElem?_take, if_pos hin]
      match i, h3 with
      | 0, _ => exact ⟨_, rfl⟩
      | 1, _ => exact ⟨_, rfl⟩
      | 2, _ => exact ⟨_, rfl⟩
    obtain ⟨u, eu⟩ := hg
    rw [eu]
    exact hsome i hj u tk
end
end Mine
end PG1

section PG2
set_option maxRecDepth 100000
set_option maxHeartbeats 4000000
namespace Mine
theorem MD.exact {prog : Program} {w : World} {tup : Addr} {n : Nat} {o : Obj} (x : MD prog w tup n o) : o.ExactDict := let ⟨_, _, _, _, _, _, _, a, _⟩ := x; a
section
variable {prog : Program} {w : World} {A : Around} {E : Value → Shared → Prop} {s : Shared} {h₀ : Heap} {L : Addr} {m : Str → Option Value} {news : List (Addr × Obj)} {D tup : Addr} {o : Obj} {n : Nat} {v : Value} {j : Option Nat}
theorem md_type (ho : s.heap.get? D = some o) (x : MD prog w tup n o) : s.TypeIs (.ref D) "dict" := ⟨o, ho, x.exact.1⟩

theorem dict_contains {Q : Bool → Shared → Prop} (hT : s.TypeIs (.ref D) "dict") (h : wpAny (model prog w) A.in1 (Builtin.«dict.__contains__» ⟨[.ref D, v], []⟩) (fun fin s' => ∃ b, fin = .done (.ret (.bool b)) ∧ Q b s') E s) :
    wpAny (model prog w) A (contains (.ref D) v) Q E s := by
  unfold contains
  try with_reducible refine wpAny_holding ?_
  refine wpAny_bind (wpAny_specialOf hT slot_dict_contains.lookup ?_)
  show wpAny _ _ (if (some (Value.builtin "dict.__contains__") == some Value.none) = true then _ else _) _ E s
  rw [if_neg (by rw [beq_builtin_none]; exact Bool.false_ne_true)]
  refine wpAny_bind (wpAny_callSpecialUnlessNone?_slot (name := Str.ofString "__contains__") hT slot_dict_contains
    (wpAny_call_entry slot_dict_contains hT entry_dict_contains (wpAny_mono h (fun fin s' z => ?_) fun _ _ z => z) (args_dict_contains _ _)))
  obtain ⟨b, rfl, hq⟩ := z
  exact ⟨_, rfl, wpAny_truthy_bool hq⟩

theorem md_contains {Q : Bool → Shared → Prop} (hu : A.units + 4 < cLine) (K : MAsk prog w s.heap tup v j) (T : Tup12 s.heap tup) (ho : s.heap.get? D = some o) (x : MD prog w tup n o) (hD : (D == sysModules) = false) (hn : n ≤ 3) (h0 : 0 < n ∨ ∀ y t, v ≠ .str y t)
    (h : ∀ tk, Q (upto n j).isSome { s with toks := tk }) : wpAny (model prog w) A (contains (.ref D) v) Q E s := by
  refine dict_contains (md_type ho x) ?_
  show wpAny _ _ (dictGet D v >>= _) _ _ s
  refine wpAny_bind (md_get (A := A.in1) (by show A.units + 1 + 2 < cLine; omega) K T ho x hn h0 (fun hj tk => ?_) (fun i hj u tk => ?_))
  · have := h tk
    rw [hj] at this
    show wpAny _ _ (Builtin.Dict.pendingKey? D v >>= _) _ _ _
    exact wpAny_bind (wpAny_pendingKey_other hD (wpAny_pure ⟨_, rfl, this⟩))
  · have := h tk
    rw [hj] at this
    exact wpAny_pure ⟨_, rfl, this⟩
theorem md_in {Q : Value → Shared → Prop} (hu : A.units + 4 < cLine) (N : News h₀ L s.heap news) (K : MAsk prog w s.heap tup v j) (T : Tup12 s.heap tup) (hm : (D, o) ∈ news) (x : MD prog w tup n o) (hD : (D == sysModules) = false) (hn : n ≤ 3) (h0 : 0 < n ∨ ∀ y t, v ≠ .str y t)
    (h : ∀ tk, Q (.bool (upto n j).isSome) { s with toks := tk }) : wpAny (model prog w) A (compareOp .In v (.ref D)) Q E s := by
  show wpAny _ _ (do return .bool (← contains (.ref D) v)) Q E s
  exact wpAny_bind (md_contains hu K T (N _ hm).1 x hD hn h0 fun tk => wpAny_pure (h tk))
theorem md_notin {Q : Value → Shared → Prop} (hu : A.units + 4 < cLine) (N : News h₀ L s.heap news) (K : MAsk prog w s.heap tup v j) (T : Tup12 s.heap tup) (hm : (D, o) ∈ news) (x : MD prog w tup n o) (hD : (D == sysModules) = false) (hn : n ≤ 3) (h0 : 0 < n ∨ ∀ y t, v ≠ .str y t)
    (h : ∀ tk, Q (.bool (!(upto n j).isSome)) { s with toks := tk }) : wpAny (model prog w) A (compareOp .NotIn v (.ref D)) Q E s := by
  show wpAny _ _ (do return .bool (!(← contains (.ref D) v))) Q E s
  exact wpAny_bind (md_contains hu K T (N _ hm).1 x hD hn h0 fun tk => wpAny_pure (h tk))
theorem md_tail {value slice : Expr} {i : Nat} {Q : Value → Shared → Prop} (hu : A.units + 4 < cLine) (N : News h₀ L s.heap news) (K : MAsk prog w s.heap tup v j) (T : Tup12 s.heap tup) (hm : (D, o) ∈ news) (x : MD prog w tup n o) (hn : n ≤ 3) (h0 : 0 < n ∨ ∀ y t, v ≠ .str y t) (hj : upto n j = some i)
    (h : ∀ u tk, Q (.int (i : Nat) u) { s with toks := tk }) (hs : subscripted slice false (.ref D) v = operate [.ref D, v] (getItem (.ref D) v) := by with_unfolding_all rfl) :
    wpAny (model prog w) A (subscriptTail value slice (.ref D) v) Q E s := by
  have ho := (N _ hm).1
  refine tail_any (md_type ho x) slot_dict_getitem.lookup ?_ hs
  unfold getItem
  try with_reducible refine wpAny_holding ?_
  refine wpAny_bind (wpAny_sequenceKey (md_type ho x) (by decide) ?_)
  refine wpAny_bind (wpAny_callSpecial?_slot (name := Str.ofString "__getitem__") (md_type ho x) slot_dict_getitem
    (wpAny_call_entry slot_dict_getitem (md_type ho x) entry_dict_getitem ?_ (args_dict_getitem _ _)))
  show wpAny _ _ (dictGet D v >>= _) _ _ s
  refine wpAny_bind (md_get (A := A.in1) (by show A.units + 1 + 2 < cLine; omega) K T ho x hn h0 (fun hj' tk => ?_) (fun i' hj' u tk => ?_))
  · rw [hj] at hj'; cases hj'
  · rw [hj] at hj'
    obtain rfl := Option.some.inj hj'
    exact wpAny_pure ⟨_, rfl, wpAny_pure (h u tk)⟩

/-- the key that comes next -/
def MNext (tup : Addr) (n : Nat) (v : Value) : Prop := (n = 0 ∧ ∃ t, v = .int 1 t) ∨ (n = 1 ∧ ∃ t, v = .str (Str.ofString "1") t) ∨ (n = 2 ∧ v = .ref tup)
theorem ask_int1 (prog : Program) (w : World) (h : Heap) (tup : Addr) (t : Tok) : MAsk prog w h tup (.int 1 t) (some 0) := by
  refine ⟨.int 1, _, mkey_int prog w h 1 t, ⟨by decide +kernel, by decide +kernel, by decide +kernel⟩, fun _ => rfl, fun e => ?_, fun e => ?_, fun i e => ?_, fun e => ?_⟩
  · cases e
  · cases e
  · cases e; decide
  · cases e
theorem ask_true (prog : Program) (w : World) (h : Heap) (tup : Addr) : MAsk prog w h tup (.bool true) (some 0) := by
  refine ⟨.bool true, _, mkey_bool prog w h, ⟨by decide +kernel, by decide +kernel, by decide +kernel⟩, fun _ => rfl, fun e => ?_, fun e => ?_, fun i e => ?_, fun e => ?_⟩
  · cases e
  · cases e
  · cases e; decide
  · cases e
theorem ask_int2 (prog : Program) (w : World) (h : Heap) (tup : Addr) (t : Tok) : MAsk prog w h tup (.int 2 t) none := by
  refine ⟨.int 2, _, mkey_int prog w h 2 t, ⟨by decide +kernel, by decide +kernel, by decide +kernel⟩, fun e => ?_, fun e => ?_, fun e => ?_, fun i e => ?_, fun e => ?_⟩ <;> cases e
theorem ask_str1 (prog : Program) (w : World) (h : Heap) (tup : Addr) (t : Tok) : MAsk prog w h tup (.str (Str.ofString "1") t) (some 1) := by
  refine ⟨.str (Str.ofString "1"), _, mkey_str prog w h _ t (by decide +kernel), ⟨by decide +kernel, by decide +kernel, by decide +kernel⟩, fun e => ?_, fun _ => rfl, fun e => ?_, fun i e => ?_, fun e => ?_⟩
  · cases e
  · cases e
  · cases e; decide
  · cases e
theorem ask_str2 (prog : Program) (w : World) (h : Heap) (tup : Addr) (t : Tok) : MAsk prog w h tup (.str (Str.ofString "2") t) none := by
  refine ⟨.str (Str.ofString "2"), _, mkey_str prog w h _ t (by decide +kernel), ⟨by decide +kernel, by decide +kernel, by decide +kernel⟩, fun e => ?_, fun e => ?_, fun e => ?_, fun i e => ?_, fun e => ?_⟩ <;> cases e
theorem ask_tup12 (prog : Program) (w : World) (h : Heap) (tup t : Addr) (T : Tup12 h t) : MAsk prog w h tup (.ref t) (some 2) := by
  refine ⟨_, _, mkey_tup prog w h 1 2 t T, ⟨by decide +kernel, by decide +kernel, by decide +kernel⟩, fun e => ?_, fun e => ?_, fun _ => rfl, fun i e => ?_, fun _ => rfl⟩
  · cases e
  · cases e
  · cases e; decide
theorem ask_tup21 (prog : Program) (w : World) (h : Heap) (tup t : Addr) (T : ∃ ta tb c, h.get? t = some (tupO 2 1 ta tb c)) (hne : t ≠ tup) : MAsk prog w h tup (.ref t) none := by
  refine ⟨_, _, mkey_tup prog w h 2 1 t T, ⟨by decide +kernel, by decide +kernel, by decide +kernel⟩, fun e => ?_, fun e => ?_, fun e => ?_, fun i e => ?_, fun e => ?_⟩
  · cases e
  · cases e
  · cases e
  · cases e
  · injection e with e; exact absurd e hne
theorem next_ask {h : Heap} (T : Tup12 h tup) (hv : MNext tup n v) : MAsk prog w h tup v (some n) := by
  rcases hv with ⟨rfl, t, rfl⟩ | ⟨rfl, t, rfl⟩ | ⟨rfl, rfl⟩
  · exact ask_int1 ..
  · exact ask_str1 ..
  · exact ask_tup12 _ _ _ _ _ T
theorem next_lt (hv : MNext tup n v) : n < 3 := by
  rcases hv with ⟨rfl, t, rfl⟩ | ⟨rfl, t, rfl⟩ | ⟨rfl, rfl⟩ <;> decide
theorem next_str (hv : MNext tup n v) : 0 < n ∨ ∀ y t, v ≠ .str y t := by
  rcases hv with ⟨rfl, t, rfl⟩ | ⟨rfl, t, rfl⟩ | ⟨rfl, rfl⟩
  · exact .inr fun y t e => by cases e
  · exact .inl (by decide)
  · exact .inl (by decide)

theorem md_set {u : Tok} {g : Obj → List (Addr × Obj)} {Q : Unit → Shared → Prop} (hu : A.units + 4 < cLine) (F : Fr h₀ L s.heap m) (N : News h₀ L s.heap news) (U : UpdF D o news g) (x : MD prog w tup n o) (T : Tup12 s.heap tup) (hv : MNext tup n v)
    (h : ∀ o' h' tk, Fr h₀ L h' m → News h₀ L h' (g o') → MD prog w tup (n + 1) o' → Q () { s with heap := h', toks := tk }) :
    wpAny (model prog w) A (setItem (.ref D) v (.int (n : Nat) u)) Q E s := by
  obtain ⟨pre, post, rfl, hg, a, b⟩ := U.split
  have hDm : (D, o) ∈ pre ++ (D, o) :: post := by simp
  have ho := (N _ hDm).1
  have hT := md_type ho x
  have K := next_ask (prog := prog) (w := w) T hv
  have hn3 := next_lt hv
  have h0 := next_str hv
  obtain ⟨d, hh, K, P, c0, c1, c2, c3, c4⟩ := K
  obtain ⟨es, ep, t0, u0, t1, u1, u2, hx, hd, he⟩ := x
  unfold setItem
  try with_reducible refine wpAny_holding ?_
  refine wpAny_bind (wpAny_sequenceKey hT (by decide) ?_)
  refine wpAny_bind (wpAny_callSpecial?_slot (name := Str.ofString "__setitem__") hT slot_dict_setitem
    (wpAny_call_entry slot_dict_setitem hT entry_dict_setitem ?_ (args_dict_setitem _ _ _)))
  show wpAny _ _ (Builtin.Dict.notOrdered "__setitem__" ⟨[.ref D, v, .int (n : Nat) u], []⟩ >>= _) _ _ s
  refine wpAny_bind (wpAny_notOrdered_dict hT ?_)
  show wpAny _ _ (dictSet D v (.int (n : Nat) u) >>= _) _ _ s
  refine wpAny_bind ?_
  unfold dictSet
  try with_reducible refine wpAny_holding ?_
  refine wpAny_bind (K.hash rfl (by show A.units + 1 + 2 < cLine; omega) fun tk => ?_)
  unfold dictSetHashed
  try with_reducible refine wpAny_holding ?_
  refine wpAny_bind (md_find (A := A.in1) (s := { s with toks := tk }) (by show A.units + 1 + 2 < cLine; omega) K P c0 c1 c2 c3 c4 T ho hd he (by omega) h0 ?_)
  have hjn : upto n (some n) = none := by unfold upto; simp
  rw [hjn]
  have hsz : es.size ≤ 3 := by
    rw [← Array.length_toList, he, List.length_take]; exact Nat.le_trans (Nat.min_le_right _ _) (Nat.le_refl 3)
  refine wpAny_bind (wpAny_rule (wpAny_updateDictKeys (hz := by rw [sizeLine_eq]; omega) (s := { s with toks := tk }) ho hd (wpAny_pure ⟨.none, rfl, wpAny_pure ?_⟩)))
  obtain ⟨F', N'⟩ := news_upd (f := fun ob => ob.mapDictKeys (·.push ⟨hh, v, .int (n : Nat) u⟩)) (o' := o.mapDictKeys (·.push ⟨hh, v, .int (n : Nat) u⟩)) F N a b rfl (Obj.isFreed_of_dict (Obj.data_mapDictKeys hd _))
  refine h _ _ tk F' (by rw [hg]; exact N') ?_
  have hlist : ∃ t0 u0 t1 u1 u2, (es.push ⟨hh, v, .int (n : Nat) u⟩).toList = [me0 t0 u0, me1 w t1 u1, me2 prog w tup u2].take (n + 1) := by
    rw [Array.toList_push, he]
    rcases hv with ⟨rfl, t, rfl⟩ | ⟨rfl, t, rfl⟩ | ⟨rfl, rfl⟩
    · rw [c0 rfl]; exact ⟨t, u, t1, u1, u2, rfl⟩
    · rw [c1 rfl]; exact ⟨t0, u0, t, u, u2, rfl⟩
    · rw [c2 rfl]; exact ⟨t0, u0, t1, u1, u, rfl⟩
  obtain ⟨t0, u0, t1, u1, u2, e⟩ := hlist
  exact ⟨_, _, t0, u0, t1, u1, u2, hx.mapDictKeys _, Obj.data_mapDictKeys hd _, e⟩
end
end Mine
end PG2

section PG3
set_option maxRecDepth 100000
set_option maxHeartbeats 4000000
namespace Mine
theorem look_list_hash : typeLookup (.type "list") "__hash__" = pure (some .none) := by rw [typeLookup_type, builtinLookup_eq_fast]; kernel_rfl
section
variable {prog : Program} {w : World} {A : Around} {E : Value → Shared → Prop} {s : Shared} {h₀ : Heap} {L : Addr} {m : Str → Option Value} {news : List (Addr × Obj)} {D l : Addr} {o : Obj} {us : Array Value} {k n : Nat} {tup : Addr}
theorem hash_list {Q : Int → Shared → Prop} (hu : A.units < cLine) (hh : A.handled = none) (hT : s.TypeIs (.ref l) "list")
    (h : ∀ h' tk e, Heap.NewExc s.heap h' e "TypeError" → E (.ref e) { s with heap := h', toks := tk }) : wpAny (model prog w) A (pyHash (.ref l)) Q E s := by
  unfold pyHash
  first | unfold pyHashByItsType | skip
  first | refine wpAny_bind (wpAny_cRoomFor_or (.inr hu) ?_) | skip
  refine wpAny_bind (wpAny_specialOf hT look_list_hash ?_)
  rw [if_pos (by decide)]
  refine wpAny_bind (wpAny_rule (wpAny_bind (wpAny_typeNameOf' hT (by decide) ?_)))
  refine wpAny_bind (wpAny_raiseErrorMade plainExc_TypeError hh h ?_)
  decide +kernel
theorem get_list {Q : Option Value → Shared → Prop} (hu : A.units < cLine) (hh : A.handled = none) (hT : s.TypeIs (.ref l) "list")
    (h : ∀ h' tk e, Heap.NewExc s.heap h' e "TypeError" → E (.ref e) { s with heap := h', toks := tk }) : wpAny (model prog w) A (dictGet D (.ref l)) Q E s := by
  unfold dictGet
  try with_reducible refine wpAny_holding ?_
  exact wpAny_bind (hash_list hu hh hT h)
theorem contains_list {Q : Bool → Shared → Prop} (hu : A.units + 1 < cLine) (hh : A.handled = none) (hT : s.TypeIs (.ref l) "list") (hD : s.TypeIs (.ref D) "dict")
    (h : ∀ h' tk e, Heap.NewExc s.heap h' e "TypeError" → E (.ref e) { s with heap := h', toks := tk }) : wpAny (model prog w) A (contains (.ref D) (.ref l)) Q E s := by
  refine dict_contains hD ?_
  show wpAny _ _ (dictGet D (.ref l) >>= _) _ _ s
  exact wpAny_bind (get_list (A := A.in1) hu hh hT h)
theorem list_type (N : News h₀ L s.heap news) (hl : (l, W.listOf us k) ∈ news) : s.TypeIs (.ref l) "list" := ⟨_, (N _ hl).1, rfl⟩
theorem in_list_raises {Q : Value → Shared → Prop} (hu : A.units + 1 < cLine) (hh : A.handled = none) (N : News h₀ L s.heap news) (hl : (l, W.listOf us k) ∈ news) (hm : (D, o) ∈ news) (x : MD prog w tup n o)
    (h : ∀ h' tk e, Heap.NewExc s.heap h' e "TypeError" → E (.ref e) { s with heap := h', toks := tk }) : wpAny (model prog w) A (compareOp .In (.ref l) (.ref D)) Q E s := by
  show wpAny _ _ (do return .bool (← contains (.ref D) (.ref l))) Q E s
  exact wpAny_bind (contains_list hu hh (list_type N hl) (md_type (N _ hm).1 x) h)
theorem notin_list_raises {Q : Value → Shared → Prop} (hu : A.units + 1 < cLine) (hh : A.handled = none) (N : News h₀ L s.heap news) (hl : (l, W.listOf us k) ∈ news) (hm : (D, o) ∈ news) (x : MD prog w tup n o)
    (h : ∀ h' tk e, Heap.NewExc s.heap h' e "TypeError" → E (.ref e) { s with heap := h', toks := tk }) : wpAny (model prog w) A (compareOp .NotIn (.ref l) (.ref D)) Q E s := by
  show wpAny _ _ (do return .bool (!(← contains (.ref D) (.ref l)))) Q E s
  exact wpAny_bind (contains_list hu hh (list_type N hl) (md_type (N _ hm).1 x) h)
theorem set_list_raises {v : Value} {Q : Unit → Shared → Prop} (hu : A.units + 1 < cLine) (hh : A.handled = none) (N : News h₀ L s.heap news) (hl : (l, W.listOf us k) ∈ news) (hm : (D, o) ∈ news) (x : MD prog w tup n o)
    (h : ∀ h' tk e, Heap.NewExc s.heap h' e "TypeError" → E (.ref e) { s with heap := h', toks := tk }) : wpAny (model prog w) A (setItem (.ref D) (.ref l) v) Q E s := by
  have hT := md_type (N _ hm).1 x
  unfold setItem
  try with_reducible refine wpAny_holding ?_
  refine wpAny_bind (wpAny_sequenceKey hT (by decide) ?_)
  refine wpAny_bind (wpAny_callSpecial?_slot (name := Str.ofString "__setitem__") hT slot_dict_setitem
    (wpAny_call_entry slot_dict_setitem hT entry_dict_setitem ?_ (args_dict_setitem _ _ _)))
  show wpAny _ _ (Builtin.Dict.notOrdered "__setitem__" ⟨[.ref D, .ref l, v], []⟩ >>= _) _ _ s
  refine wpAny_bind (wpAny_notOrdered_dict hT ?_)
  show wpAny _ _ (dictSet D (.ref l) v >>= _) _ _ s
  refine wpAny_bind ?_
  unfold dictSet
  try with_reducible refine wpAny_holding ?_
  exact wpAny_bind (hash_list (A := A.in1) hu hh (list_type N hl) h)
end
end Mine
end PG3

section PG4
namespace Mine
theorem top_off_G4 : True := by
  w_top off
  trivial
end Mine
set_option maxRecDepth 100000
set_option maxHeartbeats 8000000
namespace Mine
local macro_rules | `(tactic| k_inst) => `(tactic| (refine' inst_of_news ?N ?h1 ?h2; (case N => k_asm); (case h1 => k_mem); (case h2 => k_mem)))
local macro_rules | `(tactic| k_all) => `(tactic| first | assumption | exact allNe_all (by assumption) | exact allLt_ne (by assumption) | exact allLt_ne (And.right (by assumption)) | exact allLt_ne (And.right (And.right (by assumption))) | exact allLt_ne (And.right (And.right (And.right (by assumption)))) | exact allLt_ne (And.right (And.right (And.right (And.right (by assumption))))))
local macro_rules | `(tactic| walk_at "setAttr ref") => `(tactic| (k_here; k_dflt (refine' setL_dict ?k1 ?k2 ?k3 ?k4 ?k5 ?k6 ?k7 ?k8 ?k9 ?k10 ?k11 ?k12 ?k13 ?_; (case k1 => k_asm); (case k2 => k_asm); (case k3 => k_asm); (case k4 => k_inst); (case k5 => exact rfl); (case k6 => k_is); (case k7 => exact mroC _); (case k8 => k_is); (case k9 => k_is); (case k10 => k_get); (case k11 => k_put); (case k12 => k_upd); (case k13 => exact Nat.le_of_ble_eq_true rfl); k_whole; intro h' F' N'; (try k_sweep))))
local macro_rules | `(tactic| walk_at "setAttr ref") => `(tactic| (k_here; (first | ((with_reducible show wpAny _ _ (setAttr (Value.ref _) (Str.ofString "_dict") _) _ _ _); k_dflt (refine' set_d ?k1 ?k2 ?k3 ?k4 ?k5 ?k6 ?k7 ?k8 ?k9 ?_)) | ((with_reducible show wpAny _ _ (setAttr (Value.ref _) (Str.ofString "clean") _) _ _ _); k_dflt (refine' set_c ?k1 ?k2 ?k3 ?k4 ?k5 ?k6 ?k7 ?k8 ?k9 ?_))); (case k1 => k_asm); (case k2 => k_asm); (case k3 => k_asm); (case k4 => k_mem); (case k5 => k_dflt k_is); (case k6 => exact mroC _); (case k7 => k_dflt k_is); (case k8 => k_dflt k_is); (case k9 => k_dflt k_upd); k_whole; intro h' F' N'; (try k_sweep)))
local macro_rules | `(tactic| walk_at "eval Dict nil nil") => `(tactic| (k_here; k_dflt (refine' new_dictK ?k1 ?k2 (TopRead.nolimit (by k_asm)) ?_; (case k1 => k_asm); (case k2 => k_asm); k_whole); intro d' h' F' N' l1 lo'; (try k_lt l1); (try k_sweep)))
local macro_rules | `(tactic| walk_at "exec For Name Name cons nil") => `(tactic| (refine Stop.out ?_))
local macro_rules | `(tactic| walk_at "exec For Name Call cons nil") => `(tactic| (refine Stop.out ?_))
local macro_rules | `(tactic| walk_at "exec For Tuple Call cons nil") => `(tactic| (refine Stop.out ?_))
local macro_rules | `(tactic| walk_at "pyIter ref") => `(tactic| ((with_reducible show wpAny _ _ (pyIter (Value.ref _)) (fun it s₂ => LoopAtV _ _ _ _ _ _ _ _ _ it s₂) _ _); refine Stop.out ?_))
local macro_rules | `(tactic| walk_at "compareOp NotIn int ref") => `(tactic| (k_here; k_dflt ((first | refine' dm_notin_t ?k1 ?k2 ?k3 ?k4 ?k5 ?_; (case k1 => k_asm); (case k2 => k_mem); (case k3 => assumption); (case k4 => assumption); (case k5 => assumption) | refine' dm_notin_f ?k1 ?k2 ?k3 ?k4 ?k5 ?_; (case k1 => k_asm); (case k2 => k_mem); (case k3 => assumption); (case k4 => assumption); (case k5 => assumption)))))
local macro_rules | `(tactic| walk_at "compareOp In int ref") => `(tactic| (k_here; k_dflt ((first | refine' dm_in_t ?k1 ?k2 ?k3 ?k4 ?k5 ?_; (case k1 => k_asm); (case k2 => k_mem); (case k3 => assumption); (case k4 => assumption); (case k5 => assumption) | refine' dm_in_f ?k1 ?k2 ?k3 ?k4 ?k5 ?_; (case k1 => k_asm); (case k2 => k_mem); (case k3 => assumption); (case k4 => assumption); (case k5 => assumption)))))
local macro_rules | `(tactic| walk_at "setItem ref int") => `(tactic| (k_here; k_dflt (refine' dm_set ?k1 ?k2 ?k3 ?k4 ?k5 ?_; (case k1 => k_asm); (case k2 => k_asm); (case k3 => k_updF); (case k4 => assumption); (case k5 => omega); k_whole); intro o' h' F' N' x'; (try dsimp only at N'); (try k_sweep)))
local macro_rules | `(tactic| walk_at "getAttr ref") => `(tactic| (k_here; (first | ((with_reducible show wpAny _ _ (getAttr (Value.ref _) (Str.ofString "_dict") _) _ _ _); k_dflt (refine' getA_d ?k1 ?k2 ?k3 ?k4 ?k5 ?k6 ?k7 ?k8 ?k9 ?k10 ?k11 ?_)) | ((with_reducible show wpAny _ _ (getAttr (Value.ref _) (Str.ofString "clean") _) _ _ _); k_dflt (refine' getA_c ?k1 ?k2 ?k3 ?k4 ?k5 ?k6 ?k7 ?k8 ?k9 ?k10 ?k11 ?_))); (case k1 => k_asm); (case k2 => k_asm); (case k3 => k_asm); (case k4 => k_mem); (case k5 => k_mem); (case k6 => exact mroC _); (case k7 => k_dflt k_is); (case k8 => k_dflt k_is); (case k9 => k_dflt k_is); (case k10 => k_dflt k_is); (case k11 => k_dflt k_is); k_whole))
local macro_rules | `(tactic| walk_at "getMethod ref") => `(tactic| (k_here; k_dflt (refine' methA ?k1 ?k2 ?k3 ?k4 ?k5 ?k6 ?k7 ?k8 ?k9 ?k10 ?k11 ?_; (case k1 => k_asm); (case k2 => k_asm); (case k3 => k_asm); (case k4 => k_mem); (case k5 => k_mem); (case k6 => k_is); (case k7 => k_is); (case k8 => k_is); (case k9 => k_is); (case k10 => decide); (case k11 => k_get); k_whole)))
local macro_rules | `(tactic| walk_at "compareOp In int ref") => `(tactic| (k_here; k_dflt (refine' in_own ?k1 ?k2 ?k3 ?k4 ?k5 ?k6 ?_; (case k1 => k_asm); (case k2 => k_asm); (case k3 => k_asm); (case k4 => k_mem); (case k5 => k_is); (case k6 => k_is); k_whole)))
local macro_rules | `(tactic| walk_at "compareOp NotIn int ref") => `(tactic| (k_here; k_dflt (refine' notin_own ?k1 ?k2 ?k3 ?k4 ?k5 ?k6 ?_; (case k1 => k_asm); (case k2 => k_asm); (case k3 => k_asm); (case k4 => k_mem); (case k5 => k_is); (case k6 => k_is); k_whole)))
local macro_rules | `(tactic| walk_at "compareOp In int ref") => `(tactic| (k_here; k_dflt (refine' dm_in ?k1 ?k2 ?k3 ?k4 ?_; (case k1 => k_asm); (case k2 => k_mem); (case k3 => assumption); (case k4 => assumption))))
local macro_rules | `(tactic| walk_at "compareOp In int ref") => `(tactic| (k_here; k_dflt (first | refine' dm_in_t ?k1 ?k2 ?k3 ?k4 ?k5 ?_; (case k1 => k_asm); (case k2 => k_mem); (case k3 => assumption); (case k4 => assumption); (case k5 => assumption) | refine' dm_in_f ?k1 ?k2 ?k3 ?k4 ?k5 ?_; (case k1 => k_asm); (case k2 => k_mem); (case k3 => assumption); (case k4 => assumption); (case k5 => assumption))))
local macro_rules | `(tactic| walk_at "compareOp NotIn int ref") => `(tactic| (k_here; k_dflt (first | refine' dm_notin_t ?k1 ?k2 ?k3 ?k4 ?k5 ?_; (case k1 => k_asm); (case k2 => k_mem); (case k3 => assumption); (case k4 => assumption); (case k5 => assumption) | refine' dm_notin_f ?k1 ?k2 ?k3 ?k4 ?k5 ?_; (case k1 => k_asm); (case k2 => k_mem); (case k3 => assumption); (case k4 => assumption); (case k5 => assumption))))
local macro_rules | `(tactic| walk_at "subscriptTail") => `(tactic| (k_here; (with_reducible show wpAny _ _ (subscriptTail _ _ (Value.ref _) (Value.int _ _)) _ _ _); k_dflt (refine' dm_tail ?k1 ?k2 ?k3 ?k4 ?_; (case k1 => k_asm); (case k2 => k_mem); (case k3 => assumption); (case k4 => assumption))))
local macro_rules | `(tactic| walk_at "call ref") => `(tactic| ((first | (with_reducible show wpAny _ _ (call (Value.ref 37) _) _ _ _) | (with_reducible show wpAny _ _ (call (Value.ref 44) _) _ _ _) | (with_reducible show wpAny _ _ (call (Value.ref 51) _) _ _ _) | (with_reducible show wpAny _ _ (call (Value.ref 58) _) _ _ _) | (with_reducible show wpAny _ _ (call (Value.ref 65) _) _ _ _) | (with_reducible show wpAny _ _ (call (Value.ref 68) _) _ _ _) | (with_reducible show wpAny _ _ (call (Value.ref 79) _) _ _ _) | (with_reducible show wpAny _ _ (call (Value.ref 86) _) _ _ _) | (with_reducible show wpAny _ _ (call (Value.ref 93) _) _ _ _)); refine Stop.out ?_))
local macro_rules | `(tactic| walk_at "call builtin:len") => `(tactic| (k_here; (with_reducible show wpAny _ _ (call (Value.builtin "len") [Value.ref _]) _ _ _); k_dflt (refine' ll_len ?Y ?N ?hx ?hz ?_; (case N => k_asm); (case hx => k_mem); (case Y => (first | exact ll_own (by k_asm) (by k_asm) (by k_asm) (by k_mem) (mroC _) (by k_is) (by k_is) (by k_is) (by k_is) | exact ll_list (by k_asm) (by k_mem))); (case hz => first | omega | (simp only [Array.size_push]; omega)))))
local macro_rules | `(tactic| walk_at "call builtin:list.append") => `(tactic| (k_here; (with_reducible show wpAny _ _ (call (Value.builtin _) [Value.ref _, _]) _ _ _); k_dflt (refine' l_append ?F ?N ?hi ?U ?hz ?_; (case F => k_asm); (case N => k_asm); (case U => (intro k'; k_upd)); (case hi => first | exact is_news (by k_asm) (by k_asm) (by k_asm) (by k_mem) (mroC _) | exact is_list (by k_asm) (by k_mem)); (case hz => first | omega | (simp only [Array.size_push]; omega)); k_whole); intro k' h' F' N'; (try dsimp only at N'); (try k_sweep)))
local macro_rules | `(tactic| walk_at "getMethod type:list") => `(tactic| (k_here; refine' method_type ?F ?X ?m (by decide +kernel) ?e ?h ?_; (case F => k_asm); (case X => k_asm); (case m => exact meta_of_list); (case e => k_dflt k_is); (case h => k_handed)))
local macro_rules | `(tactic| walk_at "call type:enumerate") => `(tactic| (refine Stop.out ?_))
local macro_rules | `(tactic| ktr_enter) => `(tactic| (refine' code_def ?k1 ?k2 ?k3 ?k4 ?k5 ?kA ?kF ?kK ?k6 ?k7 ?k8 ?k9 ?kB ?_ ?c2 ?c3 ?c4 ?c5; (case kA => exact rfl); (case kF => exact rfl); (case kK => first | assumption | exact rfl); (case k1 => k_asm); (case k2 => k_asm); (case k3 => k_asm); (case k4 => k_asm); (case k5 => k_asm); (case k6 => k_is); (case k7 => k_is); (case k8 => ktr_room); (case k9 => first | exact BindsTo.of_eq rfl | exact binds_K (by k_in) rfl (by k_is) rfl rfl rfl); (case c5 => decide); (case kB => exact locs rfl); (case c2 => exact rfl); (case c3 => exact rfl); (case c4 => exact rfl); k_whole; intro g' L' h' FG' F' N' B' X' T'; (try dsimp only); (try k_fold)))
local macro_rules | `(tactic| walk_at "call type:list") => `(tactic| (k_here; (with_reducible show wpAny _ _ (call (Value.type "list") [Value.ref _]) _ _ _); k_dflt (refine' l_copy ?hh ?F ?X ?N ?hx ?hz (mroC _) ?h0 ?h1 ?h2 ?h3 ?h4 ?_; (case hh => exact rfl); (case F => k_asm); (case X => k_asm); (case N => k_asm); (case hx => k_mem); (case hz => omega); (case h0 => k_is); (case h1 => k_is); (case h2 => k_is); (case h3 => k_is); (case h4 => k_is); k_whole); intro l9 k9 h' tk9 F' N' lt9; (try k_sweep)))
local macro_rules | `(tactic| walk_at "subscriptTail") => `(tactic| (k_here; (with_reducible show wpAny _ _ (subscriptTail _ _ (Value.ref _) (Value.int _ _)) _ _ _); k_dflt (refine' li_tail ?k1 ?k2 ?k3 ?k4 ?_; (case k1 => k_asm); (case k2 => k_mem); (case k3 => assumption); (case k4 => omega))))
local macro_rules | `(tactic| walk_at "exec Raise some none") => `(tactic| (k_here; (with_reducible show wpAny _ _ (exec (Stmt.Raise (some (Expr.Name ("ValueError" : Str) _)) none _) _) _ _ _); (with_reducible rename Fr _ _ _ _ => kF); k_dflt (refine' raise_VE ?hh ?hs ?hx ?_; (case hh => rfl); (case hs => rw [isSubtype_type]; kernel_rfl); (case hx => (refine' name_B kF ?k1 ?k2 ?k3 ?k4 ?k5 ?_; (case k1 => k_asm); (case k2 => k_asm); (case k3 => k_is); (case k4 => boot_by_name); (case k5 => decide); exact ⟨rfl, rfl⟩)))))
local macro_rules | `(tactic| walk_at "my ask") => `(tactic| ((refine' code_ask ?k1 ?k2 ?k3 ?k4 ?k5 ?kA ?kF ?cK ?k6 ?k7 ?k8 ?k9 ?kB ?_ ?c2 ?c3 ?c4 ?c5; (case kA => exact rfl); (case kF => exact rfl); (case k2 => k_asm); (case k1 => k_asm); (case k3 => k_asm); (case k4 => k_asm); (case k5 => k_asm); (case k6 => k_is); (case k7 => k_is); (case k8 => ktr_room); (case k9 => first | exact BindsTo.of_eq rfl | exact binds_K (by k_in) rfl (by k_is) rfl rfl rfl); (case kB => exact locs rfl); (case cK => first | assumption | exact rfl); (case c2 => exact rfl); (case c3 => exact rfl); (case c4 => exact rfl); (case c5 => decide); k_whole; intro g' L' h' FG' F' N' B' X' T' D'; (try dsimp only); (try k_lift B'); (try k_fold))))
local macro_rules | `(tactic| walk_at "call builtin:list.insert") => `(tactic| (k_here; (with_reducible show wpAny _ _ (call (Value.builtin _) [Value.ref _, Value.int _ _, _]) _ _ _); k_dflt (refine' l_insert ?F ?N ?hi ?U ?hz ?h0 ?hn ?_; (case F => k_asm); (case N => k_asm); (case U => (intro k'; k_upd)); (case hi => (first | exact is_news (by k_asm) (by k_asm) (by k_asm) (by k_mem) (mroC _) | exact is_list (by k_asm) (by k_mem))); (case hz => omega); (case h0 => omega); (case hn => omega); k_whole); intro k' h' F' N'; (try dsimp only at N'); (try k_sweep)))
local macro_rules | `(tactic| walk_at "call builtin:list.extend") => `(tactic| (k_here; (with_reducible show wpAny _ _ (call (Value.builtin _) [Value.ref _, Value.ref _]) _ _ _); k_dflt (refine' l_extend ?F ?N ?hi ?hb ?U ?hz ?_; (case F => k_asm); (case N => k_asm); (case hb => k_mem); (case U => (intro k'; k_upd)); (case hi => (first | exact is_news (by k_asm) (by k_asm) (by k_asm) (by k_mem) (mroC _) | exact is_list (by k_asm) (by k_mem))); (case hz => (first | omega | (simp only [List.size_toArray, List.length_cons, List.length_nil]; omega))); k_whole); intro k' h' F' N'; (try dsimp only at N'); (try k_sweep)))
local macro_rules | `(tactic| walk_at "call builtin:list.reverse") => `(tactic| (k_here; (with_reducible show wpAny _ _ (call (Value.builtin _) [Value.ref _]) _ _ _); k_dflt (refine' l_reverse ?F ?N ?hi ?U ?hz ?_; (case F => k_asm); (case N => k_asm); (case U => (intro k'; k_upd)); (case hi => (first | exact is_news (by k_asm) (by k_asm) (by k_asm) (by k_mem) (mroC _) | exact is_list (by k_asm) (by k_mem))); (case hz => omega); k_whole); intro k' h' F' N'; (try dsimp only at N'); (try k_sweep)))
local macro_rules | `(tactic| walk_at "call builtin:list.sort") => `(tactic| (k_here; (with_reducible show wpAny _ _ (call (Value.builtin _) [Value.ref _]) _ _ _); k_dflt (refine' l_sort ?F ?N ?hi ?U ?hI ?h64 ?_; (case F => k_asm); (case N => k_asm); (case U => k_updF); (case hi => (first | exact is_news (by k_asm) (by k_asm) (by k_asm) (by k_mem) (mroC _) | exact is_list (by k_asm) (by k_mem))); (case hI => assumption); (case h64 => omega); k_whole); intro out ns' k' h' iI iP iS F' N'; (try dsimp only at N'); (try k_sweep)))
local macro_rules | `(tactic| walk_at "call builtin:list.pop") => `(tactic| (k_here; (with_reducible show wpAny _ _ (call (Value.builtin _) [Value.ref _, Value.int _ _]) _ _ _); k_dflt (refine' l_pop ?F ?N ?hi ?U ?hz ?h0 ?hv ?_; (case F => k_asm); (case N => k_asm); (case U => (intro k'; k_upd)); (case hi => (first | exact is_news (by k_asm) (by k_asm) (by k_asm) (by k_mem) (mroC _) | exact is_list (by k_asm) (by k_mem))); (case hz => omega); (case h0 => omega); (case hv => assumption); k_whole); intro k' h' F' N'; (try dsimp only at N'); (try k_sweep)))
local macro_rules | `(tactic| walk_at "call builtin:list.remove") => `(tactic| (k_here; (with_reducible show wpAny _ _ (call (Value.builtin _) [Value.ref _, Value.int _ _]) _ _ _); k_dflt (refine' l_remove ?F ?N ?hi ?U ?hz ?hI ?hj ?hno ?_; (case F => k_asm); (case N => k_asm); (case U => (intro k'; k_upd)); (case hI => assumption); (case hj => assumption); (case hno => assumption); (case hi => (first | exact is_news (by k_asm) (by k_asm) (by k_asm) (by k_mem) (mroC _) | exact is_list (by k_asm) (by k_mem))); (case hz => omega); k_whole); intro k' h' F' N'; (try dsimp only at N'); (try k_sweep)))
local macro_rules | `(tactic| walk_at "delItem ref int") => `(tactic| (k_here; k_dflt (refine' ll_del ?Y ?F ?N ?U ?hz ?h0 ?hn ?_; (case F => k_asm); (case N => k_asm); (case U => (intro k'; k_upd)); (case Y => (first | exact ll_own (by k_asm) (by k_asm) (by k_asm) (by k_mem) (mroC _) (by k_is) (by k_is) (by k_is) (by k_is) | exact ll_list (by k_asm) (by k_mem))); (case hz => omega); (case h0 => omega); (case hn => omega); k_whole); intro k' h' F' N'; (try dsimp only at N'); (try k_sweep)))
local macro_rules | `(tactic| walk_at "setItem ref ref") => `(tactic| (k_here; k_dflt (refine' set_slice_p ?F ?N ?he ?hs ?hq ?hb ?hab ?Y ?U ?hz ?h0 ?hn ?_; (case F => k_asm); (case N => k_asm); (case he => exact rfl); (case hs => exact rfl); (case hq => exact rfl); (case hb => k_mem); (case hab => k_ne); (case Y => (intro s' F' N'; (first | exact ll_own (by k_asm) (by k_asm) (by k_asm) (by k_mem) (mroC _) (by k_is) (by k_is) (by k_is) (by k_is) | exact ll_list (by k_asm) (by k_mem)))); (case U => (intro k'; k_upd)); (case hz => (first | omega | (simp only [List.size_toArray, List.length_cons, List.length_nil]; omega))); (case h0 => omega); (case hn => omega); k_whole); intro k' h' F' N'; (try dsimp only at N'); (try k_sweep)))
local macro_rules | `(tactic| walk_at "pad 0") => `(tactic| skip)
local macro_rules | `(tactic| walk_at "pad 1") => `(tactic| skip)
local macro_rules | `(tactic| walk_at "pad 2") => `(tactic| skip)
local macro_rules | `(tactic| walk_at "pad 3") => `(tactic| skip)
local macro_rules | `(tactic| walk_at "pad 4") => `(tactic| skip)
local macro_rules | `(tactic| walk_at "pad 5") => `(tactic| skip)
local macro_rules | `(tactic| walk_at "pad 6") => `(tactic| skip)
local macro_rules | `(tactic| walk_at "pad 7") => `(tactic| skip)
local macro_rules | `(tactic| walk_at "pad 8") => `(tactic| skip)
local macro_rules | `(tactic| walk_at "pad 9") => `(tactic| skip)
local macro_rules | `(tactic| walk_at "pad 10") => `(tactic| skip)
local macro_rules | `(tactic| walk_at "pad 11") => `(tactic| skip)
local macro_rules | `(tactic| walk_at "pad 12") => `(tactic| skip)
local macro_rules | `(tactic| walk_at "pad 13") => `(tactic| skip)
local macro_rules | `(tactic| walk_at "pad 14") => `(tactic| skip)
local macro_rules | `(tactic| walk_at "pad 15") => `(tactic| skip)
local macro_rules | `(tactic| walk_at "pad 16") => `(tactic| skip)
local macro_rules | `(tactic| walk_at "pad 17") => `(tactic| skip)
local macro_rules | `(tactic| walk_at "pad 18") => `(tactic| skip)
local macro_rules | `(tactic| walk_at "pad 19") => `(tactic| skip)
local macro_rules | `(tactic| walk_at "pad 20") => `(tactic| skip)
local macro_rules | `(tactic| walk_at "pad 21") => `(tactic| skip)
local macro_rules | `(tactic| walk_at "pad 22") => `(tactic| skip)
local macro_rules | `(tactic| walk_at "pad 23") => `(tactic| skip)
local macro_rules | `(tactic| walk_at "pad 24") => `(tactic| skip)
local macro_rules | `(tactic| walk_at "pad 25") => `(tactic| skip)
local macro_rules | `(tactic| walk_at "pad 26") => `(tactic| skip)
local macro_rules | `(tactic| walk_at "pad 27") => `(tactic| skip)
local macro_rules | `(tactic| walk_at "pad 28") => `(tactic| skip)
local macro_rules | `(tactic| walk_at "pad 29") => `(tactic| skip)
local macro_rules | `(tactic| walk_at "pad 30") => `(tactic| skip)
local macro_rules | `(tactic| walk_at "pad 31") => `(tactic| skip)
local macro_rules | `(tactic| walk_at "pad 32") => `(tactic| skip)
local macro_rules | `(tactic| walk_at "pad 33") => `(tactic| skip)
local macro_rules | `(tactic| walk_at "pad 34") => `(tactic| skip)
local macro_rules | `(tactic| walk_at "pad 35") => `(tactic| skip)
local macro_rules | `(tactic| walk_at "pad 36") => `(tactic| skip)
local macro_rules | `(tactic| walk_at "pad 37") => `(tactic| skip)
local macro_rules | `(tactic| walk_at "pad 38") => `(tactic| skip)
local macro_rules | `(tactic| walk_at "pad 39") => `(tactic| skip)
theorem news_tl {h₀ h : Heap} {L : Addr} {a : Addr × Obj} {l : List (Addr × Obj)} (N : News h₀ L h (a :: l)) : News h₀ L h l := fun p hp => N p (.tail _ hp)
section
variable {w : World} {p : Program} {loose : List Str} {mean : ExcName → Option Value} {mg mb : Str → Option Value}
  {dp un : Nat} {gd : Option (List Code)} {cn : Str} {cs : Scope} {ca : Addr} {ccd : Value} {cl : List (Str × Addr)} {outer : List Env} {A₀ : Around} {base h₀ : Heap} {L : Addr} {m : Str → Option Value} {s : Shared} {Q E : Value → Shared → Prop}

/-- the key v, and the pair that stands in the dict, are told by the ledger's end -/
def KeyOf (w : World) (rest : List (Addr × Obj)) (tup : Addr) (v : Value) (j : Option Nat) : Prop :=
  ∀ {h₀ : Heap} {L : Addr} {h : Heap}, News h₀ L h rest → MAsk PySem.Challenge.rw_aq6060_01.row.prog w h tup v j ∧ Tup12 h tup

theorem contains_m {x dx D tup : Addr} {vs : Array Value} {n k : Nat} {t1 t2 : Tok} {v : Value} {j : Option Nat} {o : Obj} {rest : List (Addr × Obj)}
    (B : Below A₀ base outer h₀) (F : Fr h₀ L s.heap m) (X : (hd.heap_39 w.params).In h₀) (T : Top p loose mean mg mb h₀) (hk : cs.kind = .function) (hdp : dp + 4 < recursionLimit) (hun : un + 110 < cLine)
    (N : News h₀ L s.heap ((D, o) :: (x, subObj 68 dx vs n) :: (dx, attrD w.params t1 t2 true D k) :: rest)) (hM : MD PySem.Challenge.rw_aq6060_01.row.prog w tup 3 o) (hD : (D == sysModules) = false) (hK : KeyOf w rest tup v j)
    (ret : ∀ h' tk', Fr h₀ L h' m → News h₀ L h' ((D, o) :: (x, subObj 68 dx vs n) :: (dx, attrD w.params t1 t2 true D k) :: rest) → Q (.bool (upto 3 j).isSome) { s with heap := h', toks := tk' }) :
    wpAny (model PySem.Challenge.rw_aq6060_01.row.prog w) (ktrTop dp un gd cn cs L ca ccd cl outer) (call (.ref 44) [.ref x, v]) Q E s := by
  refine wpAny_call ?_
  k_dflt ktr_enter
  k_steps
  rename News _ _ _ _ => kN
  have kK := hK (news_tl (news_tl (news_tl kN)))
  refine md_in ?hu kN kK.1 kK.2 (.head _) hM hD (Nat.le_refl 3) (.inl (by decide)) (fun tk => ?_)
  case hu => show un + 3 + 4 < cLine; omega
  k_steps
  rename Fr h₀ _ _ _ => kF
  rename News h₀ _ _ _ => kN
  exact ret _ _ kF kN

theorem index_m {x dx D tup : Addr} {vs : Array Value} {n k i : Nat} {t1 t2 : Tok} {v : Value} {j : Option Nat} {o : Obj} {rest : List (Addr × Obj)}
    (B : Below A₀ base outer h₀) (F : Fr h₀ L s.heap m) (X : (hd.heap_39 w.params).In h₀) (T : Top p loose mean mg mb h₀) (hk : cs.kind = .function) (hdp : dp + 6 < recursionLimit) (hun : un + 120 < cLine)
    (N : News h₀ L s.heap ((D, o) :: (x, subObj 68 dx vs n) :: (dx, attrD w.params t1 t2 true D k) :: rest)) (hM : MD PySem.Challenge.rw_aq6060_01.row.prog w tup 3 o) (hD : (D == sysModules) = false) (hK : KeyOf w rest tup v j) (hj : upto 3 j = some i)
    (ret : ∀ u h' tk', Fr h₀ L h' m → News h₀ L h' ((D, o) :: (x, subObj 68 dx vs n) :: (dx, attrD w.params t1 t2 true D k) :: rest) → Q (.int (i : Nat) u) { s with heap := h', toks := tk' }) :
    wpAny (model PySem.Challenge.rw_aq6060_01.row.prog w) (ktrTop dp un gd cn cs L ca ccd cl outer) (call (.ref 51) [.ref x, v]) Q E s := by
  refine wpAny_call ?_
  k_dflt ktr_enter
  k_steps
  have e9 : (upto 3 j).isSome = true := by rw [hj]; rfl
  (refine ⟨?_⟩; k_dflt (refine' (contains_m (D := D) (k := k) (vs := vs) (n := n) (rest := rest)) ?cB_9 ?cF_9 ?cX_9 ?cT_9 ?chk_9 ?chdp_9 ?chun_9 ?cN_9 hM hD hK ?_; (case cB_9 => k_asm); (case cF_9 => k_asm); (case cX_9 => k_asm); (case cT_9 => k_asm); (case cN_9 => k_asm); (case chk_9 => exact rfl); (case chdp_9 => show (dp + 1 + 4) < recursionLimit; omega); (case chun_9 => show (un + 3 + 110) < cLine; omega)))
  intro h2 tk2 F2 N2
  rw [e9]
  k_steps
  rename News _ _ _ _ => kN
  have kK := hK (news_tl (news_tl (news_tl kN)))
  refine md_tail ?hu kN kK.1 kK.2 (.head _) hM (Nat.le_refl 3) (.inl (by decide)) hj (fun u tk => ?_)
  case hu => show un + 3 + 4 < cLine; omega
  k_steps
  rename Fr h₀ _ _ _ => kF
  rename News h₀ _ _ _ => kN
  exact ret _ _ _ kF kN

theorem append_m {x dx D tup : Addr} {vs : Array Value} {n k i : Nat} {t1 t2 : Tok} {v : Value} {b : Bool} {j : Option Nat} {o : Obj} {rest : List (Addr × Obj)}
    (B : Below A₀ base outer h₀) (F : Fr h₀ L s.heap m) (X : (hd.heap_39 w.params).In h₀) (T : Top p loose mean mg mb h₀) (hk : cs.kind = .function) (hdp : dp + 4 < recursionLimit) (hun : un + 110 < cLine)
    (N : News h₀ L s.heap ((D, o) :: (x, subObj 68 dx vs n) :: (dx, attrD w.params t1 t2 b D k) :: rest)) (hM : MD PySem.Challenge.rw_aq6060_01.row.prog w tup 3 o) (hD : (D == sysModules) = false) (hK : KeyOf w rest tup v j) (hj : upto 3 j = some i)
    (ret : ∀ h' tk', Fr h₀ L h' m → News h₀ L h' ((D, o) :: (x, subObj 68 dx vs n) :: (dx, attrD w.params t1 t2 b D k) :: rest) → Q .none { s with heap := h', toks := tk' }) :
    wpAny (model PySem.Challenge.rw_aq6060_01.row.prog w) (ktrTop dp un gd cn cs L ca ccd cl outer) (call (.ref 58) [.ref x, v]) Q E s := by
  refine wpAny_call ?_
  k_dflt ktr_enter
  k_steps
  have e9 : (!(upto 3 j).isSome) = false := by rw [hj]; rfl
  rename News _ _ _ _ => kN
  have kK := hK (news_tl (news_tl (news_tl kN)))
  refine md_notin ?hu kN kK.1 kK.2 (.head _) hM hD (Nat.le_refl 3) (.inl (by decide)) (fun tk => ?_)
  case hu => show un + 3 + 4 < cLine; omega
  rw [e9]
  k_steps
  rename Fr h₀ _ _ _ => kF
  rename News h₀ _ _ _ => kN
  exact ret _ _ kF kN

theorem add_m {x dx D tup : Addr} {vs : Array Value} {n k i : Nat} {t1 t2 : Tok} {v : Value} {b : Bool} {j : Option Nat} {o : Obj} {rest : List (Addr × Obj)}
    (B : Below A₀ base outer h₀) (F : Fr h₀ L s.heap m) (X : (hd.heap_39 w.params).In h₀) (T : Top p loose mean mg mb h₀) (hk : cs.kind = .function) (hdp : dp + 6 < recursionLimit) (hun : un + 120 < cLine)
    (N : News h₀ L s.heap ((D, o) :: (x, subObj 68 dx vs n) :: (dx, attrD w.params t1 t2 b D k) :: rest)) (hM : MD PySem.Challenge.rw_aq6060_01.row.prog w tup 3 o) (hD : (D == sysModules) = false) (hK : KeyOf w rest tup v j) (hj : upto 3 j = some i)
    (ret : ∀ u h' tk', Fr h₀ L h' m → News h₀ L h' ((D, o) :: (x, subObj 68 dx vs n) :: (dx, attrD w.params t1 t2 b D k) :: rest) → Q (.int (i : Nat) u) { s with heap := h', toks := tk' }) :
    wpAny (model PySem.Challenge.rw_aq6060_01.row.prog w) (ktrTop dp un gd cn cs L ca ccd cl outer) (call (.ref 65) [.ref x, v]) Q E s := by
  refine wpAny_call ?_
  k_dflt ktr_enter
  k_steps
  (refine ⟨?_⟩; k_dflt (refine' (append_m (D := D) (k := k) (vs := vs) (n := n) (rest := rest)) ?cB_10 ?cF_10 ?cX_10 ?cT_10 ?chk_10 ?chdp_10 ?chun_10 ?cN_10 hM hD hK hj ?_; (case cB_10 => k_asm); (case cF_10 => k_asm); (case cX_10 => k_asm); (case cT_10 => k_asm); (case cN_10 => k_asm); (case chk_10 => exact rfl); (case chdp_10 => show (dp + 1 + 4) < recursionLimit; omega); (case chun_10 => show (un + 3 + 110) < cLine; omega)))
  intro h2 tk2 F2 N2
  k_steps
  rename News _ _ _ _ => kN
  have kK := hK (news_tl (news_tl (news_tl kN)))
  refine md_tail ?hu kN kK.1 kK.2 (.head _) hM (Nat.le_refl 3) (.inl (by decide)) hj (fun u tk => ?_)
  case hu => show un + 3 + 4 < cLine; omega
  k_steps
  rename Fr h₀ _ _ _ => kF
  rename News h₀ _ _ _ => kN
  exact ret _ _ _ kF kN
end
end Mine
end PG4

section PG5
namespace Mine
theorem top_off_G5 : True := by
  w_top off
  trivial
end Mine
set_option maxRecDepth 100000
set_option maxHeartbeats 8000000
namespace Mine
local macro_rules | `(tactic| k_inst) => `(tactic| (refine' inst_of_news ?N ?h1 ?h2; (case N => k_asm); (case h1 => k_mem); (case h2 => k_mem)))
local macro_rules | `(tactic| k_all) => `(tactic| first | assumption | exact allNe_all (by assumption) | exact allLt_ne (by assumption) | exact allLt_ne (And.right (by assumption)) | exact allLt_ne (And.right (And.right (by assumption))) | exact allLt_ne (And.right (And.right (And.right (by assumption)))) | exact allLt_ne (And.right (And.right (And.right (And.right (by assumption))))))
local macro_rules | `(tactic| walk_at "setAttr ref") => `(tactic| (k_here; k_dflt (refine' setL_dict ?k1 ?k2 ?k3 ?k4 ?k5 ?k6 ?k7 ?k8 ?k9 ?k10 ?k11 ?k12 ?k13 ?_; (case k1 => k_asm); (case k2 => k_asm); (case k3 => k_asm); (case k4 => k_inst); (case k5 => exact rfl); (case k6 => k_is); (case k7 => exact mroC _); (case k8 => k_is); (case k9 => k_is); (case k10 => k_get); (case k11 => k_put); (case k12 => k_upd); (case k13 => exact Nat.le_of_ble_eq_true rfl); k_whole; intro h' F' N'; (try k_sweep))))
local macro_rules | `(tactic| walk_at "setAttr ref") => `(tactic| (k_here; (first | ((with_reducible show wpAny _ _ (setAttr (Value.ref _) (Str.ofString "_dict") _) _ _ _); k_dflt (refine' set_d ?k1 ?k2 ?k3 ?k4 ?k5 ?k6 ?k7 ?k8 ?k9 ?_)) | ((with_reducible show wpAny _ _ (setAttr (Value.ref _) (Str.ofString "clean") _) _ _ _); k_dflt (refine' set_c ?k1 ?k2 ?k3 ?k4 ?k5 ?k6 ?k7 ?k8 ?k9 ?_))); (case k1 => k_asm); (case k2 => k_asm); (case k3 => k_asm); (case k4 => k_mem); (case k5 => k_dflt k_is); (case k6 => exact mroC _); (case k7 => k_dflt k_is); (case k8 => k_dflt k_is); (case k9 => k_dflt k_upd); k_whole; intro h' F' N'; (try k_sweep)))
local macro_rules | `(tactic| walk_at "eval Dict nil nil") => `(tactic| (k_here; k_dflt (refine' new_dictK ?k1 ?k2 (TopRead.nolimit (by k_asm)) ?_; (case k1 => k_asm); (case k2 => k_asm); k_whole); intro d' h' F' N' l1 lo'; (try k_lt l1); (try k_sweep)))
local macro_rules | `(tactic| walk_at "exec For Name Name cons nil") => `(tactic| (refine Stop.out ?_))
local macro_rules | `(tactic| walk_at "exec For Name Call cons nil") => `(tactic| (refine Stop.out ?_))
local macro_rules | `(tactic| walk_at "exec For Tuple Call cons nil") => `(tactic| (refine Stop.out ?_))
local macro_rules | `(tactic| walk_at "pyIter ref") => `(tactic| ((with_reducible show wpAny _ _ (pyIter (Value.ref _)) (fun it s₂ => LoopAtV _ _ _ _ _ _ _ _ _ it s₂) _ _); refine Stop.out ?_))
local macro_rules | `(tactic| walk_at "compareOp NotIn int ref") => `(tactic| (k_here; k_dflt ((first | refine' dm_notin_t ?k1 ?k2 ?k3 ?k4 ?k5 ?_; (case k1 => k_asm); (case k2 => k_mem); (case k3 => assumption); (case k4 => assumption); (case k5 => assumption) | refine' dm_notin_f ?k1 ?k2 ?k3 ?k4 ?k5 ?_; (case k1 => k_asm); (case k2 => k_mem); (case k3 => assumption); (case k4 => assumption); (case k5 => assumption)))))
local macro_rules | `(tactic| walk_at "compareOp In int ref") => `(tactic| (k_here; k_dflt ((first | refine' dm_in_t ?k1 ?k2 ?k3 ?k4 ?k5 ?_; (case k1 => k_asm); (case k2 => k_mem); (case k3 => assumption); (case k4 => assumption); (case k5 => assumption) | refine' dm_in_f ?k1 ?k2 ?k3 ?k4 ?k5 ?_; (case k1 => k_asm); (case k2 => k_mem); (case k3 => assumption); (case k4 => assumption); (case k5 => assumption)))))
local macro_rules | `(tactic| walk_at "setItem ref int") => `(tactic| (k_here; k_dflt (refine' dm_set ?k1 ?k2 ?k3 ?k4 ?k5 ?_; (case k1 => k_asm); (case k2 => k_asm); (case k3 => k_updF); (case k4 => assumption); (case k5 => omega); k_whole); intro o' h' F' N' x'; (try dsimp only at N'); (try k_sweep)))
local macro_rules | `(tactic| walk_at "getAttr ref") => `(tactic| (k_here; (first | ((with_reducible show wpAny _ _ (getAttr (Value.ref _) (Str.ofString "_dict") _) _ _ _); k_dflt (refine' getA_d ?k1 ?k2 ?k3 ?k4 ?k5 ?k6 ?k7 ?k8 ?k9 ?k10 ?k11 ?_)) | ((with_reducible show wpAny _ _ (getAttr (Value.ref _) (Str.ofString "clean") _) _ _ _); k_dflt (refine' getA_c ?k1 ?k2 ?k3 ?k4 ?k5 ?k6 ?k7 ?k8 ?k9 ?k10 ?k11 ?_))); (case k1 => k_asm); (case k2 => k_asm); (case k3 => k_asm); (case k4 => k_mem); (case k5 => k_mem); (case k6 => exact mroC _); (case k7 => k_dflt k_is); (case k8 => k_dflt k_is); (case k9 => k_dflt k_is); (case k10 => k_dflt k_is); (case k11 => k_dflt k_is); k_whole))
local macro_rules | `(tactic| walk_at "getMethod ref") => `(tactic| (k_here; k_dflt (refine' methA ?k1 ?k2 ?k3 ?k4 ?k5 ?k6 ?k7 ?k8 ?k9 ?k10 ?k11 ?_; (case k1 => k_asm); (case k2 => k_asm); (case k3 => k_asm); (case k4 => k_mem); (case k5 => k_mem); (case k6 => k_is); (case k7 => k_is); (case k8 => k_is); (case k9 => k_is); (case k10 => decide); (case k11 => k_get); k_whole)))
local macro_rules | `(tactic| walk_at "compareOp In int ref") => `(tactic| (k_here; k_dflt (refine' in_own ?k1 ?k2 ?k3 ?k4 ?k5 ?k6 ?_; (case k1 => k_asm); (case k2 => k_asm); (case k3 => k_asm); (case k4 => k_mem); (case k5 => k_is); (case k6 => k_is); k_whole)))
local macro_rules | `(tactic| walk_at "compareOp NotIn int ref") => `(tactic| (k_here; k_dflt (refine' notin_own ?k1 ?k2 ?k3 ?k4 ?k5 ?k6 ?_; (case k1 => k_asm); (case k2 => k_asm); (case k3 => k_asm); (case k4 => k_mem); (case k5 => k_is); (case k6 => k_is); k_whole)))
local macro_rules | `(tactic| walk_at "compareOp In int ref") => `(tactic| (k_here; k_dflt (refine' dm_in ?k1 ?k2 ?k3 ?k4 ?_; (case k1 => k_asm); (case k2 => k_mem); (case k3 => assumption); (case k4 => assumption))))
local macro_rules | `(tactic| walk_at "compareOp In int ref") => `(tactic| (k_here; k_dflt (first | refine' dm_in_t ?k1 ?k2 ?k3 ?k4 ?k5 ?_; (case k1 => k_asm); (case k2 => k_mem); (case k3 => assumption); (case k4 => assumption); (case k5 => assumption) | refine' dm_in_f ?k1 ?k2 ?k3 ?k4 ?k5 ?_; (case k1 => k_asm); (case k2 => k_mem); (case k3 => assumption); (case k4 => assumption); (case k5 => assumption))))
local macro_rules | `(tactic| walk_at "compareOp NotIn int ref") => `(tactic| (k_here; k_dflt (first | refine' dm_notin_t ?k1 ?k2 ?k3 ?k4 ?k5 ?_; (case k1 => k_asm); (case k2 => k_mem); (case k3 => assumption); (case k4 => assumption); (case k5 => assumption) | refine' dm_notin_f ?k1 ?k2 ?k3 ?k4 ?k5 ?_; (case k1 => k_asm); (case k2 => k_mem); (case k3 => assumption); (case k4 => assumption); (case k5 => assumption))))
local macro_rules | `(tactic| walk_at "subscriptTail") => `(tactic| (k_here; (with_reducible show wpAny _ _ (subscriptTail _ _ (Value.ref _) (Value.int _ _)) _ _ _); k_dflt (refine' dm_tail ?k1 ?k2 ?k3 ?k4 ?_; (case k1 => k_asm); (case k2 => k_mem); (case k3 => assumption); (case k4 => assumption))))
local macro_rules | `(tactic| walk_at "call ref") => `(tactic| ((first | (with_reducible show wpAny _ _ (call (Value.ref 37) _) _ _ _) | (with_reducible show wpAny _ _ (call (Value.ref 44) _) _ _ _) | (with_reducible show wpAny _ _ (call (Value.ref 51) _) _ _ _) | (with_reducible show wpAny _ _ (call (Value.ref 58) _) _ _ _) | (with_reducible show wpAny _ _ (call (Value.ref 65) _) _ _ _) | (with_reducible show wpAny _ _ (call (Value.ref 68) _) _ _ _) | (with_reducible show wpAny _ _ (call (Value.ref 79) _) _ _ _) | (with_reducible show wpAny _ _ (call (Value.ref 86) _) _ _ _) | (with_reducible show wpAny _ _ (call (Value.ref 93) _) _ _ _)); refine Stop.out ?_))
local macro_rules | `(tactic| walk_at "call builtin:len") => `(tactic| (k_here; (with_reducible show wpAny _ _ (call (Value.builtin "len") [Value.ref _]) _ _ _); k_dflt (refine' ll_len ?Y ?N ?hx ?hz ?_; (case N => k_asm); (case hx => k_mem); (case Y => (first | exact ll_own (by k_asm) (by k_asm) (by k_asm) (by k_mem) (mroC _) (by k_is) (by k_is) (by k_is) (by k_is) | exact ll_list (by k_asm) (by k_mem))); (case hz => first | omega | (simp only [Array.size_push]; omega)))))
local macro_rules | `(tactic| walk_at "call builtin:list.append") => `(tactic| (k_here; (with_reducible show wpAny _ _ (call (Value.builtin _) [Value.ref _, _]) _ _ _); k_dflt (refine' l_append ?F ?N ?hi ?U ?hz ?_; (case F => k_asm); (case N => k_asm); (case U => (intro k'; k_upd)); (case hi => first | exact is_news (by k_asm) (by k_asm) (by k_asm) (by k_mem) (mroC _) | exact is_list (by k_asm) (by k_mem)); (case hz => first | omega | (simp only [Array.size_push]; omega)); k_whole); intro k' h' F' N'; (try dsimp only at N'); (try k_sweep)))
local macro_rules | `(tactic| walk_at "getMethod type:list") => `(tactic| (k_here; refine' method_type ?F ?X ?m (by decide +kernel) ?e ?h ?_; (case F => k_asm); (case X => k_asm); (case m => exact meta_of_list); (case e => k_dflt k_is); (case h => k_handed)))
local macro_rules | `(tactic| walk_at "call type:enumerate") => `(tactic| (refine Stop.out ?_))
local macro_rules | `(tactic| ktr_enter) => `(tactic| (refine' code_def ?k1 ?k2 ?k3 ?k4 ?k5 ?kA ?kF ?kK ?k6 ?k7 ?k8 ?k9 ?kB ?_ ?c2 ?c3 ?c4 ?c5; (case kA => exact rfl); (case kF => exact rfl); (case kK => first | assumption | exact rfl); (case k1 => k_asm); (case k2 => k_asm); (case k3 => k_asm); (case k4 => k_asm); (case k5 => k_asm); (case k6 => k_is); (case k7 => k_is); (case k8 => ktr_room); (case k9 => first | exact BindsTo.of_eq rfl | exact binds_K (by k_in) rfl (by k_is) rfl rfl rfl); (case c5 => decide); (case kB => exact locs rfl); (case c2 => exact rfl); (case c3 => exact rfl); (case c4 => exact rfl); k_whole; intro g' L' h' FG' F' N' B' X' T'; (try dsimp only); (try k_fold)))
local macro_rules | `(tactic| walk_at "call type:list") => `(tactic| (k_here; (with_reducible show wpAny _ _ (call (Value.type "list") [Value.ref _]) _ _ _); k_dflt (refine' l_copy ?hh ?F ?X ?N ?hx ?hz (mroC _) ?h0 ?h1 ?h2 ?h3 ?h4 ?_; (case hh => exact rfl); (case F => k_asm); (case X => k_asm); (case N => k_asm); (case hx => k_mem); (case hz => omega); (case h0 => k_is); (case h1 => k_is); (case h2 => k_is); (case h3 => k_is); (case h4 => k_is); k_whole); intro l9 k9 h' tk9 F' N' lt9; (try k_sweep)))
local macro_rules | `(tactic| walk_at "subscriptTail") => `(tactic| (k_here; (with_reducible show wpAny _ _ (subscriptTail _ _ (Value.ref _) (Value.int _ _)) _ _ _); k_dflt (refine' li_tail ?k1 ?k2 ?k3 ?k4 ?_; (case k1 => k_asm); (case k2 => k_mem); (case k3 => assumption); (case k4 => omega))))
local macro_rules | `(tactic| walk_at "exec Raise some none") => `(tactic| (k_here; (with_reducible show wpAny _ _ (exec (Stmt.Raise (some (Expr.Name ("ValueError" : Str) _)) none _) _) _ _ _); (with_reducible rename Fr _ _ _ _ => kF); k_dflt (refine' raise_VE ?hh ?hs ?hx ?_; (case hh => rfl); (case hs => rw [isSubtype_type]; kernel_rfl); (case hx => (refine' name_B kF ?k1 ?k2 ?k3 ?k4 ?k5 ?_; (case k1 => k_asm); (case k2 => k_asm); (case k3 => k_is); (case k4 => boot_by_name); (case k5 => decide); exact ⟨rfl, rfl⟩)))))
local macro_rules | `(tactic| walk_at "my ask") => `(tactic| ((refine' code_ask ?k1 ?k2 ?k3 ?k4 ?k5 ?kA ?kF ?cK ?k6 ?k7 ?k8 ?k9 ?kB ?_ ?c2 ?c3 ?c4 ?c5; (case kA => exact rfl); (case kF => exact rfl); (case k2 => k_asm); (case k1 => k_asm); (case k3 => k_asm); (case k4 => k_asm); (case k5 => k_asm); (case k6 => k_is); (case k7 => k_is); (case k8 => ktr_room); (case k9 => first | exact BindsTo.of_eq rfl | exact binds_K (by k_in) rfl (by k_is) rfl rfl rfl); (case kB => exact locs rfl); (case cK => first | assumption | exact rfl); (case c2 => exact rfl); (case c3 => exact rfl); (case c4 => exact rfl); (case c5 => decide); k_whole; intro g' L' h' FG' F' N' B' X' T' D'; (try dsimp only); (try k_lift B'); (try k_fold))))
local macro_rules | `(tactic| walk_at "call builtin:list.insert") => `(tactic| (k_here; (with_reducible show wpAny _ _ (call (Value.builtin _) [Value.ref _, Value.int _ _, _]) _ _ _); k_dflt (refine' l_insert ?F ?N ?hi ?U ?hz ?h0 ?hn ?_; (case F => k_asm); (case N => k_asm); (case U => (intro k'; k_upd)); (case hi => (first | exact is_news (by k_asm) (by k_asm) (by k_asm) (by k_mem) (mroC _) | exact is_list (by k_asm) (by k_mem))); (case hz => omega); (case h0 => omega); (case hn => omega); k_whole); intro k' h' F' N'; (try dsimp only at N'); (try k_sweep)))
local macro_rules | `(tactic| walk_at "call builtin:list.extend") => `(tactic| (k_here; (with_reducible show wpAny _ _ (call (Value.builtin _) [Value.ref _, Value.ref _]) _ _ _); k_dflt (refine' l_extend ?F ?N ?hi ?hb ?U ?hz ?_; (case F => k_asm); (case N => k_asm); (case hb => k_mem); (case U => (intro k'; k_upd)); (case hi => (first | exact is_news (by k_asm) (by k_asm) (by k_asm) (by k_mem) (mroC _) | exact is_list (by k_asm) (by k_mem))); (case hz => (first | omega | (simp only [List.size_toArray, List.length_cons, List.length_nil]; omega))); k_whole); intro k' h' F' N'; (try dsimp only at N'); (try k_sweep)))
local macro_rules | `(tactic| walk_at "call builtin:list.reverse") => `(tactic| (k_here; (with_reducible show wpAny _ _ (call (Value.builtin _) [Value.ref _]) _ _ _); k_dflt (refine' l_reverse ?F ?N ?hi ?U ?hz ?_; (case F => k_asm); (case N => k_asm); (case U => (intro k'; k_upd)); (case hi => (first | exact is_news (by k_asm) (by k_asm) (by k_asm) (by k_mem) (mroC _) | exact is_list (by k_asm) (by k_mem))); (case hz => omega); k_whole); intro k' h' F' N'; (try dsimp only at N'); (try k_sweep)))
local macro_rules | `(tactic| walk_at "call builtin:list.sort") => `(tactic| (k_here; (with_reducible show wpAny _ _ (call (Value.builtin _) [Value.ref _]) _ _ _); k_dflt (refine' l_sort ?F ?N ?hi ?U ?hI ?h64 ?_; (case F => k_asm); (case N => k_asm); (case U => k_updF); (case hi => (first | exact is_news (by k_asm) (by k_asm) (by k_asm) (by k_mem) (mroC _) | exact is_list (by k_asm) (by k_mem))); (case hI => assumption); (case h64 => omega); k_whole); intro out ns' k' h' iI iP iS F' N'; (try dsimp only at N'); (try k_sweep)))
local macro_rules | `(tactic| walk_at "call builtin:list.pop") => `(tactic| (k_here; (with_reducible show wpAny _ _ (call (Value.builtin _) [Value.ref _, Value.int _ _]) _ _ _); k_dflt (refine' l_pop ?F ?N ?hi ?U ?hz ?h0 ?hv ?_; (case F => k_asm); (case N => k_asm); (case U => (intro k'; k_upd)); (case hi => (first | exact is_news (by k_asm) (by k_asm) (by k_asm) (by k_mem) (mroC _) | exact is_list (by k_asm) (by k_mem))); (case hz => omega); (case h0 => omega); (case hv => assumption); k_whole); intro k' h' F' N'; (try dsimp only at N'); (try k_sweep)))
local macro_rules | `(tactic| walk_at "call builtin:list.remove") => `(tactic| (k_here; (with_reducible show wpAny _ _ (call (Value.builtin _) [Value.ref _, Value.int _ _]) _ _ _); k_dflt (refine' l_remove ?F ?N ?hi ?U ?hz ?hI ?hj ?hno ?_; (case F => k_asm); (case N => k_asm); (case U => (intro k'; k_upd)); (case hI => assumption); (case hj => assumption); (case hno => assumption); (case hi => (first | exact is_news (by k_asm) (by k_asm) (by k_asm) (by k_mem) (mroC _) | exact is_list (by k_asm) (by k_mem))); (case hz => omega); k_whole); intro k' h' F' N'; (try dsimp only at N'); (try k_sweep)))
local macro_rules | `(tactic| walk_at "delItem ref int") => `(tactic| (k_here; k_dflt (refine' ll_del ?Y ?F ?N ?U ?hz ?h0 ?hn ?_; (case F => k_asm); (case N => k_asm); (case U => (intro k'; k_upd)); (case Y => (first | exact ll_own (by k_asm) (by k_asm) (by k_asm) (by k_mem) (mroC _) (by k_is) (by k_is) (by k_is) (by k_is) | exact ll_list (by k_asm) (by k_mem))); (case hz => omega); (case h0 => omega); (case hn => omega); k_whole); intro k' h' F' N'; (try dsimp only at N'); (try k_sweep)))
local macro_rules | `(tactic| walk_at "setItem ref ref") => `(tactic| (k_here; k_dflt (refine' set_slice_p ?F ?N ?he ?hs ?hq ?hb ?hab ?Y ?U ?hz ?h0 ?hn ?_; (case F => k_asm); (case N => k_asm); (case he => exact rfl); (case hs => exact rfl); (case hq => exact rfl); (case hb => k_mem); (case hab => k_ne); (case Y => (intro s' F' N'; (first | exact ll_own (by k_asm) (by k_asm) (by k_asm) (by k_mem) (mroC _) (by k_is) (by k_is) (by k_is) (by k_is) | exact ll_list (by k_asm) (by k_mem)))); (case U => (intro k'; k_upd)); (case hz => (first | omega | (simp only [List.size_toArray, List.length_cons, List.length_nil]; omega))); (case h0 => omega); (case hn => omega); k_whole); intro k' h' F' N'; (try dsimp only at N'); (try k_sweep)))
local macro_rules | `(tactic| walk_at "pad 0") => `(tactic| skip)
local macro_rules | `(tactic| walk_at "pad 1") => `(tactic| skip)
local macro_rules | `(tactic| walk_at "pad 2") => `(tactic| skip)
local macro_rules | `(tactic| walk_at "pad 3") => `(tactic| skip)
local macro_rules | `(tactic| walk_at "pad 4") => `(tactic| skip)
local macro_rules | `(tactic| walk_at "pad 5") => `(tactic| skip)
local macro_rules | `(tactic| walk_at "pad 6") => `(tactic| skip)
local macro_rules | `(tactic| walk_at "pad 7") => `(tactic| skip)
local macro_rules | `(tactic| walk_at "pad 8") => `(tactic| skip)
local macro_rules | `(tactic| walk_at "pad 9") => `(tactic| skip)
local macro_rules | `(tactic| walk_at "pad 10") => `(tactic| skip)
local macro_rules | `(tactic| walk_at "pad 11") => `(tactic| skip)
local macro_rules | `(tactic| walk_at "pad 12") => `(tactic| skip)
local macro_rules | `(tactic| walk_at "pad 13") => `(tactic| skip)
local macro_rules | `(tactic| walk_at "pad 14") => `(tactic| skip)
local macro_rules | `(tactic| walk_at "pad 15") => `(tactic| skip)
local macro_rules | `(tactic| walk_at "pad 16") => `(tactic| skip)
local macro_rules | `(tactic| walk_at "pad 17") => `(tactic| skip)
local macro_rules | `(tactic| walk_at "pad 18") => `(tactic| skip)
local macro_rules | `(tactic| walk_at "pad 19") => `(tactic| skip)
local macro_rules | `(tactic| walk_at "pad 20") => `(tactic| skip)
local macro_rules | `(tactic| walk_at "pad 21") => `(tactic| skip)
local macro_rules | `(tactic| walk_at "pad 22") => `(tactic| skip)
local macro_rules | `(tactic| walk_at "pad 23") => `(tactic| skip)
local macro_rules | `(tactic| walk_at "pad 24") => `(tactic| skip)
local macro_rules | `(tactic| walk_at "pad 25") => `(tactic| skip)
local macro_rules | `(tactic| walk_at "pad 26") => `(tactic| skip)
local macro_rules | `(tactic| walk_at "pad 27") => `(tactic| skip)
local macro_rules | `(tactic| walk_at "pad 28") => `(tactic| skip)
local macro_rules | `(tactic| walk_at "pad 29") => `(tactic| skip)
local macro_rules | `(tactic| walk_at "pad 30") => `(tactic| skip)
local macro_rules | `(tactic| walk_at "pad 31") => `(tactic| skip)
local macro_rules | `(tactic| walk_at "pad 32") => `(tactic| skip)
local macro_rules | `(tactic| walk_at "pad 33") => `(tactic| skip)
local macro_rules | `(tactic| walk_at "pad 34") => `(tactic| skip)
local macro_rules | `(tactic| walk_at "pad 35") => `(tactic| skip)
local macro_rules | `(tactic| walk_at "pad 36") => `(tactic| skip)
local macro_rules | `(tactic| walk_at "pad 37") => `(tactic| skip)
local macro_rules | `(tactic| walk_at "setItem ref int") => `(tactic| ((with_reducible show wpAny _ _ (setItem _ _ _) _ _ _); refine Stop.out ?_))
local macro_rules | `(tactic| walk_at "compareOp NotIn ref") => `(tactic| ((with_reducible show wpAny _ _ (compareOp _ _ _) _ _ _); refine Stop.out ?_))
local macro_rules | `(tactic| walk_at "compareOp In ref") => `(tactic| ((with_reducible show wpAny _ _ (compareOp _ _ _) _ _ _); refine Stop.out ?_))
def TupIn (l : List (Addr × Obj)) (tup : Addr) : Prop := ∃ ta tb c, (tup, tupO 1 2 ta tb c) ∈ l
theorem TupIn.at {h₀ h : Heap} {L tup : Addr} {l : List (Addr × Obj)} (N : News h₀ L h l) (x : TupIn l tup) : Tup12 h tup := let ⟨ta, tb, c, hm⟩ := x; ⟨ta, tb, c, (N _ hm).1⟩
theorem upto_self (i : Nat) : (!(upto i (some i)).isSome) = true := by unfold upto; simp
section
variable {w : World} {p : Program} {loose : List Str} {mean : ExcName → Option Value} {mg mb : Str → Option Value}
  {dp un : Nat} {gd : Option (List Code)} {cn : Str} {cs : Scope} {ca : Addr} {ccd : Value} {cl : List (Str × Addr)} {outer : List Env} {A₀ : Around} {base h₀ : Heap} {L : Addr} {m : Str → Option Value} {s : Shared} {Q E : Value → Shared → Prop}

theorem rebuild_m {x dx D tup : Addr} {vs : Array Value} {n k : Nat} {t1 t2 : Tok} {b : Bool} {rest : List (Addr × Obj)}
    (B : Below A₀ base outer h₀) (F : Fr h₀ L s.heap m) (X : (hd.heap_39 w.params).In h₀) (T : Top p loose mean mg mb h₀) (hk : cs.kind = .function) (hdp : dp + 3 < recursionLimit) (hun : un + 100 < cLine)
    (N : News h₀ L s.heap ((x, subObj 68 dx vs n) :: (dx, attrD w.params t1 t2 b D k) :: rest)) (l1 : x ≠ dx) (l2 : ∀ p ∈ rest, p.1 ≠ dx)
    (hV : ∀ (i : Nat) v, vs[i]? = some v → MNext tup i v) (hz : vs.size = 3) (hT : TupIn rest tup)
    (ret : ∀ D' o' h' tk', Fr h₀ L h' m → News h₀ L h' ((D', o') :: (x, subObj 68 dx vs n) :: (dx, attrD w.params t1 t2 true D' k) :: rest) → MD PySem.Challenge.rw_aq6060_01.row.prog w tup 3 o' →
      (D' == sysModules) = false → x < D' ∧ dx < D' ∧ AllLt D' rest → Q .none { s with heap := h', toks := tk' }) :
    wpAny (model PySem.Challenge.rw_aq6060_01.row.prog w) (ktrTop dp un gd cn cs L ca ccd cl outer) (call (.ref 37) [.ref x]) Q E s := by
  refine wpAny_call ?_
  k_dflt ktr_enter
  k_steps
  refine ⟨?_⟩
  rename Fr _ _ _ _ => F1
  with_unfolding_all refine forF F1 (by exact rfl) (by exact rfl) ?_
  k_steps
  refine ⟨?_⟩
  rename Fr _ _ _ _ => F1
  rename News _ _ _ _ => N1
  rename _ ∧ _ ∧ AllLt _ _ => lD
  rename (_ == sysModules) = false => lo
  rename Addr => D'
  refine loop_seq (items := vs) (k := n) (o := subObj 68 dx vs n) (news := (D', dictOf [] 0) :: (x, subObj 68 dx vs n) :: (dx, attrD w.params t1 t2 b D' k) :: rest)
    (fun i m' nx => m' (Str.ofString "self") = some (.ref x) ∧ (∃ t, m' (Str.ofString "idx") = some (.int (i : Nat) t)) ∧
    ∃ o, MD PySem.Challenge.rw_aq6060_01.row.prog w tup i o ∧ nx = (D', o) :: (x, subObj 68 dx vs n) :: (dx, attrD w.params t1 t2 b D' k) :: rest)
    rfl rfl (.tail _ (.head _)) F1 N1 ⟨rfl, ⟨_, rfl⟩, _, MD.nil _ _ _ 0, rfl⟩ ?keep ?py ?turn ?done
  case keep => rintro i m' nx ⟨-, -, o, -, rfl⟩; exact .tail _ (.head _)
  case py => exact iter_news F1 (by k_in) N1 (.tail _ (.head _)) (mroC _) (by k_dflt k_is)
  case turn =>
    rintro i v m₁ nx h2 tk2 oI hv ⟨hs, ⟨ti, hi⟩, o, hM, rfl⟩ hoff F2 N2
    have hnx := hV i v hv
    have hi3 := next_lt hnx
    replace hoff := allNe_of hoff
    simp only [AllNe] at hoff
    obtain ⟨q1, q2, q3, q4⟩ := hoff
    obtain ⟨p1, p2, p3⟩ := lD
    have F3 := fr_as F2 (in_two hi hs)
    clear F2 hs hi
    have T2 := hT.at (news_tl (news_tl (news_tl (news_tl N2))))
    k_steps
    refine ⟨?_⟩
    refine md_notin ?hu N2 (next_ask T2 hnx) T2 (.tail _ (.head _)) hM lo (by omega) (next_str hnx) (fun tk => ?_)
    case hu => show un + 3 + 4 < cLine; omega
    rw [upto_self]
    k_steps
    refine ⟨?_⟩
    k_dflt (refine' md_set (tup := tup) ?hu F3 N2 ?U hM T2 hnx ?_; (case U => k_updF))
    case hu => show un + 3 + 4 < cLine; omega
    intro o3 h3 tk3 F4 N4 M4
    (try dsimp only at N4)
    clear F3 N2
    k_steps
    rename Fr _ _ _ _ => F5
    rename News _ _ _ _ => N5
    exact ⟨_, _, _, _, rfl, F5, N5, allNe_all ⟨q1, q2, q3, q4⟩, rfl, ⟨_, rfl⟩, _, M4, rfl⟩
  case done =>
    rintro m₁ nx h2 tk2 ⟨hs, ⟨ti, hi⟩, o, hM, rfl⟩ hoff F2 N2
    rw [hz] at hM
    have F3 := fr_as F2 (map_has hs)
    clear F2 hs hi
    k_steps
    rename Fr h₀ _ _ _ => kF
    rename News h₀ _ _ _ => kN
    exact ret _ _ _ _ kF kN hM lo lD

theorem contains_dirty_m {x dx D tup : Addr} {vs : Array Value} {n k : Nat} {t1 t2 : Tok} {v : Value} {j : Option Nat} {rest : List (Addr × Obj)}
    (B : Below A₀ base outer h₀) (F : Fr h₀ L s.heap m) (X : (hd.heap_39 w.params).In h₀) (T : Top p loose mean mg mb h₀) (hk : cs.kind = .function) (hdp : dp + 4 < recursionLimit) (hun : un + 110 < cLine)
    (N : News h₀ L s.heap ((x, subObj 68 dx vs n) :: (dx, attrD w.params t1 t2 false D k) :: rest)) (l1 : x ≠ dx) (l2 : ∀ p ∈ rest, p.1 ≠ dx)
    (hV : ∀ (i : Nat) v, vs[i]? = some v → MNext tup i v) (hz : vs.size = 3) (hT : TupIn rest tup) (hK : KeyOf w rest tup v j)
    (ret : ∀ D' o' h' tk', Fr h₀ L h' m → News h₀ L h' ((D', o') :: (x, subObj 68 dx vs n) :: (dx, attrD w.params t1 t2 true D' k) :: rest) → MD PySem.Challenge.rw_aq6060_01.row.prog w tup 3 o' →
      (D' == sysModules) = false → x < D' ∧ dx < D' ∧ AllLt D' rest → Q (.bool (upto 3 j).isSome) { s with heap := h', toks := tk' }) :
    wpAny (model PySem.Challenge.rw_aq6060_01.row.prog w) (ktrTop dp un gd cn cs L ca ccd cl outer) (call (.ref 44) [.ref x, v]) Q E s := by
  refine wpAny_call ?_
  k_dflt ktr_enter
  k_steps
  (refine ⟨?_⟩; k_dflt (refine' (rebuild_m (b := false) (D := D) (k := k) (rest := rest) (vs := vs) (n := n) (tup := tup)) ?cB_11 ?cF_11 ?cX_11 ?cT_11 ?chk_11 ?chdp_11 ?chun_11 ?cN_11 l1 l2 hV hz hT ?_; (case cB_11 => k_asm); (case cF_11 => k_asm); (case cX_11 => k_asm); (case cT_11 => k_asm); (case cN_11 => k_asm); (case chk_11 => exact rfl); (case chdp_11 => show (dp + 1 + 3) < recursionLimit; omega); (case chun_11 => show (un + 3 + 100) < cLine; omega)))
  intro D' o' h2 tk2 F2 N2 M2 lo2 lD2
  k_steps
  refine ⟨?_⟩
  rename News _ _ _ _ => kN
  have kK := hK (news_tl (news_tl (news_tl kN)))
  refine md_in ?hu kN kK.1 kK.2 (.head _) M2 lo2 (Nat.le_refl 3) (.inl (by decide)) (fun tk => ?_)
  case hu => show un + 3 + 4 < cLine; omega
  k_steps
  rename Fr h₀ _ _ _ => kF
  rename News h₀ _ _ _ => kN
  exact ret _ _ _ _ kF kN M2 lo2 lD2

theorem init_m {x dx l tup : Addr} {us : Array Value} {ku : Nat} {rest : List (Addr × Obj)} {R : Result → Shared → Prop}
    (B : Below A₀ base outer h₀) (F : Fr h₀ L s.heap m) (X : (hd.heap_39 w.params).In h₀) (T : Top p loose mean mg mb h₀) (hk : cs.kind = .function) (hdp : dp + 4 < recursionLimit) (hun : un + 110 < cLine)
    (N : News h₀ L s.heap ((x, subObj 68 dx #[] 0) :: (dx, dictOf [] 0) :: (l, W.listOf us ku) :: rest)) (q1 : @Ne Nat x dx) (q2 : @Ne Nat l x) (q3 : @Ne Nat l dx) (q4 : AllNe x rest) (q5 : AllNe dx rest)
    (hV : ∀ (i : Nat) v, us[i]? = some v → MNext tup i v) (hz : us.size = 3) (hT : TupIn rest tup)
    (ret : ∀ D n t1 t2 h' tk', Fr h₀ L h' m → News h₀ L h' ((x, subObj 68 dx us n) :: (dx, attrD w.params t1 t2 false D 2) :: (l, W.listOf us ku) :: rest) → R (.ok (.ret .none)) { s with heap := h', toks := tk' }) :
    codeAny (model PySem.Challenge.rw_aq6060_01.row.prog w) (ktrTop dp un gd cn cs L ca ccd cl outer) (.call (.ref 30) ⟨[.ref x, .ref l], []⟩) R s := by
  k_dflt ktr_enter
  k_steps
  refine ⟨?_⟩
  rename Fr _ _ _ _ => F1
  with_unfolding_all refine forE F1 (by exact rfl) (by exact rfl) (by exact rfl) (by exact rfl) ?_
  k_steps
  refine ⟨?_⟩
  rename Fr _ _ _ _ => F1
  rename News _ _ _ _ => N1
  rename _ ∧ _ ∧ _ ∧ AllLt _ _ => lD'
  rename (_ == sysModules) = false => lo'
  obtain ⟨D', t1, t2, N2, lo, lD⟩ := attr_gen N1 lo' lD'
  clear N1 lo' lD'
  refine enum_list (us := us) (ku := ku) (fun i m' nx => m' (Str.ofString "self") = some (.ref x) ∧ ∃ o vs n, MD PySem.Challenge.rw_aq6060_01.row.prog w tup i o ∧ vs.toList = us.toList.take i ∧
      nx = (D', o) :: (x, subObj 68 dx vs n) :: (dx, attrD w.params t1 t2 false D' 2) :: (l, W.listOf us ku) :: rest)
    rfl (.tail _ (.tail _ (.tail _ (.head _)))) F1 N2 ⟨rfl, _, _, _, MD.nil _ _ _ 0, rfl, rfl⟩ ?turn ?done
  case turn =>
    rintro i v t m₁ nx h2 tk2 own hv ⟨hs, o, vs, n, hM, hvl, rfl⟩ - hown F2 N3
    have hnx := hV i v hv
    have hi3 := next_lt hnx
    obtain ⟨p1, p2, p3, p4⟩ := lD
    have hvs : vs.size ≤ 100 := by
      rw [← Array.length_toList, hvl, List.length_take]; omega
    have tD : ∀ p ∈ rest ++ own, p.1 ≠ D' := fun p hp => by
      rcases List.mem_append.mp hp with h | h
      · exact allLt_ne p4 p h
      · exact hown (D', dictOf [] 0) (.head _) (Nat.ne_of_gt p3) p h
    have tx : ∀ p ∈ rest ++ own, p.1 ≠ x := fun p hp => by
      rcases List.mem_append.mp hp with h | h
      · exact allNe_all q4 p h
      · exact hown (x, subObj 68 dx #[] 0) (.tail _ (.head _)) (Ne.symm q2) p h
    simp only [List.cons_append] at N3
    have F3 := fr_as F2 (in2_one hs)
    clear F2 hs
    have hT2 : TupIn ((l, W.listOf us ku) :: (rest ++ own)) tup := by
      obtain ⟨ta, tb, c, hm⟩ := hT
      exact ⟨ta, tb, c, .tail _ (List.mem_append.mpr (.inl hm))⟩
    have T2 := hT2.at (news_tl (news_tl (news_tl N3)))
    k_steps
    refine ⟨?_⟩
    k_dflt (refine' md_set (tup := tup) ?hu F3 N3 ?U hM T2 hnx ?_; (case U => k_updF))
    case hu => show un + 3 + 4 < cLine; omega
    intro o3 h3 tk3 F4 N4 M4
    (try dsimp only at N4)
    clear F3 N3
    k_steps
    rename Fr _ _ _ _ => F5
    rename News _ _ _ _ => N5
    rw [← List.cons_append, ← List.cons_append, ← List.cons_append, ← List.cons_append] at N5
    refine ⟨_, _, _, _, rfl, F5, N5, rfl, rfl, _, _, _, M4, ?_, rfl⟩
    rw [Array.toList_push, hvl, List.take_add_one, Array.getElem?_toList, hv]; rfl
  case done =>
    rintro m₁ nx h2 tk2 ⟨hs, o, vs, n, hM, hvl, rfl⟩ - F2 N3
    have hvu : vs = us := by
      rw [List.take_of_length_le (Nat.le_of_eq (by simp))] at hvl
      exact Array.toList_inj.mp hvl
    subst hvu
    have F3 := fr_as F2 (map_has hs)
    clear F2 hs
    k_steps
    rename Fr h₀ _ _ _ => kF
    rename News h₀ _ _ _ => kN
    exact ret _ _ _ _ _ _ kF (fun p hp => kN p (.tail _ hp))

theorem mk_m {l tup : Addr} {us : Array Value} {ku : Nat} {rest : List (Addr × Obj)}
    (B : Below A₀ base outer h₀) (F : Fr h₀ L s.heap m) (X : (hd.heap_39 w.params).In h₀) (T : Top p loose mean mg mb h₀) (hk : cs.kind = .function) (hdp : dp + 6 < recursionLimit) (hun : un + 130 < cLine)
    (N : News h₀ L s.heap ((l, W.listOf us ku) :: rest)) (hV : ∀ (i : Nat) v, us[i]? = some v → MNext tup i v) (hz : us.size = 3) (hT : TupIn rest tup)
    (ret : ∀ x dx D n t1 t2 h' tk', Fr h₀ L h' m → News h₀ L h' ((x, subObj 68 dx us n) :: (dx, attrD w.params t1 t2 false D 2) :: (l, W.listOf us ku) :: rest) →
      (∀ p ∈ (l, W.listOf us ku) :: rest, p.1 < dx) → x = dx + 1 → Q (.ref x) { s with heap := h', toks := tk' }) :
    wpAny (model PySem.Challenge.rw_aq6060_01.row.prog w) (ktrTop dp un gd cn cs L ca ccd cl outer) (call (.ref 68) [.ref l]) Q E s := by
  have hlt : ∀ p ∈ (l, W.listOf us ku) :: rest, p.1 < s.heap.objs.size := fun p hp => Heap.lt_size (N p hp).1
  refine wpAny_call (makeL (fI := 30) F N (X.keeps F.keep) (makesC _) (by k_is) (by k_is) fun x dx h1 F1 N1 e1 e2 => ?_)
  have hlt' : ∀ p ∈ (l, W.listOf us ku) :: rest, p.1 < dx := fun p hp => e1 ▸ hlt p hp
  have hx : ∀ p ∈ (l, W.listOf us ku) :: rest, p.1 < x := fun p hp => by rw [e2]; exact Nat.lt_succ_of_lt (hlt' p hp)
  k_dflt (refine' init_m (us := us) (ku := ku) (rest := rest) (dx := dx) ?B ?F ?X ?T ?hk ?hdp ?hun ?N ?q1 ?q2 ?q3 ?q4 ?q5 hV hz hT ?ret; (case B => k_asm); (case F => exact F1); (case X => k_asm); (case T => k_asm); (case N => exact N1); (case hk => assumption))
  case hdp => show dp + _ + 4 < recursionLimit; exact Nat.lt_of_le_of_lt (Nat.le_refl (dp + 1 + 4)) (by omega)
  case hun => show un + _ + 110 < cLine; exact Nat.lt_of_le_of_lt (Nat.le_refl (un + 1 + 110)) (by omega)
  case q1 => rw [e2]; exact Nat.succ_ne_self _
  case q2 => exact Nat.ne_of_lt (hx _ (.head _))
  case q3 => exact Nat.ne_of_lt (hlt' _ (.head _))
  case q4 => exact allNe_of_lt fun p hp => hx p (.tail _ hp)
  case q5 => exact allNe_of_lt fun p hp => hlt' p (.tail _ hp)
  case ret => exact fun D n t1 t2 h' tk' F' N' => ⟨rfl, ret x dx D n t1 t2 h' tk' F' N' hlt' e2⟩
end
end Mine
end PG5

section PJ
namespace Mine
theorem top_off_J : True := by
  w_top off
  trivial
end Mine
set_option maxRecDepth 100000
set_option maxHeartbeats 8000000
namespace Mine
local macro_rules | `(tactic| k_inst) => `(tactic| (refine' inst_of_news ?N ?h1 ?h2; (case N => k_asm); (case h1 => k_mem); (case h2 => k_mem)))
local macro_rules | `(tactic| k_all) => `(tactic| first | assumption | exact allNe_all (by assumption) | exact allLt_ne (by assumption) | exact allLt_ne (And.right (by assumption)) | exact allLt_ne (And.right (And.right (by assumption))) | exact allLt_ne (And.right (And.right (And.right (by assumption)))) | exact allLt_ne (And.right (And.right (And.right (And.right (by assumption))))))
local macro_rules | `(tactic| walk_at "setAttr ref") => `(tactic| (k_here; k_dflt (refine' setL_dict ?k1 ?k2 ?k3 ?k4 ?k5 ?k6 ?k7 ?k8 ?k9 ?k10 ?k11 ?k12 ?k13 ?_; (case k1 => k_asm); (case k2 => k_asm); (case k3 => k_asm); (case k4 => k_inst); (case k5 => exact rfl); (case k6 => k_is); (case k7 => exact mroC _); (case k8 => k_is); (case k9 => k_is); (case k10 => k_get); (case k11 => k_put); (case k12 => k_upd); (case k13 => exact Nat.le_of_ble_eq_true rfl); k_whole; intro h' F' N'; (try k_sweep))))
local macro_rules | `(tactic| walk_at "setAttr ref") => `(tactic| (k_here; (first | ((with_reducible show wpAny _ _ (setAttr (Value.ref _) (Str.ofString "_dict") _) _ _ _); k_dflt (refine' set_d ?k1 ?k2 ?k3 ?k4 ?k5 ?k6 ?k7 ?k8 ?k9 ?_)) | ((with_reducible show wpAny _ _ (setAttr (Value.ref _) (Str.ofString "clean") _) _ _ _); k_dflt (refine' set_c ?k1 ?k2 ?k3 ?k4 ?k5 ?k6 ?k7 ?k8 ?k9 ?_))); (case k1 => k_asm); (case k2 => k_asm); (case k3 => k_asm); (case k4 => k_mem); (case k5 => k_dflt k_is); (case k6 => exact mroC _); (case k7 => k_dflt k_is); (case k8 => k_dflt k_is); (case k9 => k_dflt k_upd); k_whole; intro h' F' N'; (try k_sweep)))
local macro_rules | `(tactic| walk_at "eval Dict nil nil") => `(tactic| (k_here; k_dflt (refine' new_dictK ?k1 ?k2 (TopRead.nolimit (by k_asm)) ?_; (case k1 => k_asm); (case k2 => k_asm); k_whole); intro d' h' F' N' l1 lo'; (try k_lt l1); (try k_sweep)))
local macro_rules | `(tactic| walk_at "exec For Name Name cons nil") => `(tactic| (refine Stop.out ?_))
local macro_rules | `(tactic| walk_at "exec For Name Call cons nil") => `(tactic| (refine Stop.out ?_))
local macro_rules | `(tactic| walk_at "exec For Tuple Call cons nil") => `(tactic| (refine Stop.out ?_))
local macro_rules | `(tactic| walk_at "pyIter ref") => `(tactic| ((with_reducible show wpAny _ _ (pyIter (Value.ref _)) (fun it s₂ => LoopAtV _ _ _ _ _ _ _ _ _ it s₂) _ _); refine Stop.out ?_))
local macro_rules | `(tactic| walk_at "compareOp NotIn int ref") => `(tactic| (k_here; k_dflt ((first | refine' dm_notin_t ?k1 ?k2 ?k3 ?k4 ?k5 ?_; (case k1 => k_asm); (case k2 => k_mem); (case k3 => assumption); (case k4 => assumption); (case k5 => assumption) | refine' dm_notin_f ?k1 ?k2 ?k3 ?k4 ?k5 ?_; (case k1 => k_asm); (case k2 => k_mem); (case k3 => assumption); (case k4 => assumption); (case k5 => assumption)))))
local macro_rules | `(tactic| walk_at "compareOp In int ref") => `(tactic| (k_here; k_dflt ((first | refine' dm_in_t ?k1 ?k2 ?k3 ?k4 ?k5 ?_; (case k1 => k_asm); (case k2 => k_mem); (case k3 => assumption); (case k4 => assumption); (case k5 => assumption) | refine' dm_in_f ?k1 ?k2 ?k3 ?k4 ?k5 ?_; (case k1 => k_asm); (case k2 => k_mem); (case k3 => assumption); (case k4 => assumption); (case k5 => assumption)))))
local macro_rules | `(tactic| walk_at "setItem ref int") => `(tactic| (k_here; k_dflt (refine' dm_set ?k1 ?k2 ?k3 ?k4 ?k5 ?_; (case k1 => k_asm); (case k2 => k_asm); (case k3 => k_updF); (case k4 => assumption); (case k5 => omega); k_whole); intro o' h' F' N' x'; (try dsimp only at N'); (try k_sweep)))
local macro_rules | `(tactic| walk_at "getAttr ref") => `(tactic| (k_here; (first | ((with_reducible show wpAny _ _ (getAttr (Value.ref _) (Str.ofString "_dict") _) _ _ _); k_dflt (refine' getA_d ?k1 ?k2 ?k3 ?k4 ?k5 ?k6 ?k7 ?k8 ?k9 ?k10 ?k11 ?_)) | ((with_reducible show wpAny _ _ (getAttr (Value.ref _) (Str.ofString "clean") _) _ _ _); k_dflt (refine' getA_c ?k1 ?k2 ?k3 ?k4 ?k5 ?k6 ?k7 ?k8 ?k9 ?k10 ?k11 ?_))); (case k1 => k_asm); (case k2 => k_asm); (case k3 => k_asm); (case k4 => k_mem); (case k5 => k_mem); (case k6 => exact mroC _); (case k7 => k_dflt k_is); (case k8 => k_dflt k_is); (case k9 => k_dflt k_is); (case k10 => k_dflt k_is); (case k11 => k_dflt k_is); k_whole))
local macro_rules | `(tactic| walk_at "getMethod ref") => `(tactic| (k_here; k_dflt (refine' methA ?k1 ?k2 ?k3 ?k4 ?k5 ?k6 ?k7 ?k8 ?k9 ?k10 ?k11 ?_; (case k1 => k_asm); (case k2 => k_asm); (case k3 => k_asm); (case k4 => k_mem); (case k5 => k_mem); (case k6 => k_is); (case k7 => k_is); (case k8 => k_is); (case k9 => k_is); (case k10 => decide); (case k11 => k_get); k_whole)))
local macro_rules | `(tactic| walk_at "compareOp In int ref") => `(tactic| (k_here; k_dflt (refine' in_own ?k1 ?k2 ?k3 ?k4 ?k5 ?k6 ?_; (case k1 => k_asm); (case k2 => k_asm); (case k3 => k_asm); (case k4 => k_mem); (case k5 => k_is); (case k6 => k_is); k_whole)))
local macro_rules | `(tactic| walk_at "compareOp NotIn int ref") => `(tactic| (k_here; k_dflt (refine' notin_own ?k1 ?k2 ?k3 ?k4 ?k5 ?k6 ?_; (case k1 => k_asm); (case k2 => k_asm); (case k3 => k_asm); (case k4 => k_mem); (case k5 => k_is); (case k6 => k_is); k_whole)))
local macro_rules | `(tactic| walk_at "compareOp In int ref") => `(tactic| (k_here; k_dflt (refine' dm_in ?k1 ?k2 ?k3 ?k4 ?_; (case k1 => k_asm); (case k2 => k_mem); (case k3 => assumption); (case k4 => assumption))))
local macro_rules | `(tactic| walk_at "compareOp In int ref") => `(tactic| (k_here; k_dflt (first | refine' dm_in_t ?k1 ?k2 ?k3 ?k4 ?k5 ?_; (case k1 => k_asm); (case k2 => k_mem); (case k3 => assumption); (case k4 => assumption); (case k5 => assumption) | refine' dm_in_f ?k1 ?k2 ?k3 ?k4 ?k5 ?_; (case k1 => k_asm); (case k2 => k_mem); (case k3 => assumption); (case k4 => assumption); (case k5 => assumption))))
local macro_rules | `(tactic| walk_at "compareOp NotIn int ref") => `(tactic| (k_here; k_dflt (first | refine' dm_notin_t ?k1 ?k2 ?k3 ?k4 ?k5 ?_; (case k1 => k_asm); (case k2 => k_mem); (case k3 => assumption); (case k4 => assumption); (case k5 => assumption) | refine' dm_notin_f ?k1 ?k2 ?k3 ?k4 ?k5 ?_; (case k1 => k_asm); (case k2 => k_mem); (case k3 => assumption); (case k4 => assumption); (case k5 => assumption))))
local macro_rules | `(tactic| walk_at "subscriptTail") => `(tactic| (k_here; (with_reducible show wpAny _ _ (subscriptTail _ _ (Value.ref _) (Value.int _ _)) _ _ _); k_dflt (refine' dm_tail ?k1 ?k2 ?k3 ?k4 ?_; (case k1 => k_asm); (case k2 => k_mem); (case k3 => assumption); (case k4 => assumption))))
local macro_rules | `(tactic| walk_at "call ref") => `(tactic| ((first | (with_reducible show wpAny _ _ (call (Value.ref 37) _) _ _ _) | (with_reducible show wpAny _ _ (call (Value.ref 44) _) _ _ _) | (with_reducible show wpAny _ _ (call (Value.ref 51) _) _ _ _) | (with_reducible show wpAny _ _ (call (Value.ref 58) _) _ _ _) | (with_reducible show wpAny _ _ (call (Value.ref 65) _) _ _ _) | (with_reducible show wpAny _ _ (call (Value.ref 68) _) _ _ _) | (with_reducible show wpAny _ _ (call (Value.ref 79) _) _ _ _) | (with_reducible show wpAny _ _ (call (Value.ref 86) _) _ _ _) | (with_reducible show wpAny _ _ (call (Value.ref 93) _) _ _ _)); refine Stop.out ?_))
local macro_rules | `(tactic| walk_at "call builtin:len") => `(tactic| (k_here; (with_reducible show wpAny _ _ (call (Value.builtin "len") [Value.ref _]) _ _ _); k_dflt (refine' ll_len ?Y ?N ?hx ?hz ?_; (case N => k_asm); (case hx => k_mem); (case Y => (first | exact ll_own (by k_asm) (by k_asm) (by k_asm) (by k_mem) (mroC _) (by k_is) (by k_is) (by k_is) (by k_is) | exact ll_list (by k_asm) (by k_mem))); (case hz => first | omega | (simp only [Array.size_push]; omega)))))
local macro_rules | `(tactic| walk_at "call builtin:list.append") => `(tactic| (k_here; (with_reducible show wpAny _ _ (call (Value.builtin _) [Value.ref _, _]) _ _ _); k_dflt (refine' l_append ?F ?N ?hi ?U ?hz ?_; (case F => k_asm); (case N => k_asm); (case U => (intro k'; k_upd)); (case hi => first | exact is_news (by k_asm) (by k_asm) (by k_asm) (by k_mem) (mroC _) | exact is_list (by k_asm) (by k_mem)); (case hz => first | omega | (simp only [Array.size_push]; omega)); k_whole); intro k' h' F' N'; (try dsimp only at N'); (try k_sweep)))
local macro_rules | `(tactic| walk_at "getMethod type:list") => `(tactic| (k_here; refine' method_type ?F ?X ?m (by decide +kernel) ?e ?h ?_; (case F => k_asm); (case X => k_asm); (case m => exact meta_of_list); (case e => k_dflt k_is); (case h => k_handed)))
local macro_rules | `(tactic| walk_at "call type:enumerate") => `(tactic| (refine Stop.out ?_))
local macro_rules | `(tactic| ktr_enter) => `(tactic| (refine' code_def ?k1 ?k2 ?k3 ?k4 ?k5 ?kA ?kF ?kK ?k6 ?k7 ?k8 ?k9 ?kB ?_ ?c2 ?c3 ?c4 ?c5; (case kA => exact rfl); (case kF => exact rfl); (case kK => first | assumption | exact rfl); (case k1 => k_asm); (case k2 => k_asm); (case k3 => k_asm); (case k4 => k_asm); (case k5 => k_asm); (case k6 => k_is); (case k7 => k_is); (case k8 => ktr_room); (case k9 => first | exact BindsTo.of_eq rfl | exact binds_K (by k_in) rfl (by k_is) rfl rfl rfl); (case c5 => decide); (case kB => exact locs rfl); (case c2 => exact rfl); (case c3 => exact rfl); (case c4 => exact rfl); k_whole; intro g' L' h' FG' F' N' B' X' T'; (try dsimp only); (try k_fold)))
local macro_rules | `(tactic| walk_at "call type:list") => `(tactic| (k_here; (with_reducible show wpAny _ _ (call (Value.type "list") [Value.ref _]) _ _ _); k_dflt (refine' l_copy ?hh ?F ?X ?N ?hx ?hz (mroC _) ?h0 ?h1 ?h2 ?h3 ?h4 ?_; (case hh => exact rfl); (case F => k_asm); (case X => k_asm); (case N => k_asm); (case hx => k_mem); (case hz => omega); (case h0 => k_is); (case h1 => k_is); (case h2 => k_is); (case h3 => k_is); (case h4 => k_is); k_whole); intro l9 k9 h' tk9 F' N' lt9; (try k_sweep)))
local macro_rules | `(tactic| walk_at "subscriptTail") => `(tactic| (k_here; (with_reducible show wpAny _ _ (subscriptTail _ _ (Value.ref _) (Value.int _ _)) _ _ _); k_dflt (refine' li_tail ?k1 ?k2 ?k3 ?k4 ?_; (case k1 => k_asm); (case k2 => k_mem); (case k3 => assumption); (case k4 => omega))))
local macro_rules | `(tactic| walk_at "exec Raise some none") => `(tactic| (k_here; (with_reducible show wpAny _ _ (exec (Stmt.Raise (some (Expr.Name ("ValueError" : Str) _)) none _) _) _ _ _); (with_reducible rename Fr _ _ _ _ => kF); k_dflt (refine' raise_VE ?hh ?hs ?hx ?_; (case hh => rfl); (case hs => rw [isSubtype_type]; kernel_rfl); (case hx => (refine' name_B kF ?k1 ?k2 ?k3 ?k4 ?k5 ?_; (case k1 => k_asm); (case k2 => k_asm); (case k3 => k_is); (case k4 => boot_by_name); (case k5 => decide); exact ⟨rfl, rfl⟩)))))
local macro_rules | `(tactic| walk_at "my ask") => `(tactic| ((refine' code_ask ?k1 ?k2 ?k3 ?k4 ?k5 ?kA ?kF ?cK ?k6 ?k7 ?k8 ?k9 ?kB ?_ ?c2 ?c3 ?c4 ?c5; (case kA => exact rfl); (case kF => exact rfl); (case k2 => k_asm); (case k1 => k_asm); (case k3 => k_asm); (case k4 => k_asm); (case k5 => k_asm); (case k6 => k_is); (case k7 => k_is); (case k8 => ktr_room); (case k9 => first | exact BindsTo.of_eq rfl | exact binds_K (by k_in) rfl (by k_is) rfl rfl rfl); (case kB => exact locs rfl); (case cK => first | assumption | exact rfl); (case c2 => exact rfl); (case c3 => exact rfl); (case c4 => exact rfl); (case c5 => decide); k_whole; intro g' L' h' FG' F' N' B' X' T' D'; (try dsimp only); (try k_lift B'); (try k_fold))))
local macro_rules | `(tactic| walk_at "call builtin:list.insert") => `(tactic| (k_here; (with_reducible show wpAny _ _ (call (Value.builtin _) [Value.ref _, Value.int _ _, _]) _ _ _); k_dflt (refine' l_insert ?F ?N ?hi ?U ?hz ?h0 ?hn ?_; (case F => k_asm); (case N => k_asm); (case U => (intro k'; k_upd)); (case hi => (first | exact is_news (by k_asm) (by k_asm) (by k_asm) (by k_mem) (mroC _) | exact is_list (by k_asm) (by k_mem))); (case hz => omega); (case h0 => omega); (case hn => omega); k_whole); intro k' h' F' N'; (try dsimp only at N'); (try k_sweep)))
local macro_rules | `(tactic| walk_at "call builtin:list.extend") => `(tactic| (k_here; (with_reducible show wpAny _ _ (call (Value.builtin _) [Value.ref _, Value.ref _]) _ _ _); k_dflt (refine' l_extend ?F ?N ?hi ?hb ?U ?hz ?_; (case F => k_asm); (case N => k_asm); (case hb => k_mem); (case U => (intro k'; k_upd)); (case hi => (first | exact is_news (by k_asm) (by k_asm) (by k_asm) (by k_mem) (mroC _) | exact is_list (by k_asm) (by k_mem))); (case hz => (first | omega | (simp only [List.size_toArray, List.length_cons, List.length_nil]; omega))); k_whole); intro k' h' F' N'; (try dsimp only at N'); (try k_sweep)))
local macro_rules | `(tactic| walk_at "call builtin:list.reverse") => `(tactic| (k_here; (with_reducible show wpAny _ _ (call (Value.builtin _) [Value.ref _]) _ _ _); k_dflt (refine' l_reverse ?F ?N ?hi ?U ?hz ?_; (case F => k_asm); (case N => k_asm); (case U => (intro k'; k_upd)); (case hi => (first | exact is_news (by k_asm) (by k_asm) (by k_asm) (by k_mem) (mroC _) | exact is_list (by k_asm) (by k_mem))); (case hz => omega); k_whole); intro k' h' F' N'; (try dsimp only at N'); (try k_sweep)))
local macro_rules | `(tactic| walk_at "call builtin:list.sort") => `(tactic| (k_here; (with_reducible show wpAny _ _ (call (Value.builtin _) [Value.ref _]) _ _ _); k_dflt (refine' l_sort ?F ?N ?hi ?U ?hI ?h64 ?_; (case F => k_asm); (case N => k_asm); (case U => k_updF); (case hi => (first | exact is_news (by k_asm) (by k_asm) (by k_asm) (by k_mem) (mroC _) | exact is_list (by k_asm) (by k_mem))); (case hI => assumption); (case h64 => omega); k_whole); intro out ns' k' h' iI iP iS F' N'; (try dsimp only at N'); (try k_sweep)))
local macro_rules | `(tactic| walk_at "call builtin:list.pop") => `(tactic| (k_here; (with_reducible show wpAny _ _ (call (Value.builtin _) [Value.ref _, Value.int _ _]) _ _ _); k_dflt (refine' l_pop ?F ?N ?hi ?U ?hz ?h0 ?hv ?_; (case F => k_asm); (case N => k_asm); (case U => (intro k'; k_upd)); (case hi => (first | exact is_news (by k_asm) (by k_asm) (by k_asm) (by k_mem) (mroC _) | exact is_list (by k_asm) (by k_mem))); (case hz => omega); (case h0 => omega); (case hv => assumption); k_whole); intro k' h' F' N'; (try dsimp only at N'); (try k_sweep)))
local macro_rules | `(tactic| walk_at "call builtin:list.remove") => `(tactic| (k_here; (with_reducible show wpAny _ _ (call (Value.builtin _) [Value.ref _, Value.int _ _]) _ _ _); k_dflt (refine' l_remove ?F ?N ?hi ?U ?hz ?hI ?hj ?hno ?_; (case F => k_asm); (case N => k_asm); (case U => (intro k'; k_upd)); (case hI => assumption); (case hj => assumption); (case hno => assumption); (case hi => (first | exact is_news (by k_asm) (by k_asm) (by k_asm) (by k_mem) (mroC _) | exact is_list (by k_asm) (by k_mem))); (case hz => omega); k_whole); intro k' h' F' N'; (try dsimp only at N'); (try k_sweep)))
local macro_rules | `(tactic| walk_at "delItem ref int") => `(tactic| (k_here; k_dflt (refine' ll_del ?Y ?F ?N ?U ?hz ?h0 ?hn ?_; (case F => k_asm); (case N => k_asm); (case U => (intro k'; k_upd)); (case Y => (first | exact ll_own (by k_asm) (by k_asm) (by k_asm) (by k_mem) (mroC _) (by k_is) (by k_is) (by k_is) (by k_is) | exact ll_list (by k_asm) (by k_mem))); (case hz => omega); (case h0 => omega); (case hn => omega); k_whole); intro k' h' F' N'; (try dsimp only at N'); (try k_sweep)))
local macro_rules | `(tactic| walk_at "setItem ref ref") => `(tactic| (k_here; k_dflt (refine' set_slice_p ?F ?N ?he ?hs ?hq ?hb ?hab ?Y ?U ?hz ?h0 ?hn ?_; (case F => k_asm); (case N => k_asm); (case he => exact rfl); (case hs => exact rfl); (case hq => exact rfl); (case hb => k_mem); (case hab => k_ne); (case Y => (intro s' F' N'; (first | exact ll_own (by k_asm) (by k_asm) (by k_asm) (by k_mem) (mroC _) (by k_is) (by k_is) (by k_is) (by k_is) | exact ll_list (by k_asm) (by k_mem)))); (case U => (intro k'; k_upd)); (case hz => (first | omega | (simp only [List.size_toArray, List.length_cons, List.length_nil]; omega))); (case h0 => omega); (case hn => omega); k_whole); intro k' h' F' N'; (try dsimp only at N'); (try k_sweep)))
local macro_rules | `(tactic| walk_at "pad 0") => `(tactic| skip)
local macro_rules | `(tactic| walk_at "pad 1") => `(tactic| skip)
local macro_rules | `(tactic| walk_at "pad 2") => `(tactic| skip)
local macro_rules | `(tactic| walk_at "pad 3") => `(tactic| skip)
local macro_rules | `(tactic| walk_at "pad 4") => `(tactic| skip)
local macro_rules | `(tactic| walk_at "pad 5") => `(tactic| skip)
local macro_rules | `(tactic| walk_at "pad 6") => `(tactic| skip)
local macro_rules | `(tactic| walk_at "pad 7") => `(tactic| skip)
local macro_rules | `(tactic| walk_at "pad 8") => `(tactic| skip)
local macro_rules | `(tactic| walk_at "pad 9") => `(tactic| skip)
local macro_rules | `(tactic| walk_at "pad 10") => `(tactic| skip)
local macro_rules | `(tactic| walk_at "pad 11") => `(tactic| skip)
local macro_rules | `(tactic| walk_at "pad 12") => `(tactic| skip)
local macro_rules | `(tactic| walk_at "pad 13") => `(tactic| skip)
local macro_rules | `(tactic| walk_at "pad 14") => `(tactic| skip)
local macro_rules | `(tactic| walk_at "pad 15") => `(tactic| skip)
local macro_rules | `(tactic| walk_at "pad 16") => `(tactic| skip)
local macro_rules | `(tactic| walk_at "pad 17") => `(tactic| skip)
local macro_rules | `(tactic| walk_at "pad 18") => `(tactic| skip)
local macro_rules | `(tactic| walk_at "pad 19") => `(tactic| skip)
local macro_rules | `(tactic| walk_at "pad 20") => `(tactic| skip)
local macro_rules | `(tactic| walk_at "pad 21") => `(tactic| skip)
local macro_rules | `(tactic| walk_at "pad 22") => `(tactic| skip)
local macro_rules | `(tactic| walk_at "pad 23") => `(tactic| skip)
local macro_rules | `(tactic| walk_at "pad 24") => `(tactic| skip)
local macro_rules | `(tactic| walk_at "pad 25") => `(tactic| skip)
local macro_rules | `(tactic| walk_at "pad 26") => `(tactic| skip)
local macro_rules | `(tactic| walk_at "pad 27") => `(tactic| skip)
local macro_rules | `(tactic| walk_at "pad 28") => `(tactic| skip)
local macro_rules | `(tactic| walk_at "pad 29") => `(tactic| skip)
local macro_rules | `(tactic| walk_at "pad 30") => `(tactic| skip)
local macro_rules | `(tactic| walk_at "pad 31") => `(tactic| skip)
local macro_rules | `(tactic| walk_at "pad 32") => `(tactic| skip)
local macro_rules | `(tactic| walk_at "pad 33") => `(tactic| skip)
local macro_rules | `(tactic| walk_at "pad 34") => `(tactic| skip)
local macro_rules | `(tactic| walk_at "pad 35") => `(tactic| skip)
local macro_rules | `(tactic| walk_at "pad 36") => `(tactic| skip)
local macro_rules | `(tactic| walk_at "pad 37") => `(tactic| skip)
local macro_rules | `(tactic| walk_at "pad 38") => `(tactic| skip)
local macro_rules | `(tactic| walk_at "pad 39") => `(tactic| skip)
local macro_rules | `(tactic| walk_at "call type:list") => `(tactic| (k_here; (with_reducible show wpAny _ _ (call (Value.type "list") [Value.ref _]) _ _ _); k_dflt (refine' l_copy ?hh ?F ?X ?N ?hx ?hz (mroC _) ?h0 ?h1 ?h2 ?h3 ?h4 ?_; (case hh => exact rfl); (case F => k_asm); (case X => k_asm); (case N => k_asm); (case hx => k_mem); (case hz => exact Nat.le_of_ble_eq_true rfl); (case h0 => k_is); (case h1 => k_is); (case h2 => k_is); (case h3 => k_is); (case h4 => k_is); k_whole); intro l9 k9 h' tk9 F' N' lt9; (try k_sweep)))
local macro_rules | `(tactic| walk_at "setItem ref ref") => `(tactic| ((with_reducible show wpAny _ _ (setItem _ _ _) _ _ _); refine Stop.out ?_))
theorem mnext3 {tup : Addr} {a b : Tok} : ∀ (i : Nat) v, (#[Value.int 1 a, .str (Str.ofString "1") b, .ref tup] : Array Value)[i]? = some v → MNext tup i v := by
  intro i v h
  match i, h with
  | 0, h => exact .inl ⟨rfl, a, (Option.some.inj h).symm⟩
  | 1, h => exact .inr (.inl ⟨rfl, b, (Option.some.inj h).symm⟩)
  | 2, h => exact .inr (.inr ⟨rfl, (Option.some.inj h).symm⟩)
  | i + 3, h => simp at h
theorem news_lt {h₀ h : Heap} {L d : Addr} {l : List (Addr × Obj)} (N : News h₀ L h l) (e : h.objs.size = d) : ∀ p ∈ l, p.1 < d := fun p hp => e ▸ Heap.lt_size (N p hp).1
theorem lt_up {d x : Addr} {l : List (Addr × Obj)} (h : ∀ p ∈ l, p.1 < d) (e : x = d + 1) : ∀ p ∈ l, p.1 < x := fun p hp => by rw [e]; exact Nat.lt_succ_of_lt (h p hp)
theorem one_at {a v : Value} {i : Nat} (h : (#[a] : Array Value)[i]? = some v) : v = a := by
  match i, h with
  | 0, h => exact (Option.some.inj h).symm
  | i + 1, h => simp at h
theorem drop5own {h₀ h : Heap} {L : Addr} {a b c d e D x y t I : Addr × Obj} {rest own : List (Addr × Obj)} (N : News h₀ L h (a :: b :: c :: d :: e :: D :: x :: y :: t :: I :: (rest ++ own))) : News h₀ L h (D :: x :: y :: t :: I :: rest) := fun p hp => N p (by
  simp only [List.mem_cons, List.mem_append] at hp ⊢; grind)
theorem keep4 {h₀ h : Heap} {L x dx tup : Addr} {vs : Array Value} {n k : Nat} {ta tb : Tok} {a c d e f : Addr × Obj} {rest : List (Addr × Obj)} (N : News h₀ L h (a :: (x, subObj 68 dx vs n) :: c :: d :: e :: f :: (tup, tupO 1 2 ta tb k) :: rest)) :
    ∃ vs' ta' tb' k', vs'.size = vs.size ∧ News h₀ L h (a :: (x, subObj 68 dx vs' n) :: c :: (tup, tupO 1 2 ta' tb' k') :: rest) :=
  ⟨vs, ta, tb, k, rfl, fun p hp => N p (by simp only [List.mem_cons] at hp ⊢; grind)⟩
theorem key_true {w : World} {rest : List (Addr × Obj)} {tup : Addr} (hT : TupIn rest tup) : KeyOf w rest tup (.bool true) (some 0) := fun N => ⟨ask_true _ _ _ _, hT.at N⟩
theorem key_int2 {w : World} {rest : List (Addr × Obj)} {tup : Addr} {t : Tok} (hT : TupIn rest tup) : KeyOf w rest tup (.int 2 t) none := fun N => ⟨ask_int2 _ _ _ _ _, hT.at N⟩
theorem key_str1 {w : World} {rest : List (Addr × Obj)} {tup : Addr} {t : Tok} (hT : TupIn rest tup) : KeyOf w rest tup (.str (Str.ofString "1") t) (some 1) := fun N => ⟨ask_str1 _ _ _ _ _, hT.at N⟩
theorem key_str2 {w : World} {rest : List (Addr × Obj)} {tup : Addr} {t : Tok} (hT : TupIn rest tup) : KeyOf w rest tup (.str (Str.ofString "2") t) none := fun N => ⟨ask_str2 _ _ _ _ _, hT.at N⟩
theorem key_tup12 {w : World} {rest : List (Addr × Obj)} {tup t : Addr} (hT : TupIn rest tup) (h2 : TupIn rest t) : KeyOf w rest tup (.ref t) (some 2) := fun N => ⟨ask_tup12 _ _ _ _ _ (h2.at N), hT.at N⟩
theorem key_tup21 {w : World} {rest : List (Addr × Obj)} {tup t : Addr} (hT : TupIn rest tup) (h2 : ∃ ta tb c, (t, tupO 2 1 ta tb c) ∈ rest) (hne : t ≠ tup) : KeyOf w rest tup (.ref t) none := fun N => ⟨ask_tup21 _ _ _ _ _ (let ⟨ta, tb, c, hm⟩ := h2; ⟨ta, tb, c, (N _ hm).1⟩) hne, hT.at N⟩
theorem news_31 {h₀ h : Heap} {L : Addr} {a b c d : Addr × Obj} {l : List (Addr × Obj)} (N : News h₀ L h (a :: b :: c :: d :: l)) : News h₀ L h (b :: c :: d :: a :: l) := fun p hp => N p (by
  simp only [List.mem_cons] at hp ⊢; grind)
section
variable {w : World} {p : Program} {loose : List Str} {mean : ExcName → Option Value} {mg mb : Str → Option Value}
  {dp un : Nat} {gd : Option (List Code)} {cn : Str} {cs : Scope} {ca : Addr} {ccd : Value} {cl : List (Str × Addr)} {outer : List Env} {A₀ : Around} {base h₀ : Heap} {L : Addr} {m : Str → Option Value} {s : Shared} {Q E : Value → Shared → Prop}

theorem keys_spec {rest : List (Addr × Obj)}
    (B : Below A₀ base [] h₀) (F : Fr h₀ L s.heap m) (X : (hd.heap_39 w.params).In h₀) (T : Top p loose mean mg mb h₀) (hk : cs.kind = .function) (hdp : dp + 12 < recursionLimit) (hun : un + 170 < cLine)
    (N : News h₀ L s.heap rest) (XB : (hd.heap_39 w.params).In base) (TB : Top p loose mean mg mb base)
    (ret : ∀ h' tk', Fr h₀ L h' m → News h₀ L h' rest → Q (.bool true) { s with heap := h', toks := tk' }) :
    wpAny (model PySem.Challenge.rw_aq6060_01.row.prog w) (ktrTop dp un gd cn cs L ca ccd cl []) (call (.ref 93) []) Q E s := by
  refine wpAny_call ?_
  k_dflt (walk_at "my ask")
  (repeat' ((fail_if_success (with_reducible show Stop _)); first | (k_unfold; (try dsimp only)) | (k_end; wrow_close) | walk1 | (dsimp only; walk1) | (leave1; try dsimp only) | fail "no step"))
  rename_i g1 L1 h1 FG1 B1 X1 T1 KD1 tup hA lA lst hB FB NB lB
  (refine ⟨?_⟩; k_dflt (refine' (mk_m) ?cB_12 ?cF_12 ?cX_12 ?cT_12 ?chk_12 ?chdp_12 ?chun_12 ?cN_12 mnext3 rfl ⟨_, _, _, .head _⟩ ?_; (case cB_12 => k_asm); (case cF_12 => k_asm); (case cX_12 => k_asm); (case cT_12 => k_asm); (case cN_12 => k_asm); (case chk_12 => exact rfl); (case chdp_12 => show (dp + 1 + 6) < recursionLimit; omega); (case chun_12 => show (un + 3 + 130) < cLine; omega)))
  intro x dx D n t1 t2 h2 tk2 F2 N2 lt2 e2
  (repeat' ((fail_if_success (with_reducible show Stop _)); first | (k_unfold; (try dsimp only)) | (k_end; wrow_close) | walk1 | (dsimp only; walk1) | (leave1; try dsimp only) | fail "no step"))
  (refine ⟨?_⟩; k_dflt (refine' (contains_dirty_m (j := some 0)) ?cB_13 ?cF_13 ?cX_13 ?cT_13 ?chk_13 ?chdp_13 ?chun_13 ?cN_13 (by rw [e2]; exact Nat.succ_ne_self _) (fun p hp => Nat.ne_of_lt (lt2 p hp)) mnext3 rfl ⟨_, _, _, .tail _ (.head _)⟩ (key_true ⟨_, _, _, .tail _ (.head _)⟩) ?_; (case cB_13 => k_asm); (case cF_13 => k_asm); (case cX_13 => k_asm); (case cT_13 => k_asm); (case cN_13 => k_asm); (case chk_13 => exact rfl); (case chdp_13 => show (dp + 1 + 4) < recursionLimit; omega); (case chun_13 => show (un + 3 + 110) < cLine; omega)))
  intro D3 o3 h3 tk3 F3 N3 M3 lo3 lD3
  replace F3 := F3
  have e9 : (upto 3 (some 0)).isSome = true := rfl
  rw [e9]
  (repeat' ((fail_if_success (with_reducible show Stop _)); first | (k_unfold; (try dsimp only)) | (k_end; wrow_close) | walk1 | (dsimp only; walk1) | (leave1; try dsimp only) | fail "no step"))
  (refine ⟨?_⟩; k_dflt (refine' (index_m (i := 0) (j := some 0)) ?cB_14 ?cF_14 ?cX_14 ?cT_14 ?chk_14 ?chdp_14 ?chun_14 ?cN_14 M3 lo3 ?hK1 rfl ?_; (case cB_14 => k_asm); (case cF_14 => k_asm); (case cX_14 => k_asm); (case cT_14 => k_asm); (case cN_14 => k_asm); (case chk_14 => exact rfl); (case chdp_14 => show (dp + 1 + 6) < recursionLimit; omega); (case chun_14 => show (un + 3 + 120) < cLine; omega)))
  case hK1 => exact key_true ⟨_, _, _, .tail _ (.head _)⟩
  intro u4 h4 tk4 F4 N4
  (repeat' ((fail_if_success (with_reducible show Stop _)); first | (k_unfold; (try dsimp only)) | (k_end; wrow_close) | walk1 | (dsimp only; walk1) | (leave1; try dsimp only) | fail "no step"))
  (refine ⟨?_⟩; k_dflt (refine' (add_m (i := 0) (j := some 0)) ?cB_15 ?cF_15 ?cX_15 ?cT_15 ?chk_15 ?chdp_15 ?chun_15 ?cN_15 M3 lo3 ?hK2 rfl ?_; (case cB_15 => k_asm); (case cF_15 => k_asm); (case cX_15 => k_asm); (case cT_15 => k_asm); (case cN_15 => k_asm); (case chk_15 => exact rfl); (case chdp_15 => show (dp + 1 + 6) < recursionLimit; omega); (case chun_15 => show (un + 3 + 120) < cLine; omega)))
  case hK2 => exact key_true ⟨_, _, _, .tail _ (.head _)⟩
  intro u5 h5 tk5 F5 N5
  (repeat' ((fail_if_success (with_reducible show Stop _)); first | (k_unfold; (try dsimp only)) | (k_end; wrow_close) | walk1 | (dsimp only; walk1) | (leave1; try dsimp only) | fail "no step"))
  (refine ⟨?_⟩; k_dflt (refine' (index_m (i := 1) (j := some 1)) ?cB_16 ?cF_16 ?cX_16 ?cT_16 ?chk_16 ?chdp_16 ?chun_16 ?cN_16 M3 lo3 ?hK3 rfl ?_; (case cB_16 => k_asm); (case cF_16 => k_asm); (case cX_16 => k_asm); (case cT_16 => k_asm); (case cN_16 => k_asm); (case chk_16 => exact rfl); (case chdp_16 => show (dp + 1 + 6) < recursionLimit; omega); (case chun_16 => show (un + 3 + 120) < cLine; omega)))
  case hK3 => exact key_str1 ⟨_, _, _, .tail _ (.head _)⟩
  intro u6 h6 tk6 F6 N6
  (repeat' ((fail_if_success (with_reducible show Stop _)); first | (k_unfold; (try dsimp only)) | (k_end; wrow_close) | walk1 | (dsimp only; walk1) | (leave1; try dsimp only) | fail "no step"))
  rename News _ _ _ _ => kN
  replace kN := news_31 kN
  (refine ⟨?_⟩; k_dflt (refine' (add_m (i := 2) (j := some 2)) ?cB_17 ?cF_17 ?cX_17 ?cT_17 ?chk_17 ?chdp_17 ?chun_17 ?cN_17 M3 lo3 ?hK4 rfl ?_; (case cB_17 => k_asm); (case cF_17 => k_asm); (case cX_17 => k_asm); (case cT_17 => k_asm); (case cN_17 => k_asm); (case chk_17 => exact rfl); (case chdp_17 => show (dp + 1 + 6) < recursionLimit; omega); (case chun_17 => show (un + 3 + 120) < cLine; omega)))
  case hK4 => exact key_tup12 ⟨_, _, _, .tail _ (.tail _ (.head _))⟩ ⟨_, _, _, .head _⟩
  intro u7 h7 tk7 F7 N7
  (repeat' ((fail_if_success (with_reducible show Stop _)); first | (k_unfold; (try dsimp only)) | (k_end; wrow_close) | walk1 | (dsimp only; walk1) | (leave1; try dsimp only) | fail "no step"))
  (refine ⟨?_⟩; k_dflt (refine' (append_m (i := 0) (j := some 0)) ?cB_18 ?cF_18 ?cX_18 ?cT_18 ?chk_18 ?chdp_18 ?chun_18 ?cN_18 M3 lo3 ?hK5 rfl ?_; (case cB_18 => k_asm); (case cF_18 => k_asm); (case cX_18 => k_asm); (case cT_18 => k_asm); (case cN_18 => k_asm); (case chk_18 => exact rfl); (case chdp_18 => show (dp + 1 + 4) < recursionLimit; omega); (case chun_18 => show (un + 3 + 110) < cLine; omega)))
  case hK5 => exact key_true ⟨_, _, _, .tail _ (.tail _ (.head _))⟩
  intro h8 tk8 F8 N8
  (repeat' ((fail_if_success (with_reducible show Stop _)); first | (k_unfold; (try dsimp only)) | (k_end; wrow_close) | walk1 | (dsimp only; walk1) | (leave1; try dsimp only) | fail "no step"))
  have e8 : (upto 3 none).isSome = false := rfl
  rename News _ _ _ _ => kN
  replace kN := news_tl (news_tl (news_tl kN))
  (refine ⟨?_⟩; k_dflt (refine' (contains_m (j := none)) ?cB_19 ?cF_19 ?cX_19 ?cT_19 ?chk_19 ?chdp_19 ?chun_19 ?cN_19 M3 lo3 ?hK6 ?_; (case cB_19 => k_asm); (case cF_19 => k_asm); (case cX_19 => k_asm); (case cT_19 => k_asm); (case cN_19 => k_asm); (case chk_19 => exact rfl); (case chdp_19 => show (dp + 1 + 4) < recursionLimit; omega); (case chun_19 => show (un + 3 + 110) < cLine; omega)))
  case hK6 => exact key_int2 ⟨_, _, _, .tail _ (.tail _ (.head _))⟩
  intro h10 tk10 F10 N10
  refine ⟨false, rfl, ?_⟩
  (repeat' ((fail_if_success (with_reducible show Stop _)); first | (k_unfold; (try dsimp only)) | (k_end; wrow_close) | walk1 | (dsimp only; walk1) | (leave1; try dsimp only) | fail "no step"))
  (refine ⟨?_⟩; k_dflt (refine' (contains_m (j := none)) ?cB_20 ?cF_20 ?cX_20 ?cT_20 ?chk_20 ?chdp_20 ?chun_20 ?cN_20 M3 lo3 ?hK7 ?_; (case cB_20 => k_asm); (case cF_20 => k_asm); (case cX_20 => k_asm); (case cT_20 => k_asm); (case cN_20 => k_asm); (case chk_20 => exact rfl); (case chdp_20 => show (dp + 1 + 4) < recursionLimit; omega); (case chun_20 => show (un + 3 + 110) < cLine; omega)))
  case hK7 => exact key_str2 ⟨_, _, _, .tail _ (.tail _ (.head _))⟩
  intro h11 tk11 F11 N11
  rw [e8]
  (repeat' ((fail_if_success (with_reducible show Stop _)); first | (k_unfold; (try dsimp only)) | (k_end; wrow_close) | walk1 | (dsimp only; walk1) | (leave1; try dsimp only) | fail "no step"))
  rename News _ _ _ _ => kN
  replace kN := news_31 kN
  (refine ⟨?_⟩; k_dflt (refine' (contains_m (j := none)) ?cB_21 ?cF_21 ?cX_21 ?cT_21 ?chk_21 ?chdp_21 ?chun_21 ?cN_21 M3 lo3 ?hK8 ?_; (case cB_21 => k_asm); (case cF_21 => k_asm); (case cX_21 => k_asm); (case cT_21 => k_asm); (case cN_21 => k_asm); (case chk_21 => exact rfl); (case chdp_21 => show (dp + 1 + 4) < recursionLimit; omega); (case chun_21 => show (un + 3 + 110) < cLine; omega)))
  case hK8 => exact key_tup21 ⟨_, _, _, .tail _ (.tail _ (.tail _ (.head _)))⟩ ⟨_, _, _, .head _⟩ (by show @Ne Nat _ _; omega)
  intro h12 tk12 F12 N12
  rw [e8]
  (repeat' ((fail_if_success (with_reducible show Stop _)); first | (k_unfold; (try dsimp only)) | (k_end; wrow_close) | walk1 | (dsimp only; walk1) | (leave1; try dsimp only) | fail "no step"))
  rename News _ _ _ _ => kN
  obtain ⟨vs, ta, tb, kt, hvs, N9⟩ := keep4 kN
  replace hvs : vs.size = 3 := hvs
  clear kN
  refine ⟨?_⟩
  rename Fr _ _ _ _ => F1
  with_unfolding_all refine forF (fr_star (c := L) F1) (by exact rfl) (by exact rfl) ?_
  k_steps
  refine ⟨?_⟩
  rename IsRange _ _ _ _ _ _ _ _ => hR
  rename Fr _ _ _ _ => F2
  rename News _ _ _ _ => N2
  obtain ⟨oL, hg⟩ := fr_get FG1
  have hLn : ∀ p ∈ ((D3, o3) :: (x, subObj 68 dx vs n) :: (dx, attrD w.params t1 t2 true D3 2) :: (tup, tupO 1 2 ta tb kt) :: rest), p.1 ≠ L := fun p hp q => by
    have := (N2 p hp).2.2
    rw [q, hg] at this; cases this
  have hTup : ∀ {l : List (Addr × Obj)}, (∀ p ∈ (tup, tupO 1 2 ta tb kt) :: rest, p ∈ l) → TupIn l tup := fun z => ⟨ta, tb, kt, z _ (.head _)⟩
  refine loop_range (n := 4) (news := (L, oL) :: ((D3, o3) :: (x, subObj 68 dx vs n) :: (dx, attrD w.params t1 t2 true D3 2) :: (tup, tupO 1 2 ta tb kt) :: rest))
    (fun i m' nx => m' (Str.ofString "mixed") = some (.ref x) ∧ (∃ t, m' (Str.ofString "falls") = some (.int (i : Nat) t)) ∧ ∃ sl : Array (Option Value), nx = (L, { oL with slots := sl }) :: ((D3, o3) :: (x, subObj 68 dx vs n) :: (dx, attrD w.params t1 t2 true D3 2) :: (tup, tupO 1 2 ta tb kt) :: rest))
    rfl hR rfl (by decide) (fr_star (c := L) F2) (news_star F2 N2 hg) ⟨rfl, ⟨_, rfl⟩, oL.slots, rfl⟩ ?turn ?done
  case turn =>
    clear N2 F2 hR
    rintro i ti m₁ nx h2 tk2 oI hi ⟨h1, ⟨tf, h3⟩, sl, rfl⟩ hoff F2 N2
    have N3 := news_in [(L, { oL with slots := sl }), (D3, o3), (x, subObj 68 dx vs n), (dx, attrD w.params t1 t2 true D3 2), (tup, tupO 1 2 ta tb kt)] N2
    simp only [List.cons_append, List.nil_append] at N3
    obtain ⟨g2, T2, F3, N3, B3⟩ := star_back B1 hg F2 N3 (fun p hp => by
      simp only [List.mem_cons] at hp
      rcases hp with h | h | h | h | h | h
      · exact hLn p (by simp [h])
      · exact hLn p (by simp [h])
      · exact hLn p (by simp [h])
      · exact hLn p (by simp [h])
      · rw [h]; exact (hoff _ (.head _)).symm
      · exact hLn p (by simp [h])) rfl
    have KD3 := KD1.turn T2
    have X3 := XB.keeps B3.stays
    have T3 := TB.keeps B3.stays
    have F3 := fr_as F3 (in_two h1 h3)
    clear F2 N2 h1 h3
    have hi4 : i = 0 ∨ i = 1 ∨ i = 2 ∨ i = 3 := by omega
    rcases hi4 with rfl | rfl | rfl | rfl
    · k_steps
      refine ⟨?_⟩
      refine wpAny_call ?_
      k_dflt ktr_enter
      k_steps
      rename News _ _ _ _ => kN
      refine in_list_raises ?hu0 rfl kN (by k_mem) (by k_mem) M3 (fun h' tk e hx => ?_)
      case hu0 => show un + 3 + 3 + 1 < cLine; omega
      k_steps
      rename Fr _ _ _ _ => F7
      rename News _ _ _ _ => N7
      rename KtsTurn _ _ _ => T7
      obtain ⟨F8, sl8, N8⟩ := star_on T7 hg F7 (news_tl N7)
      exact ⟨_, _, _, _, rfl, F8, news_out [(L, { oL with slots := sl8 }), (D3, o3), (x, subObj 68 dx vs n), (dx, attrD w.params t1 t2 true D3 2), (tup, tupO 1 2 ta tb kt)] N8, (fun p hp => by
        rcases List.mem_cons.mp hp with h | h
        · have := hoff (L, { oL with slots := sl }) (.head _)
          rw [h]; exact this
        · exact hoff p (.tail _ h)), rfl, ⟨_, rfl⟩, sl8, rfl⟩
    · k_steps
      refine ⟨?_⟩
      refine wpAny_call ?_
      k_dflt ktr_enter
      k_steps
      rename News _ _ _ _ => kN
      refine notin_list_raises ?hu1 rfl kN (by k_mem) (by k_mem) M3 (fun h' tk e hx => ?_)
      case hu1 => show un + 3 + 3 + 1 < cLine; omega
      k_steps
      rename Fr _ _ _ _ => F7
      rename News _ _ _ _ => N7
      rename KtsTurn _ _ _ => T7
      obtain ⟨F8, sl8, N8⟩ := star_on T7 hg F7 (news_tl N7)
      exact ⟨_, _, _, _, rfl, F8, news_out [(L, { oL with slots := sl8 }), (D3, o3), (x, subObj 68 dx vs n), (dx, attrD w.params t1 t2 true D3 2), (tup, tupO 1 2 ta tb kt)] N8, (fun p hp => by
        rcases List.mem_cons.mp hp with h | h
        · have := hoff (L, { oL with slots := sl }) (.head _)
          rw [h]; exact this
        · exact hoff p (.tail _ h)), rfl, ⟨_, rfl⟩, sl8, rfl⟩
    · k_steps
      refine ⟨?_⟩
      refine wpAny_call ?_
      k_dflt ktr_enter
      k_steps
      refine ⟨?_⟩
      refine wpAny_call ?_
      k_dflt ktr_enter
      k_steps
      rename News _ _ _ _ => kN
      refine notin_list_raises ?hu2 rfl kN (by k_mem) (by k_mem) M3 (fun h' tk e hx => ?_)
      case hu2 => show un + 3 + 3 + 3 + 1 < cLine; omega
      k_steps
      rename Fr _ _ _ _ => F7
      rename News _ _ _ _ => N7
      rename KtsTurn _ _ _ => T7
      obtain ⟨F8, sl8, N8⟩ := star_on T7 hg F7 (news_tl N7)
      exact ⟨_, _, _, _, rfl, F8, news_out [(L, { oL with slots := sl8 }), (D3, o3), (x, subObj 68 dx vs n), (dx, attrD w.params t1 t2 true D3 2), (tup, tupO 1 2 ta tb kt)] N8, (fun p hp => by
        rcases List.mem_cons.mp hp with h | h
        · have := hoff (L, { oL with slots := sl }) (.head _)
          rw [h]; exact this
        · exact hoff p (.tail _ h)), rfl, ⟨_, rfl⟩, sl8, rfl⟩
    · k_steps
      refine ⟨?_⟩
      rename Fr _ _ _ _ => kF
      rename News _ _ _ _ => kN
      refine wpAny_call (makeL (fI := 30) kF kN (X3.keeps kF.keep) (makesC _) (by k_is) (by k_is) fun x9 dx9 h9 F9 N9 e9a e9b => ?_)
      have lq := news_lt kN e9a
      have lx := lt_up lq e9b
      have le : @LT.lt Nat _ dx9 x9 := by rw [e9b]; exact Nat.lt_succ_self _
      clear e9a e9b
      k_lt lq
      k_lt lx
      k_dflt ktr_enter
      k_steps
      refine ⟨?_⟩
      rename Fr _ _ _ _ => F1
      with_unfolding_all refine forE F1 (by exact rfl) (by exact rfl) (by exact rfl) (by exact rfl) ?_
      k_steps
      refine ⟨?_⟩
      rename Fr _ _ _ _ => F1
      rename News _ _ _ _ => N1
      obtain ⟨nx0, hnx0, N1'⟩ : ∃ z, z = _ ∧ News _ _ _ z := ⟨_, rfl, N1⟩
      refine enum_list (ku := 0) (fun i m' nx => i = 0 ∧ m' (Str.ofString "self") = some (.ref x9) ∧ nx = nx0)
        rfl (by rw [hnx0]; exact .tail _ (.tail _ (.tail _ (.head _)))) F1 N1' ⟨rfl, rfl, rfl⟩ ?turn3 ?done3
      case turn3 =>
        clear F1
        rintro i v t m₁ nx h7 tk7 own hv ⟨rfl, hs, rfl⟩ - hown F7 N7
        obtain rfl := one_at hv
        rw [hnx0] at N7
        simp only [List.cons_append] at N7
        have F8 := fr_as F7 (in2_one hs)
        clear F7 hs
        k_steps
        refine ⟨?_⟩
        rename News _ _ _ _ => kN
        refine set_list_raises ?hu3 rfl kN (by k_mem) (.head _) (MD.nil PySem.Challenge.rw_aq6060_01.row.prog w tup 0) (fun h' tk e hx => ?_)
        case hu3 => show un + 3 + 1 + 3 + 1 < cLine; omega
        k_steps
        dsimp only [InitBack]
        k_steps
        rename Fr _ _ _ _ => F7
        rename News _ _ _ _ => N7
        rename KtsTurn _ _ _ => T7
        obtain ⟨F8, sl8, N8⟩ := star_on T7 hg F7 (drop5own N7)
        exact ⟨_, _, _, _, rfl, F8, news_out [(L, { oL with slots := sl8 }), (D3, o3), (x, subObj 68 dx vs n), (dx, attrD w.params t1 t2 true D3 2), (tup, tupO 1 2 ta tb kt)] N8, (fun p hp => by
          rcases List.mem_cons.mp hp with h | h
          · have := hoff (L, { oL with slots := sl }) (.head _)
            rw [h]; exact this
          · exact hoff p (.tail _ h)), rfl, ⟨_, rfl⟩, sl8, rfl⟩
      case done3 =>
        rintro m₁ nx h7 tk7 ⟨h10, -⟩
        exact absurd h10 (Nat.succ_ne_zero _)
  case done =>
    clear N2 F2 hR
    rintro m₁ nx h2 tk2 ⟨h1, ⟨tf, h3⟩, sl, rfl⟩ hoff F2 N2
    obtain ⟨g2, T2, F3, N3, B3⟩ := star_back B1 hg F2 N2 hLn rfl
    have KD3 := KD1.turn T2
    have X3 := XB.keeps B3.stays
    have T3 := TB.keeps B3.stays
    have F3 := fr_as F3 (map_two h1 h3)
    clear F2 N2 h1 h3
    k_steps
    rename Fr h₀ _ _ _ => kF
    rename News h₀ _ _ _ => kN
    have e3 : ((vs.size : Int) == 3) = true := by rw [hvs]; rfl
    rw [e3]
    exact ret _ _ kF (fun p hp => kN p (.tail _ (.tail _ (.tail _ (.tail _ hp)))))
end
end Mine
end PJ

section PK1
namespace Mine
theorem top_off_K1 : True := by
  w_top off
  trivial
end Mine
set_option maxRecDepth 100000
set_option maxHeartbeats 8000000
namespace Mine
local macro_rules | `(tactic| k_inst) => `(tactic| (refine' inst_of_news ?N ?h1 ?h2; (case N => k_asm); (case h1 => k_mem); (case h2 => k_mem)))
local macro_rules | `(tactic| k_all) => `(tactic| first | assumption | exact allNe_all (by assumption) | exact allLt_ne (by assumption) | exact allLt_ne (And.right (by assumption)) | exact allLt_ne (And.right (And.right (by assumption))) | exact allLt_ne (And.right (And.right (And.right (by assumption)))) | exact allLt_ne (And.right (And.right (And.right (And.right (by assumption))))))
local macro_rules | `(tactic| walk_at "setAttr ref") => `(tactic| (k_here; k_dflt (refine' setL_dict ?k1 ?k2 ?k3 ?k4 ?k5 ?k6 ?k7 ?k8 ?k9 ?k10 ?k11 ?k12 ?k13 ?_; (case k1 => k_asm); (case k2 => k_asm); (case k3 => k_asm); (case k4 => k_inst); (case k5 => exact rfl); (case k6 => k_is); (case k7 => exact mroC _); (case k8 => k_is); (case k9 => k_is); (case k10 => k_get); (case k11 => k_put); (case k12 => k_upd); (case k13 => exact Nat.le_of_ble_eq_true rfl); k_whole; intro h' F' N'; (try k_sweep))))
local macro_rules | `(tactic| walk_at "setAttr ref") => `(tactic| (k_here; (first | ((with_reducible show wpAny _ _ (setAttr (Value.ref _) (Str.ofString "_dict") _) _ _ _); k_dflt (refine' set_d ?k1 ?k2 ?k3 ?k4 ?k5 ?k6 ?k7 ?k8 ?k9 ?_)) | ((with_reducible show wpAny _ _ (setAttr (Value.ref _) (Str.ofString "clean") _) _ _ _); k_dflt (refine' set_c ?k1 ?k2 ?k3 ?k4 ?k5 ?k6 ?k7 ?k8 ?k9 ?_))); (case k1 => k_asm); (case k2 => k_asm); (case k3 => k_asm); (case k4 => k_mem); (case k5 => k_dflt k_is); (case k6 => exact mroC _); (case k7 => k_dflt k_is); (case k8 => k_dflt k_is); (case k9 => k_dflt k_upd); k_whole; intro h' F' N'; (try k_sweep)))
local macro_rules | `(tactic| walk_at "eval Dict nil nil") => `(tactic| (k_here; k_dflt (refine' new_dictK ?k1 ?k2 (TopRead.nolimit (by k_asm)) ?_; (case k1 => k_asm); (case k2 => k_asm); k_whole); intro d' h' F' N' l1 lo'; (try k_lt l1); (try k_sweep)))
local macro_rules | `(tactic| walk_at "exec For Name Name cons nil") => `(tactic| (refine Stop.out ?_))
local macro_rules | `(tactic| walk_at "exec For Name Call cons nil") => `(tactic| (refine Stop.out ?_))
local macro_rules | `(tactic| walk_at "exec For Tuple Call cons nil") => `(tactic| (refine Stop.out ?_))
local macro_rules | `(tactic| walk_at "pyIter ref") => `(tactic| ((with_reducible show wpAny _ _ (pyIter (Value.ref _)) (fun it s₂ => LoopAtV _ _ _ _ _ _ _ _ _ it s₂) _ _); refine Stop.out ?_))
local macro_rules | `(tactic| walk_at "compareOp NotIn int ref") => `(tactic| (k_here; k_dflt ((first | refine' dm_notin_t ?k1 ?k2 ?k3 ?k4 ?k5 ?_; (case k1 => k_asm); (case k2 => k_mem); (case k3 => assumption); (case k4 => assumption); (case k5 => assumption) | refine' dm_notin_f ?k1 ?k2 ?k3 ?k4 ?k5 ?_; (case k1 => k_asm); (case k2 => k_mem); (case k3 => assumption); (case k4 => assumption); (case k5 => assumption)))))
local macro_rules | `(tactic| walk_at "compareOp In int ref") => `(tactic| (k_here; k_dflt ((first | refine' dm_in_t ?k1 ?k2 ?k3 ?k4 ?k5 ?_; (case k1 => k_asm); (case k2 => k_mem); (case k3 => assumption); (case k4 => assumption); (case k5 => assumption) | refine' dm_in_f ?k1 ?k2 ?k3 ?k4 ?k5 ?_; (case k1 => k_asm); (case k2 => k_mem); (case k3 => assumption); (case k4 => assumption); (case k5 => assumption)))))
local macro_rules | `(tactic| walk_at "setItem ref int") => `(tactic| (k_here; k_dflt (refine' dm_set ?k1 ?k2 ?k3 ?k4 ?k5 ?_; (case k1 => k_asm); (case k2 => k_asm); (case k3 => k_updF); (case k4 => assumption); (case k5 => omega); k_whole); intro o' h' F' N' x'; (try dsimp only at N'); (try k_sweep)))
local macro_rules | `(tactic| walk_at "getAttr ref") => `(tactic| (k_here; (first | ((with_reducible show wpAny _ _ (getAttr (Value.ref _) (Str.ofString "_dict") _) _ _ _); k_dflt (refine' getA_d ?k1 ?k2 ?k3 ?k4 ?k5 ?k6 ?k7 ?k8 ?k9 ?k10 ?k11 ?_)) | ((with_reducible show wpAny _ _ (getAttr (Value.ref _) (Str.ofString "clean") _) _ _ _); k_dflt (refine' getA_c ?k1 ?k2 ?k3 ?k4 ?k5 ?k6 ?k7 ?k8 ?k9 ?k10 ?k11 ?_))); (case k1 => k_asm); (case k2 => k_asm); (case k3 => k_asm); (case k4 => k_mem); (case k5 => k_mem); (case k6 => exact mroC _); (case k7 => k_dflt k_is); (case k8 => k_dflt k_is); (case k9 => k_dflt k_is); (case k10 => k_dflt k_is); (case k11 => k_dflt k_is); k_whole))
local macro_rules | `(tactic| walk_at "getMethod ref") => `(tactic| (k_here; k_dflt (refine' methA ?k1 ?k2 ?k3 ?k4 ?k5 ?k6 ?k7 ?k8 ?k9 ?k10 ?k11 ?_; (case k1 => k_asm); (case k2 => k_asm); (case k3 => k_asm); (case k4 => k_mem); (case k5 => k_mem); (case k6 => k_is); (case k7 => k_is); (case k8 => k_is); (case k9 => k_is); (case k10 => decide); (case k11 => k_get); k_whole)))
local macro_rules | `(tactic| walk_at "compareOp In int ref") => `(tactic| (k_here; k_dflt (refine' in_own ?k1 ?k2 ?k3 ?k4 ?k5 ?k6 ?_; (case k1 => k_asm); (case k2 => k_asm); (case k3 => k_asm); (case k4 => k_mem); (case k5 => k_is); (case k6 => k_is); k_whole)))
local macro_rules | `(tactic| walk_at "compareOp NotIn int ref") => `(tactic| (k_here; k_dflt (refine' notin_own ?k1 ?k2 ?k3 ?k4 ?k5 ?k6 ?_; (case k1 => k_asm); (case k2 => k_asm); (case k3 => k_asm); (case k4 => k_mem); (case k5 => k_is); (case k6 => k_is); k_whole)))
local macro_rules | `(tactic| walk_at "compareOp In int ref") => `(tactic| (k_here; k_dflt (refine' dm_in ?k1 ?k2 ?k3 ?k4 ?_; (case k1 => k_asm); (case k2 => k_mem); (case k3 => assumption); (case k4 => assumption))))
local macro_rules | `(tactic| walk_at "compareOp In int ref") => `(tactic| (k_here; k_dflt (first | refine' dm_in_t ?k1 ?k2 ?k3 ?k4 ?k5 ?_; (case k1 => k_asm); (case k2 => k_mem); (case k3 => assumption); (case k4 => assumption); (case k5 => assumption) | refine' dm_in_f ?k1 ?k2 ?k3 ?k4 ?k5 ?_; (case k1 => k_asm); (case k2 => k_mem); (case k3 => assumption); (case k4 => assumption); (case k5 => assumption))))
local macro_rules | `(tactic| walk_at "compareOp NotIn int ref") => `(tactic| (k_here; k_dflt (first | refine' dm_notin_t ?k1 ?k2 ?k3 ?k4 ?k5 ?_; (case k1 => k_asm); (case k2 => k_mem); (case k3 => assumption); (case k4 => assumption); (case k5 => assumption) | refine' dm_notin_f ?k1 ?k2 ?k3 ?k4 ?k5 ?_; (case k1 => k_asm); (case k2 => k_mem); (case k3 => assumption); (case k4 => assumption); (case k5 => assumption))))
local macro_rules | `(tactic| walk_at "subscriptTail") => `(tactic| (k_here; (with_reducible show wpAny _ _ (subscriptTail _ _ (Value.ref _) (Value.int _ _)) _ _ _); k_dflt (refine' dm_tail ?k1 ?k2 ?k3 ?k4 ?_; (case k1 => k_asm); (case k2 => k_mem); (case k3 => assumption); (case k4 => assumption))))
local macro_rules | `(tactic| walk_at "call ref") => `(tactic| ((first | (with_reducible show wpAny _ _ (call (Value.ref 37) _) _ _ _) | (with_reducible show wpAny _ _ (call (Value.ref 44) _) _ _ _) | (with_reducible show wpAny _ _ (call (Value.ref 51) _) _ _ _) | (with_reducible show wpAny _ _ (call (Value.ref 58) _) _ _ _) | (with_reducible show wpAny _ _ (call (Value.ref 65) _) _ _ _) | (with_reducible show wpAny _ _ (call (Value.ref 68) _) _ _ _) | (with_reducible show wpAny _ _ (call (Value.ref 79) _) _ _ _) | (with_reducible show wpAny _ _ (call (Value.ref 86) _) _ _ _) | (with_reducible show wpAny _ _ (call (Value.ref 93) _) _ _ _)); refine Stop.out ?_))
local macro_rules | `(tactic| walk_at "call builtin:len") => `(tactic| (k_here; (with_reducible show wpAny _ _ (call (Value.builtin "len") [Value.ref _]) _ _ _); k_dflt (refine' ll_len ?Y ?N ?hx ?hz ?_; (case N => k_asm); (case hx => k_mem); (case Y => (first | exact ll_own (by k_asm) (by k_asm) (by k_asm) (by k_mem) (mroC _) (by k_is) (by k_is) (by k_is) (by k_is) | exact ll_list (by k_asm) (by k_mem))); (case hz => first | omega | (simp only [Array.size_push]; omega)))))
local macro_rules | `(tactic| walk_at "call builtin:list.append") => `(tactic| (k_here; (with_reducible show wpAny _ _ (call (Value.builtin _) [Value.ref _, _]) _ _ _); k_dflt (refine' l_append ?F ?N ?hi ?U ?hz ?_; (case F => k_asm); (case N => k_asm); (case U => (intro k'; k_upd)); (case hi => first | exact is_news (by k_asm) (by k_asm) (by k_asm) (by k_mem) (mroC _) | exact is_list (by k_asm) (by k_mem)); (case hz => first | omega | (simp only [Array.size_push]; omega)); k_whole); intro k' h' F' N'; (try dsimp only at N'); (try k_sweep)))
local macro_rules | `(tactic| walk_at "getMethod type:list") => `(tactic| (k_here; refine' method_type ?F ?X ?m (by decide +kernel) ?e ?h ?_; (case F => k_asm); (case X => k_asm); (case m => exact meta_of_list); (case e => k_dflt k_is); (case h => k_handed)))
local macro_rules | `(tactic| walk_at "call type:enumerate") => `(tactic| (refine Stop.out ?_))
local macro_rules | `(tactic| ktr_enter) => `(tactic| (refine' code_def ?k1 ?k2 ?k3 ?k4 ?k5 ?kA ?kF ?kK ?k6 ?k7 ?k8 ?k9 ?kB ?_ ?c2 ?c3 ?c4 ?c5; (case kA => exact rfl); (case kF => exact rfl); (case kK => first | assumption | exact rfl); (case k1 => k_asm); (case k2 => k_asm); (case k3 => k_asm); (case k4 => k_asm); (case k5 => k_asm); (case k6 => k_is); (case k7 => k_is); (case k8 => ktr_room); (case k9 => first | exact BindsTo.of_eq rfl | exact binds_K (by k_in) rfl (by k_is) rfl rfl rfl); (case c5 => decide); (case kB => exact locs rfl); (case c2 => exact rfl); (case c3 => exact rfl); (case c4 => exact rfl); k_whole; intro g' L' h' FG' F' N' B' X' T'; (try dsimp only); (try k_fold)))
local macro_rules | `(tactic| walk_at "call type:list") => `(tactic| (k_here; (with_reducible show wpAny _ _ (call (Value.type "list") [Value.ref _]) _ _ _); k_dflt (refine' l_copy ?hh ?F ?X ?N ?hx ?hz (mroC _) ?h0 ?h1 ?h2 ?h3 ?h4 ?_; (case hh => exact rfl); (case F => k_asm); (case X => k_asm); (case N => k_asm); (case hx => k_mem); (case hz => omega); (case h0 => k_is); (case h1 => k_is); (case h2 => k_is); (case h3 => k_is); (case h4 => k_is); k_whole); intro l9 k9 h' tk9 F' N' lt9; (try k_sweep)))
local macro_rules | `(tactic| walk_at "subscriptTail") => `(tactic| (k_here; (with_reducible show wpAny _ _ (subscriptTail _ _ (Value.ref _) (Value.int _ _)) _ _ _); k_dflt (refine' li_tail ?k1 ?k2 ?k3 ?k4 ?_; (case k1 => k_asm); (case k2 => k_mem); (case k3 => assumption); (case k4 => omega))))
local macro_rules | `(tactic| walk_at "exec Raise some none") => `(tactic| (k_here; (with_reducible show wpAny _ _ (exec (Stmt.Raise (some (Expr.Name ("ValueError" : Str) _)) none _) _) _ _ _); (with_reducible rename Fr _ _ _ _ => kF); k_dflt (refine' raise_VE ?hh ?hs ?hx ?_; (case hh => rfl); (case hs => rw [isSubtype_type]; kernel_rfl); (case hx => (refine' name_B kF ?k1 ?k2 ?k3 ?k4 ?k5 ?_; (case k1 => k_asm); (case k2 => k_asm); (case k3 => k_is); (case k4 => boot_by_name); (case k5 => decide); exact ⟨rfl, rfl⟩)))))
local macro_rules | `(tactic| walk_at "my ask") => `(tactic| ((refine' code_ask ?k1 ?k2 ?k3 ?k4 ?k5 ?kA ?kF ?cK ?k6 ?k7 ?k8 ?k9 ?kB ?_ ?c2 ?c3 ?c4 ?c5; (case kA => exact rfl); (case kF => exact rfl); (case k2 => k_asm); (case k1 => k_asm); (case k3 => k_asm); (case k4 => k_asm); (case k5 => k_asm); (case k6 => k_is); (case k7 => k_is); (case k8 => ktr_room); (case k9 => first | exact BindsTo.of_eq rfl | exact binds_K (by k_in) rfl (by k_is) rfl rfl rfl); (case kB => exact locs rfl); (case cK => first | assumption | exact rfl); (case c2 => exact rfl); (case c3 => exact rfl); (case c4 => exact rfl); (case c5 => decide); k_whole; intro g' L' h' FG' F' N' B' X' T' D'; (try dsimp only); (try k_lift B'); (try k_fold))))
local macro_rules | `(tactic| walk_at "call builtin:list.insert") => `(tactic| (k_here; (with_reducible show wpAny _ _ (call (Value.builtin _) [Value.ref _, Value.int _ _, _]) _ _ _); k_dflt (refine' l_insert ?F ?N ?hi ?U ?hz ?h0 ?hn ?_; (case F => k_asm); (case N => k_asm); (case U => (intro k'; k_upd)); (case hi => (first | exact is_news (by k_asm) (by k_asm) (by k_asm) (by k_mem) (mroC _) | exact is_list (by k_asm) (by k_mem))); (case hz => omega); (case h0 => omega); (case hn => omega); k_whole); intro k' h' F' N'; (try dsimp only at N'); (try k_sweep)))
local macro_rules | `(tactic| walk_at "call builtin:list.extend") => `(tactic| (k_here; (with_reducible show wpAny _ _ (call (Value.builtin _) [Value.ref _, Value.ref _]) _ _ _); k_dflt (refine' l_extend ?F ?N ?hi ?hb ?U ?hz ?_; (case F => k_asm); (case N => k_asm); (case hb => k_mem); (case U => (intro k'; k_upd)); (case hi => (first | exact is_news (by k_asm) (by k_asm) (by k_asm) (by k_mem) (mroC _) | exact is_list (by k_asm) (by k_mem))); (case hz => (first | omega | (simp only [List.size_toArray, List.length_cons, List.length_nil]; omega))); k_whole); intro k' h' F' N'; (try dsimp only at N'); (try k_sweep)))
local macro_rules | `(tactic| walk_at "call builtin:list.reverse") => `(tactic| (k_here; (with_reducible show wpAny _ _ (call (Value.builtin _) [Value.ref _]) _ _ _); k_dflt (refine' l_reverse ?F ?N ?hi ?U ?hz ?_; (case F => k_asm); (case N => k_asm); (case U => (intro k'; k_upd)); (case hi => (first | exact is_news (by k_asm) (by k_asm) (by k_asm) (by k_mem) (mroC _) | exact is_list (by k_asm) (by k_mem))); (case hz => omega); k_whole); intro k' h' F' N'; (try dsimp only at N'); (try k_sweep)))
local macro_rules | `(tactic| walk_at "call builtin:list.sort") => `(tactic| (k_here; (with_reducible show wpAny _ _ (call (Value.builtin _) [Value.ref _]) _ _ _); k_dflt (refine' l_sort ?F ?N ?hi ?U ?hI ?h64 ?_; (case F => k_asm); (case N => k_asm); (case U => k_updF); (case hi => (first | exact is_news (by k_asm) (by k_asm) (by k_asm) (by k_mem) (mroC _) | exact is_list (by k_asm) (by k_mem))); (case hI => assumption); (case h64 => omega); k_whole); intro out ns' k' h' iI iP iS F' N'; (try dsimp only at N'); (try k_sweep)))
local macro_rules | `(tactic| walk_at "call builtin:list.pop") => `(tactic| (k_here; (with_reducible show wpAny _ _ (call (Value.builtin _) [Value.ref _, Value.int _ _]) _ _ _); k_dflt (refine' l_pop ?F ?N ?hi ?U ?hz ?h0 ?hv ?_; (case F => k_asm); (case N => k_asm); (case U => (intro k'; k_upd)); (case hi => (first | exact is_news (by k_asm) (by k_asm) (by k_asm) (by k_mem) (mroC _) | exact is_list (by k_asm) (by k_mem))); (case hz => omega); (case h0 => omega); (case hv => assumption); k_whole); intro k' h' F' N'; (try dsimp only at N'); (try k_sweep)))
local macro_rules | `(tactic| walk_at "call builtin:list.remove") => `(tactic| (k_here; (with_reducible show wpAny _ _ (call (Value.builtin _) [Value.ref _, Value.int _ _]) _ _ _); k_dflt (refine' l_remove ?F ?N ?hi ?U ?hz ?hI ?hj ?hno ?_; (case F => k_asm); (case N => k_asm); (case U => (intro k'; k_upd)); (case hI => assumption); (case hj => assumption); (case hno => assumption); (case hi => (first | exact is_news (by k_asm) (by k_asm) (by k_asm) (by k_mem) (mroC _) | exact is_list (by k_asm) (by k_mem))); (case hz => omega); k_whole); intro k' h' F' N'; (try dsimp only at N'); (try k_sweep)))
local macro_rules | `(tactic| walk_at "delItem ref int") => `(tactic| (k_here; k_dflt (refine' ll_del ?Y ?F ?N ?U ?hz ?h0 ?hn ?_; (case F => k_asm); (case N => k_asm); (case U => (intro k'; k_upd)); (case Y => (first | exact ll_own (by k_asm) (by k_asm) (by k_asm) (by k_mem) (mroC _) (by k_is) (by k_is) (by k_is) (by k_is) | exact ll_list (by k_asm) (by k_mem))); (case hz => omega); (case h0 => omega); (case hn => omega); k_whole); intro k' h' F' N'; (try dsimp only at N'); (try k_sweep)))
local macro_rules | `(tactic| walk_at "setItem ref ref") => `(tactic| (k_here; k_dflt (refine' set_slice_p ?F ?N ?he ?hs ?hq ?hb ?hab ?Y ?U ?hz ?h0 ?hn ?_; (case F => k_asm); (case N => k_asm); (case he => exact rfl); (case hs => exact rfl); (case hq => exact rfl); (case hb => k_mem); (case hab => k_ne); (case Y => (intro s' F' N'; (first | exact ll_own (by k_asm) (by k_asm) (by k_asm) (by k_mem) (mroC _) (by k_is) (by k_is) (by k_is) (by k_is) | exact ll_list (by k_asm) (by k_mem)))); (case U => (intro k'; k_upd)); (case hz => (first | omega | (simp only [List.size_toArray, List.length_cons, List.length_nil]; omega))); (case h0 => omega); (case hn => omega); k_whole); intro k' h' F' N'; (try dsimp only at N'); (try k_sweep)))
local macro_rules | `(tactic| walk_at "pad 0") => `(tactic| skip)
local macro_rules | `(tactic| walk_at "pad 1") => `(tactic| skip)
local macro_rules | `(tactic| walk_at "pad 2") => `(tactic| skip)
local macro_rules | `(tactic| walk_at "pad 3") => `(tactic| skip)
local macro_rules | `(tactic| walk_at "pad 4") => `(tactic| skip)
local macro_rules | `(tactic| walk_at "pad 5") => `(tactic| skip)
local macro_rules | `(tactic| walk_at "pad 6") => `(tactic| skip)
local macro_rules | `(tactic| walk_at "pad 7") => `(tactic| skip)
local macro_rules | `(tactic| walk_at "pad 8") => `(tactic| skip)
local macro_rules | `(tactic| walk_at "pad 9") => `(tactic| skip)
local macro_rules | `(tactic| walk_at "pad 10") => `(tactic| skip)
local macro_rules | `(tactic| walk_at "pad 11") => `(tactic| skip)
local macro_rules | `(tactic| walk_at "pad 12") => `(tactic| skip)
local macro_rules | `(tactic| walk_at "pad 13") => `(tactic| skip)
local macro_rules | `(tactic| walk_at "pad 14") => `(tactic| skip)
local macro_rules | `(tactic| walk_at "pad 15") => `(tactic| skip)
local macro_rules | `(tactic| walk_at "pad 16") => `(tactic| skip)
local macro_rules | `(tactic| walk_at "pad 17") => `(tactic| skip)
local macro_rules | `(tactic| walk_at "pad 18") => `(tactic| skip)
local macro_rules | `(tactic| walk_at "pad 19") => `(tactic| skip)
local macro_rules | `(tactic| walk_at "pad 20") => `(tactic| skip)
local macro_rules | `(tactic| walk_at "pad 21") => `(tactic| skip)
local macro_rules | `(tactic| walk_at "pad 22") => `(tactic| skip)
local macro_rules | `(tactic| walk_at "pad 23") => `(tactic| skip)
local macro_rules | `(tactic| walk_at "pad 24") => `(tactic| skip)
local macro_rules | `(tactic| walk_at "pad 25") => `(tactic| skip)
local macro_rules | `(tactic| walk_at "pad 26") => `(tactic| skip)
local macro_rules | `(tactic| walk_at "pad 27") => `(tactic| skip)
local macro_rules | `(tactic| walk_at "pad 28") => `(tactic| skip)
local macro_rules | `(tactic| walk_at "pad 29") => `(tactic| skip)
local macro_rules | `(tactic| walk_at "pad 30") => `(tactic| skip)
local macro_rules | `(tactic| walk_at "pad 31") => `(tactic| skip)
local macro_rules | `(tactic| walk_at "pad 32") => `(tactic| skip)
local macro_rules | `(tactic| walk_at "pad 33") => `(tactic| skip)
local macro_rules | `(tactic| walk_at "pad 34") => `(tactic| skip)
local macro_rules | `(tactic| walk_at "pad 35") => `(tactic| skip)
local macro_rules | `(tactic| walk_at "pad 36") => `(tactic| skip)
local macro_rules | `(tactic| walk_at "pad 37") => `(tactic| skip)
local macro_rules | `(tactic| walk_at "pad 38") => `(tactic| skip)
local macro_rules | `(tactic| walk_at "pad 39") => `(tactic| skip)
local macro_rules | `(tactic| walk_at "pad 40") => `(tactic| skip)
local macro_rules | `(tactic| walk_at "pad 41") => `(tactic| skip)
local macro_rules | `(tactic| walk_at "pad 42") => `(tactic| skip)
section
variable {w : World} {p : Program} {loose : List Str} {mean : ExcName → Option Value} {mg mb : Str → Option Value}
  {dp un : Nat} {gd : Option (List Code)} {cn : Str} {fa : Addr} {ccd : Value} {outer : List Env} {A₀ : Around} {base h₀ : Heap} {L : Addr} {m : Str → Option Value} {s : Shared} {Q : Flow → Shared → Prop} {E : Value → Shared → Prop}

theorem tail_law {hc : Addr} {rest : List (Addr × Obj)}
    (XB : (hd.heap_39 w.params).In base) (TB : Top p loose mean mg mb base) (B : Below A₀ base [] h₀) (F : Fr h₀ L s.heap m) (X : (hd.heap_39 w.params).In h₀) (T : Top p loose mean mg mb h₀) (hdp : dp + 20 < recursionLimit) (hun : un + 200 < cLine)
    (N : News h₀ L s.heap rest)
    (ret : ∀ m' h' tk', Fr h₀ L h' m' → Q (.ret (.bool true)) { s with heap := h', toks := tk' }) :
    wpAny (model PySem.Challenge.rw_aq6060_01.row.prog w) (ktrTop dp un gd cn (scopeOf (hd.heap_39 w.params) 98) L fa ccd [(Str.ofString "head", hc)] [])
      (execs ((bodyOf (hd.heap_39 w.params) 98).drop 10) (envX cn (scopeOf (hd.heap_39 w.params) 98) L fa ccd [(Str.ofString "head", hc)])) Q E s := by
  refine' rest_of (A := fun sc => ktrTop dp un gd cn sc L fa ccd [(Str.ofString "head", hc)] []) (en := fun sc => envX cn sc L fa ccd [(Str.ofString "head", hc)]) ?ho ?h
  case ho => k_is
  case h =>
    dsimp only [List.drop]
    (repeat' ((fail_if_success (with_reducible show Stop _)); first | (k_unfold; (try dsimp only)) | (k_end; wrow_close) | walk1 | (dsimp only; walk1) | (leave1; try dsimp only) | fail "no step"))
    (refine ⟨?_⟩; k_dflt (refine' (mk_list (ns := [5])) ?cB_22 ?cF_22 ?cX_22 ?cT_22 ?chk_22 ?chdp_22 ?chun_22 ?cN_22 (ia_one _ _) (Nat.le_of_ble_eq_true rfl) ?_; (case cB_22 => k_asm); (case cF_22 => k_asm); (case cX_22 => k_asm); (case cT_22 => k_asm); (case cN_22 => k_asm); (case chk_22 => exact rfl); (case chdp_22 => show (dp + 6) < recursionLimit; omega); (case chun_22 => show (un + 130) < cLine; omega)))
    intro x5 dx5 D5 vs5 n5 t51 t52 h5 tk5 F5 N5 I5 lt5 e5
    (repeat' ((fail_if_success (with_reducible show Stop _)); first | (k_unfold; (try dsimp only)) | (k_end; wrow_close) | walk1 | (dsimp only; walk1) | (leave1; try dsimp only) | fail "no step"))
    (refine ⟨?_⟩; k_dflt (refine' (mk_list (ns := [6])) ?cB_23 ?cF_23 ?cX_23 ?cT_23 ?chk_23 ?chdp_23 ?chun_23 ?cN_23 (ia_one _ _) (Nat.le_of_ble_eq_true rfl) ?_; (case cB_23 => k_asm); (case cF_23 => k_asm); (case cX_23 => k_asm); (case cT_23 => k_asm); (case cN_23 => k_asm); (case chk_23 => exact rfl); (case chdp_23 => show (dp + 6) < recursionLimit; omega); (case chun_23 => show (un + 130) < cLine; omega)))
    intro x6 dx6 D6 vs6 n6 t61 t62 h6 tk6 F6 N6 I6 lt6 e6
    have b5 : ∀ p ∈ rest, @LT.lt Nat _ p.1 dx5 := fun p hp => lt5 p (.tail _ hp)
    have c5 : @LT.lt Nat _ dx5 dx6 := lt6 (dx5, _) (.tail _ (.tail _ (.head _)))
    have c6 : @LT.lt Nat _ x5 dx6 := lt6 (x5, _) (.tail _ (.head _))
    replace e5 : @Eq Nat x5 (dx5 + 1) := e5
    replace e6 : @Eq Nat x6 (dx6 + 1) := e6
    have r1 : AllNe dx5 rest := allNe_of fun p hp => Nat.ne_of_lt (b5 p hp)
    have r2 : AllNe x5 rest := allNe_of fun p hp => Nat.ne_of_lt (by have := b5 p hp; omega)
    have r3 : AllNe dx6 rest := allNe_of fun p hp => Nat.ne_of_lt (by have := b5 p hp; omega)
    have r4 : AllNe x6 rest := allNe_of fun p hp => Nat.ne_of_lt (by have := b5 p hp; omega)
    have z5 := ia_size I5
    have z6 := ia_size I6
    have q1 : @Ne Nat x5 dx5 := by omega
    have q2 : @Ne Nat x6 dx6 := by omega
    have q3 : @Ne Nat x6 dx5 := by omega
    have q4 : @Ne Nat x6 x5 := by omega
    have q5 : @Ne Nat dx6 dx5 := by omega
    have q6 : @Ne Nat dx6 x5 := by omega
    (repeat' ((fail_if_success (with_reducible show Stop _)); first | (k_unfold; (try dsimp only)) | (k_end; wrow_close) | walk1 | (dsimp only; walk1) | (leave1; try dsimp only) | fail "no step"))
    rename News _ _ _ _ => kN
    have N7 := news_sub kN ((x5, subObj 68 dx5 vs5 n5) :: (dx5, attrD w.params t51 t52 false D5 2) :: (x6, subObj 68 dx6 vs6 n6) :: (dx6, attrD w.params t61 t62 false D6 2) :: rest) (by (intro p hp; simp only [List.mem_cons] at hp ⊢; grind))
    clear kN
    (refine ⟨?_⟩; k_dflt (refine' (contains_dirty (rest := (x6, subObj 68 dx6 vs6 n6) :: (dx6, attrD w.params t61 t62 false D6 2) :: rest) (D := D5) (k := 2) (vs := vs5) (n := n5) (ns := [5])) ?cB_24 ?cF_24 ?cX_24 ?cT_24 ?chk_24 ?chdp_24 ?chun_24 ?cN_24 q1 (allNe_all ⟨q3, q5, r1⟩) I5 (by rw [z5]; decide) (by decide) ?_; (case cB_24 => k_asm); (case cF_24 => k_asm); (case cX_24 => k_asm); (case cT_24 => k_asm); (case cN_24 => k_asm); (case chk_24 => exact rfl); (case chdp_24 => show (dp + 4) < recursionLimit; omega); (case chun_24 => show (un + 110) < cLine; omega)))
    intro D7 o7 f7 h7 tk7 F7 N7 M7 J7 lo7 lD7
    obtain ⟨g1, g2, g3⟩ := lD7
    have k1 : f7 6 = none := J7.2 6 (by decide)
    rw [k1]
    refine ⟨false, rfl, ?_⟩
    (repeat' ((fail_if_success (with_reducible show Stop _)); first | (k_unfold; (try dsimp only)) | (k_end; wrow_close) | walk1 | (dsimp only; walk1) | (leave1; try dsimp only) | fail "no step"))
    rename News _ _ _ _ => kN
    have N8 := news_sub kN ((x6, subObj 68 dx6 vs6 n6) :: (dx6, attrD w.params t61 t62 false D6 2) :: (D7, o7) :: (x5, subObj 68 dx5 vs5 n5) :: (dx5, attrD w.params t51 t52 true D7 2) :: rest) (by (intro p hp; simp only [List.mem_cons] at hp ⊢; grind))
    clear kN
    (refine ⟨?_⟩; k_dflt (refine' (contains_dirty (rest := (D7, o7) :: (x5, subObj 68 dx5 vs5 n5) :: (dx5, attrD w.params t51 t52 true D7 2) :: rest) (D := D6) (k := 2) (vs := vs6) (n := n6) (ns := [6])) ?cB_25 ?cF_25 ?cX_25 ?cT_25 ?chk_25 ?chdp_25 ?chun_25 ?cN_25 q2 (allNe_all ⟨Nat.ne_of_gt g3.2.1, Ne.symm q6, Ne.symm q5, r3⟩) I6 (by rw [z6]; decide) (by decide) ?_; (case cB_25 => k_asm); (case cF_25 => k_asm); (case cX_25 => k_asm); (case cT_25 => k_asm); (case cN_25 => k_asm); (case chk_25 => exact rfl); (case chdp_25 => show (dp + 4) < recursionLimit; omega); (case chun_25 => show (un + 110) < cLine; omega)))
    intro D8 o8 f8 h8 tk8 F8 N8 M8 J8 lo8 lD8
    obtain ⟨g4, g5, g6⟩ := lD8
    have g7 : @LT.lt Nat _ D7 D8 := g6.1
    have k2 : f8 5 = none := J8.2 5 (by decide)
    rw [k2]
    refine ⟨false, rfl, ?_⟩
    (repeat' ((fail_if_success (with_reducible show Stop _)); first | (k_unfold; (try dsimp only)) | (k_end; wrow_close) | walk1 | (dsimp only; walk1) | (leave1; try dsimp only) | fail "no step"))
    rename News _ _ _ _ => kN
    have N9 := news_sub kN ((D7, o7) :: (x5, subObj 68 dx5 vs5 n5) :: (dx5, attrD w.params t51 t52 true D7 2) :: (D8, o8) :: (x6, subObj 68 dx6 vs6 n6) :: (dx6, attrD w.params t61 t62 true D8 2) :: rest) (by (intro p hp; simp only [List.mem_cons] at hp ⊢; grind))
    clear kN
    have y1 : @Ne Nat D7 x5 := Nat.ne_of_gt g1
    have y2 : @Ne Nat D7 dx5 := Nat.ne_of_gt g2
    have y3 : @Ne Nat x6 D7 := Nat.ne_of_lt g3.1
    have y4 : @Ne Nat dx6 D7 := Nat.ne_of_lt g3.2.1
    have y5 : AllNe D7 rest := allNe_of (allLt_ne g3.2.2)
    have y6 : @Ne Nat D8 D7 := Nat.ne_of_gt g7
    have y7 : @Ne Nat D8 x5 := Nat.ne_of_gt g6.2.1
    have y8 : @Ne Nat D8 dx5 := Nat.ne_of_gt g6.2.2.1
    have y9 : @Ne Nat D8 x6 := Nat.ne_of_gt g4
    have y10 : @Ne Nat D8 dx6 := Nat.ne_of_gt g5
    have y11 : AllNe D8 rest := allNe_of (allLt_ne g6.2.2.2)
    (refine ⟨?_⟩; k_dflt (refine' (add_new (rest := (D8, o8) :: (x6, subObj 68 dx6 vs6 n6) :: (dx6, attrD w.params t61 t62 true D8 2) :: rest) (D := D7) (k := 2) (vs := vs5) (n := n5)) ?cB_26 ?cF_26 ?cX_26 ?cT_26 ?chk_26 ?chdp_26 ?chun_26 ?cN_26 M7 lo7 (by decide) (by rw [z5]; decide) y1 y2 q1 ⟨y6, Ne.symm (Ne.symm y3), y4, y5⟩ ⟨y7, q4, q6, r2⟩ k1 ?_; (case cB_26 => k_asm); (case cF_26 => k_asm); (case cX_26 => k_asm); (case cT_26 => k_asm); (case cN_26 => k_asm); (case chk_26 => exact rfl); (case chdp_26 => show (dp + 6) < recursionLimit; omega); (case chun_26 => show (un + 120) < cLine; omega)))
    intro o9 t9 n9 h9 tk9 F9 N9 M9
    have z5' : vs5.size = 1 := z5
    have z6' : vs6.size = 1 := z6
    (repeat' ((fail_if_success (with_reducible show Stop _)); first | (k_unfold; (try dsimp only)) | (k_end; wrow_close) | walk1 | (dsimp only; walk1) | (leave1; try dsimp only) | fail "no step"))
    · exfalso; omega
    obtain ⟨t0, k3⟩ := J8.1 0 6 rfl
    rename News _ _ _ _ => kN
    have N10 := news_sub kN ((D8, o8) :: (x6, subObj 68 dx6 vs6 n6) :: (dx6, attrD w.params t61 t62 true D8 2) :: rest) (by (intro p hp; simp only [List.mem_cons] at hp ⊢; grind))
    clear kN
    (refine ⟨?_⟩; k_dflt (refine' (contains_spec (rest := rest) (D := D8) (k := 2) (vs := vs6) (n := n6)) ?cB_27 ?cF_27 ?cX_27 ?cT_27 ?chk_27 ?chdp_27 ?chun_27 ?cN_27 M8 lo8 ?_; (case cB_27 => k_asm); (case cF_27 => k_asm); (case cX_27 => k_asm); (case cT_27 => k_asm); (case cN_27 => k_asm); (case chk_27 => exact rfl); (case chdp_27 => show (dp + 4) < recursionLimit; omega); (case chun_27 => show (un + 110) < cLine; omega)))
    intro h10 tk10 F10 N11
    rw [k3]
    refine ⟨true, rfl, ?_⟩
    (repeat' ((fail_if_success (with_reducible show Stop _)); first | (k_unfold; (try dsimp only)) | (k_end; wrow_close) | walk1 | (dsimp only; walk1) | (leave1; try dsimp only) | fail "no step"))
    (refine ⟨?_⟩; k_dflt (refine' (add_new (rest := rest) (D := D8) (k := 2) (vs := vs6) (n := n6)) ?cB_28 ?cF_28 ?cX_28 ?cT_28 ?chk_28 ?chdp_28 ?chun_28 ?cN_28 M8 lo8 (by decide) (by rw [z6]; decide) y9 y10 q2 y11 r4 k2 ?_; (case cB_28 => k_asm); (case cF_28 => k_asm); (case cX_28 => k_asm); (case cT_28 => k_asm); (case cN_28 => k_asm); (case chk_28 => exact rfl); (case chdp_28 => show (dp + 6) < recursionLimit; omega); (case chun_28 => show (un + 120) < cLine; omega)))
    intro o11 t11 n11 h11 tk11 F11 N12 M11
    (repeat' ((fail_if_success (with_reducible show Stop _)); first | (k_unfold; (try dsimp only)) | (k_end; wrow_close) | walk1 | (dsimp only; walk1) | (leave1; try dsimp only) | fail "no step"))
    · exfalso; omega
    (refine ⟨?_⟩; k_dflt (refine' (keys_spec) ?cB_29 ?cF_29 ?cX_29 ?cT_29 ?chk_29 ?chdp_29 ?chun_29 ?cN_29 XB TB ?_; (case cB_29 => k_asm); (case cF_29 => k_asm); (case cX_29 => k_asm); (case cT_29 => k_asm); (case cN_29 => k_asm); (case chk_29 => exact rfl); (case chdp_29 => show (dp + 12) < recursionLimit; omega); (case chun_29 => show (un + 170) < cLine; omega)))
    intro h12 tk12 F12 N13
    (repeat' ((fail_if_success (with_reducible show Stop _)); first | (k_unfold; (try dsimp only)) | (k_end; wrow_close) | walk1 | (dsimp only; walk1) | (leave1; try dsimp only) | fail "no step"))
    exact ret _ _ _ F12
end
end Mine
end PK1

section PM2
namespace Mine
theorem top_off_M2 : True := by
  w_top off
  trivial
end Mine
set_option maxRecDepth 100000
set_option maxHeartbeats 8000000
namespace Mine
theorem in_four {m : Str → Option Value} {x : Str} {v : Option Value} {k1 k2 k3 k4 : Str} {v1 v2 v3 v4 : Option Value} (h1 : m k1 = v1) (h2 : m k2 = v2) (h3 : m k3 = v3) (h4 : m k4 = v4) : (fun y => if y = x then v else m y) = fun y => if y = x then v else if y = k1 then v1 else if y = k2 then v2 else if y = k3 then v3 else if y = k4 then v4 else m y := by
  funext y
  by_cases e : y = x
  · simp only [e, if_true]
  · simp only [e, if_false]
    by_cases e1 : y = k1
    · simp only [e1, if_true]; exact h1
    · simp only [e1, if_false]; exact congrFun (map_three h2 h3 h4) y
theorem map_four {m : Str → Option Value} {k1 k2 k3 k4 : Str} {v1 v2 v3 v4 : Option Value} (h1 : m k1 = v1) (h2 : m k2 = v2) (h3 : m k3 = v3) (h4 : m k4 = v4) : m = fun y => if y = k1 then v1 else if y = k2 then v2 else if y = k3 then v3 else if y = k4 then v4 else m y := by
  funext y
  by_cases e : y = k1
  · simp only [e, if_true]; exact h1
  · simp only [e, if_false]; exact congrFun (map_three h2 h3 h4) y
local macro_rules | `(tactic| k_inst) => `(tactic| (refine' inst_of_news ?N ?h1 ?h2; (case N => k_asm); (case h1 => k_mem); (case h2 => k_mem)))
local macro_rules | `(tactic| k_all) => `(tactic| first | assumption | exact allNe_all (by assumption) | exact allLt_ne (by assumption) | exact allLt_ne (And.right (by assumption)) | exact allLt_ne (And.right (And.right (by assumption))) | exact allLt_ne (And.right (And.right (And.right (by assumption)))) | exact allLt_ne (And.right (And.right (And.right (And.right (by assumption))))))
local macro_rules | `(tactic| walk_at "setAttr ref") => `(tactic| (k_here; k_dflt (refine' setL_dict ?k1 ?k2 ?k3 ?k4 ?k5 ?k6 ?k7 ?k8 ?k9 ?k10 ?k11 ?k12 ?k13 ?_; (case k1 => k_asm); (case k2 => k_asm); (case k3 => k_asm); (case k4 => k_inst); (case k5 => exact rfl); (case k6 => k_is); (case k7 => exact mroC _); (case k8 => k_is); (case k9 => k_is); (case k10 => k_get); (case k11 => k_put); (case k12 => k_upd); (case k13 => exact Nat.le_of_ble_eq_true rfl); k_whole; intro h' F' N'; (try k_sweep))))
local macro_rules | `(tactic| walk_at "setAttr ref") => `(tactic| (k_here; (first | ((with_reducible show wpAny _ _ (setAttr (Value.ref _) (Str.ofString "_dict") _) _ _ _); k_dflt (refine' set_d ?k1 ?k2 ?k3 ?k4 ?k5 ?k6 ?k7 ?k8 ?k9 ?_)) | ((with_reducible show wpAny _ _ (setAttr (Value.ref _) (Str.ofString "clean") _) _ _ _); k_dflt (refine' set_c ?k1 ?k2 ?k3 ?k4 ?k5 ?k6 ?k7 ?k8 ?k9 ?_))); (case k1 => k_asm); (case k2 => k_asm); (case k3 => k_asm); (case k4 => k_mem); (case k5 => k_dflt k_is); (case k6 => exact mroC _); (case k7 => k_dflt k_is); (case k8 => k_dflt k_is); (case k9 => k_dflt k_upd); k_whole; intro h' F' N'; (try k_sweep)))
local macro_rules | `(tactic| walk_at "eval Dict nil nil") => `(tactic| (k_here; k_dflt (refine' new_dictK ?k1 ?k2 (TopRead.nolimit (by k_asm)) ?_; (case k1 => k_asm); (case k2 => k_asm); k_whole); intro d' h' F' N' l1 lo'; (try k_lt l1); (try k_sweep)))
local macro_rules | `(tactic| walk_at "exec For Name Name cons nil") => `(tactic| (refine Stop.out ?_))
local macro_rules | `(tactic| walk_at "exec For Name Call cons nil") => `(tactic| (refine Stop.out ?_))
local macro_rules | `(tactic| walk_at "exec For Tuple Call cons nil") => `(tactic| (refine Stop.out ?_))
local macro_rules | `(tactic| walk_at "pyIter ref") => `(tactic| ((with_reducible show wpAny _ _ (pyIter (Value.ref _)) (fun it s₂ => LoopAtV _ _ _ _ _ _ _ _ _ it s₂) _ _); refine Stop.out ?_))
local macro_rules | `(tactic| walk_at "compareOp NotIn int ref") => `(tactic| (k_here; k_dflt ((first | refine' dm_notin_t ?k1 ?k2 ?k3 ?k4 ?k5 ?_; (case k1 => k_asm); (case k2 => k_mem); (case k3 => assumption); (case k4 => assumption); (case k5 => assumption) | refine' dm_notin_f ?k1 ?k2 ?k3 ?k4 ?k5 ?_; (case k1 => k_asm); (case k2 => k_mem); (case k3 => assumption); (case k4 => assumption); (case k5 => assumption)))))
local macro_rules | `(tactic| walk_at "compareOp In int ref") => `(tactic| (k_here; k_dflt ((first | refine' dm_in_t ?k1 ?k2 ?k3 ?k4 ?k5 ?_; (case k1 => k_asm); (case k2 => k_mem); (case k3 => assumption); (case k4 => assumption); (case k5 => assumption) | refine' dm_in_f ?k1 ?k2 ?k3 ?k4 ?k5 ?_; (case k1 => k_asm); (case k2 => k_mem); (case k3 => assumption); (case k4 => assumption); (case k5 => assumption)))))
local macro_rules | `(tactic| walk_at "setItem ref int") => `(tactic| (k_here; k_dflt (refine' dm_set ?k1 ?k2 ?k3 ?k4 ?k5 ?_; (case k1 => k_asm); (case k2 => k_asm); (case k3 => k_updF); (case k4 => assumption); (case k5 => omega); k_whole); intro o' h' F' N' x'; (try dsimp only at N'); (try k_sweep)))
local macro_rules | `(tactic| walk_at "getAttr ref") => `(tactic| (k_here; (first | ((with_reducible show wpAny _ _ (getAttr (Value.ref _) (Str.ofString "_dict") _) _ _ _); k_dflt (refine' getA_d ?k1 ?k2 ?k3 ?k4 ?k5 ?k6 ?k7 ?k8 ?k9 ?k10 ?k11 ?_)) | ((with_reducible show wpAny _ _ (getAttr (Value.ref _) (Str.ofString "clean") _) _ _ _); k_dflt (refine' getA_c ?k1 ?k2 ?k3 ?k4 ?k5 ?k6 ?k7 ?k8 ?k9 ?k10 ?k11 ?_))); (case k1 => k_asm); (case k2 => k_asm); (case k3 => k_asm); (case k4 => k_mem); (case k5 => k_mem); (case k6 => exact mroC _); (case k7 => k_dflt k_is); (case k8 => k_dflt k_is); (case k9 => k_dflt k_is); (case k10 => k_dflt k_is); (case k11 => k_dflt k_is); k_whole))
local macro_rules | `(tactic| walk_at "getMethod ref") => `(tactic| (k_here; k_dflt (refine' methA ?k1 ?k2 ?k3 ?k4 ?k5 ?k6 ?k7 ?k8 ?k9 ?k10 ?k11 ?_; (case k1 => k_asm); (case k2 => k_asm); (case k3 => k_asm); (case k4 => k_mem); (case k5 => k_mem); (case k6 => k_is); (case k7 => k_is); (case k8 => k_is); (case k9 => k_is); (case k10 => decide); (case k11 => k_get); k_whole)))
local macro_rules | `(tactic| walk_at "compareOp In int ref") => `(tactic| (k_here; k_dflt (refine' in_own ?k1 ?k2 ?k3 ?k4 ?k5 ?k6 ?_; (case k1 => k_asm); (case k2 => k_asm); (case k3 => k_asm); (case k4 => k_mem); (case k5 => k_is); (case k6 => k_is); k_whole)))
local macro_rules | `(tactic| walk_at "compareOp NotIn int ref") => `(tactic| (k_here; k_dflt (refine' notin_own ?k1 ?k2 ?k3 ?k4 ?k5 ?k6 ?_; (case k1 => k_asm); (case k2 => k_asm); (case k3 => k_asm); (case k4 => k_mem); (case k5 => k_is); (case k6 => k_is); k_whole)))
local macro_rules | `(tactic| walk_at "compareOp In int ref") => `(tactic| (k_here; k_dflt (refine' dm_in ?k1 ?k2 ?k3 ?k4 ?_; (case k1 => k_asm); (case k2 => k_mem); (case k3 => assumption); (case k4 => assumption))))
local macro_rules | `(tactic| walk_at "compareOp In int ref") => `(tactic| (k_here; k_dflt (first | refine' dm_in_t ?k1 ?k2 ?k3 ?k4 ?k5 ?_; (case k1 => k_asm); (case k2 => k_mem); (case k3 => assumption); (case k4 => assumption); (case k5 => assumption) | refine' dm_in_f ?k1 ?k2 ?k3 ?k4 ?k5 ?_; (case k1 => k_asm); (case k2 => k_mem); (case k3 => assumption); (case k4 => assumption); (case k5 => assumption))))
local macro_rules | `(tactic| walk_at "compareOp NotIn int ref") => `(tactic| (k_here; k_dflt (first | refine' dm_notin_t ?k1 ?k2 ?k3 ?k4 ?k5 ?_; (case k1 => k_asm); (case k2 => k_mem); (case k3 => assumption); (case k4 => assumption); (case k5 => assumption) | refine' dm_notin_f ?k1 ?k2 ?k3 ?k4 ?k5 ?_; (case k1 => k_asm); (case k2 => k_mem); (case k3 => assumption); (case k4 => assumption); (case k5 => assumption))))
local macro_rules | `(tactic| walk_at "subscriptTail") => `(tactic| (k_here; (with_reducible show wpAny _ _ (subscriptTail _ _ (Value.ref _) (Value.int _ _)) _ _ _); k_dflt (refine' dm_tail ?k1 ?k2 ?k3 ?k4 ?_; (case k1 => k_asm); (case k2 => k_mem); (case k3 => assumption); (case k4 => assumption))))
local macro_rules | `(tactic| walk_at "call ref") => `(tactic| ((first | (with_reducible show wpAny _ _ (call (Value.ref 37) _) _ _ _) | (with_reducible show wpAny _ _ (call (Value.ref 44) _) _ _ _) | (with_reducible show wpAny _ _ (call (Value.ref 51) _) _ _ _) | (with_reducible show wpAny _ _ (call (Value.ref 58) _) _ _ _) | (with_reducible show wpAny _ _ (call (Value.ref 65) _) _ _ _) | (with_reducible show wpAny _ _ (call (Value.ref 68) _) _ _ _) | (with_reducible show wpAny _ _ (call (Value.ref 79) _) _ _ _) | (with_reducible show wpAny _ _ (call (Value.ref 86) _) _ _ _) | (with_reducible show wpAny _ _ (call (Value.ref 93) _) _ _ _)); refine Stop.out ?_))
local macro_rules | `(tactic| walk_at "call builtin:len") => `(tactic| (k_here; (with_reducible show wpAny _ _ (call (Value.builtin "len") [Value.ref _]) _ _ _); k_dflt (refine' ll_len ?Y ?N ?hx ?hz ?_; (case N => k_asm); (case hx => k_mem); (case Y => (first | exact ll_own (by k_asm) (by k_asm) (by k_asm) (by k_mem) (mroC _) (by k_is) (by k_is) (by k_is) (by k_is) | exact ll_list (by k_asm) (by k_mem))); (case hz => first | omega | (simp only [Array.size_push]; omega)))))
local macro_rules | `(tactic| walk_at "call builtin:list.append") => `(tactic| (k_here; (with_reducible show wpAny _ _ (call (Value.builtin _) [Value.ref _, _]) _ _ _); k_dflt (refine' l_append ?F ?N ?hi ?U ?hz ?_; (case F => k_asm); (case N => k_asm); (case U => (intro k'; k_upd)); (case hi => first | exact is_news (by k_asm) (by k_asm) (by k_asm) (by k_mem) (mroC _) | exact is_list (by k_asm) (by k_mem)); (case hz => first | omega | (simp only [Array.size_push]; omega)); k_whole); intro k' h' F' N'; (try dsimp only at N'); (try k_sweep)))
local macro_rules | `(tactic| walk_at "getMethod type:list") => `(tactic| (k_here; refine' method_type ?F ?X ?m (by decide +kernel) ?e ?h ?_; (case F => k_asm); (case X => k_asm); (case m => exact meta_of_list); (case e => k_dflt k_is); (case h => k_handed)))
local macro_rules | `(tactic| walk_at "call type:enumerate") => `(tactic| (refine Stop.out ?_))
local macro_rules | `(tactic| ktr_enter) => `(tactic| (refine' code_def ?k1 ?k2 ?k3 ?k4 ?k5 ?kA ?kF ?kK ?k6 ?k7 ?k8 ?k9 ?kB ?_ ?c2 ?c3 ?c4 ?c5; (case kA => exact rfl); (case kF => exact rfl); (case kK => first | assumption | exact rfl); (case k1 => k_asm); (case k2 => k_asm); (case k3 => k_asm); (case k4 => k_asm); (case k5 => k_asm); (case k6 => k_is); (case k7 => k_is); (case k8 => ktr_room); (case k9 => first | exact BindsTo.of_eq rfl | exact binds_K (by k_in) rfl (by k_is) rfl rfl rfl); (case c5 => decide); (case kB => exact locs rfl); (case c2 => exact rfl); (case c3 => exact rfl); (case c4 => exact rfl); k_whole; intro g' L' h' FG' F' N' B' X' T'; (try dsimp only); (try k_fold)))
local macro_rules | `(tactic| walk_at "call type:list") => `(tactic| (k_here; (with_reducible show wpAny _ _ (call (Value.type "list") [Value.ref _]) _ _ _); k_dflt (refine' l_copy ?hh ?F ?X ?N ?hx ?hz (mroC _) ?h0 ?h1 ?h2 ?h3 ?h4 ?_; (case hh => exact rfl); (case F => k_asm); (case X => k_asm); (case N => k_asm); (case hx => k_mem); (case hz => omega); (case h0 => k_is); (case h1 => k_is); (case h2 => k_is); (case h3 => k_is); (case h4 => k_is); k_whole); intro l9 k9 h' tk9 F' N' lt9; (try k_sweep)))
local macro_rules | `(tactic| walk_at "subscriptTail") => `(tactic| (k_here; (with_reducible show wpAny _ _ (subscriptTail _ _ (Value.ref _) (Value.int _ _)) _ _ _); k_dflt (refine' li_tail ?k1 ?k2 ?k3 ?k4 ?_; (case k1 => k_asm); (case k2 => k_mem); (case k3 => assumption); (case k4 => omega))))
local macro_rules | `(tactic| walk_at "exec Raise some none") => `(tactic| (k_here; (with_reducible show wpAny _ _ (exec (Stmt.Raise (some (Expr.Name ("ValueError" : Str) _)) none _) _) _ _ _); (with_reducible rename Fr _ _ _ _ => kF); k_dflt (refine' raise_VE ?hh ?hs ?hx ?_; (case hh => rfl); (case hs => rw [isSubtype_type]; kernel_rfl); (case hx => (refine' name_B kF ?k1 ?k2 ?k3 ?k4 ?k5 ?_; (case k1 => k_asm); (case k2 => k_asm); (case k3 => k_is); (case k4 => boot_by_name); (case k5 => decide); exact ⟨rfl, rfl⟩)))))
local macro_rules | `(tactic| walk_at "my ask") => `(tactic| ((refine' code_ask ?k1 ?k2 ?k3 ?k4 ?k5 ?kA ?kF ?cK ?k6 ?k7 ?k8 ?k9 ?kB ?_ ?c2 ?c3 ?c4 ?c5; (case kA => exact rfl); (case kF => exact rfl); (case k2 => k_asm); (case k1 => k_asm); (case k3 => k_asm); (case k4 => k_asm); (case k5 => k_asm); (case k6 => k_is); (case k7 => k_is); (case k8 => ktr_room); (case k9 => first | exact BindsTo.of_eq rfl | exact binds_K (by k_in) rfl (by k_is) rfl rfl rfl); (case kB => exact locs rfl); (case cK => first | assumption | exact rfl); (case c2 => exact rfl); (case c3 => exact rfl); (case c4 => exact rfl); (case c5 => decide); k_whole; intro g' L' h' FG' F' N' B' X' T' D'; (try dsimp only); (try k_lift B'); (try k_fold))))
local macro_rules | `(tactic| walk_at "call builtin:list.insert") => `(tactic| (k_here; (with_reducible show wpAny _ _ (call (Value.builtin _) [Value.ref _, Value.int _ _, _]) _ _ _); k_dflt (refine' l_insert ?F ?N ?hi ?U ?hz ?h0 ?hn ?_; (case F => k_asm); (case N => k_asm); (case U => (intro k'; k_upd)); (case hi => (first | exact is_news (by k_asm) (by k_asm) (by k_asm) (by k_mem) (mroC _) | exact is_list (by k_asm) (by k_mem))); (case hz => omega); (case h0 => omega); (case hn => omega); k_whole); intro k' h' F' N'; (try dsimp only at N'); (try k_sweep)))
local macro_rules | `(tactic| walk_at "call builtin:list.extend") => `(tactic| (k_here; (with_reducible show wpAny _ _ (call (Value.builtin _) [Value.ref _, Value.ref _]) _ _ _); k_dflt (refine' l_extend ?F ?N ?hi ?hb ?U ?hz ?_; (case F => k_asm); (case N => k_asm); (case hb => k_mem); (case U => (intro k'; k_upd)); (case hi => (first | exact is_news (by k_asm) (by k_asm) (by k_asm) (by k_mem) (mroC _) | exact is_list (by k_asm) (by k_mem))); (case hz => (first | omega | (simp only [List.size_toArray, List.length_cons, List.length_nil]; omega))); k_whole); intro k' h' F' N'; (try dsimp only at N'); (try k_sweep)))
local macro_rules | `(tactic| walk_at "call builtin:list.reverse") => `(tactic| (k_here; (with_reducible show wpAny _ _ (call (Value.builtin _) [Value.ref _]) _ _ _); k_dflt (refine' l_reverse ?F ?N ?hi ?U ?hz ?_; (case F => k_asm); (case N => k_asm); (case U => (intro k'; k_upd)); (case hi => (first | exact is_news (by k_asm) (by k_asm) (by k_asm) (by k_mem) (mroC _) | exact is_list (by k_asm) (by k_mem))); (case hz => omega); k_whole); intro k' h' F' N'; (try dsimp only at N'); (try k_sweep)))
local macro_rules | `(tactic| walk_at "call builtin:list.sort") => `(tactic| (k_here; (with_reducible show wpAny _ _ (call (Value.builtin _) [Value.ref _]) _ _ _); k_dflt (refine' l_sort ?F ?N ?hi ?U ?hI ?h64 ?_; (case F => k_asm); (case N => k_asm); (case U => k_updF); (case hi => (first | exact is_news (by k_asm) (by k_asm) (by k_asm) (by k_mem) (mroC _) | exact is_list (by k_asm) (by k_mem))); (case hI => assumption); (case h64 => omega); k_whole); intro out ns' k' h' iI iP iS F' N'; (try dsimp only at N'); (try k_sweep)))
local macro_rules | `(tactic| walk_at "call builtin:list.pop") => `(tactic| (k_here; (with_reducible show wpAny _ _ (call (Value.builtin _) [Value.ref _, Value.int _ _]) _ _ _); k_dflt (refine' l_pop ?F ?N ?hi ?U ?hz ?h0 ?hv ?_; (case F => k_asm); (case N => k_asm); (case U => (intro k'; k_upd)); (case hi => (first | exact is_news (by k_asm) (by k_asm) (by k_asm) (by k_mem) (mroC _) | exact is_list (by k_asm) (by k_mem))); (case hz => omega); (case h0 => omega); (case hv => assumption); k_whole); intro k' h' F' N'; (try dsimp only at N'); (try k_sweep)))
local macro_rules | `(tactic| walk_at "call builtin:list.remove") => `(tactic| (k_here; (with_reducible show wpAny _ _ (call (Value.builtin _) [Value.ref _, Value.int _ _]) _ _ _); k_dflt (refine' l_remove ?F ?N ?hi ?U ?hz ?hI ?hj ?hno ?_; (case F => k_asm); (case N => k_asm); (case U => (intro k'; k_upd)); (case hI => assumption); (case hj => assumption); (case hno => assumption); (case hi => (first | exact is_news (by k_asm) (by k_asm) (by k_asm) (by k_mem) (mroC _) | exact is_list (by k_asm) (by k_mem))); (case hz => omega); k_whole); intro k' h' F' N'; (try dsimp only at N'); (try k_sweep)))
local macro_rules | `(tactic| walk_at "delItem ref int") => `(tactic| (k_here; k_dflt (refine' ll_del ?Y ?F ?N ?U ?hz ?h0 ?hn ?_; (case F => k_asm); (case N => k_asm); (case U => (intro k'; k_upd)); (case Y => (first | exact ll_own (by k_asm) (by k_asm) (by k_asm) (by k_mem) (mroC _) (by k_is) (by k_is) (by k_is) (by k_is) | exact ll_list (by k_asm) (by k_mem))); (case hz => omega); (case h0 => omega); (case hn => omega); k_whole); intro k' h' F' N'; (try dsimp only at N'); (try k_sweep)))
local macro_rules | `(tactic| walk_at "setItem ref ref") => `(tactic| (k_here; k_dflt (refine' set_slice_p ?F ?N ?he ?hs ?hq ?hb ?hab ?Y ?U ?hz ?h0 ?hn ?_; (case F => k_asm); (case N => k_asm); (case he => exact rfl); (case hs => exact rfl); (case hq => exact rfl); (case hb => k_mem); (case hab => k_ne); (case Y => (intro s' F' N'; (first | exact ll_own (by k_asm) (by k_asm) (by k_asm) (by k_mem) (mroC _) (by k_is) (by k_is) (by k_is) (by k_is) | exact ll_list (by k_asm) (by k_mem)))); (case U => (intro k'; k_upd)); (case hz => (first | omega | (simp only [List.size_toArray, List.length_cons, List.length_nil]; omega))); (case h0 => omega); (case hn => omega); k_whole); intro k' h' F' N'; (try dsimp only at N'); (try k_sweep)))
local macro_rules | `(tactic| walk_at "pad 0") => `(tactic| skip)
local macro_rules | `(tactic| walk_at "pad 1") => `(tactic| skip)
local macro_rules | `(tactic| walk_at "pad 2") => `(tactic| skip)
local macro_rules | `(tactic| walk_at "pad 3") => `(tactic| skip)
local macro_rules | `(tactic| walk_at "pad 4") => `(tactic| skip)
local macro_rules | `(tactic| walk_at "pad 5") => `(tactic| skip)
local macro_rules | `(tactic| walk_at "pad 6") => `(tactic| skip)
local macro_rules | `(tactic| walk_at "pad 7") => `(tactic| skip)
local macro_rules | `(tactic| walk_at "pad 8") => `(tactic| skip)
local macro_rules | `(tactic| walk_at "pad 9") => `(tactic| skip)
local macro_rules | `(tactic| walk_at "pad 10") => `(tactic| skip)
local macro_rules | `(tactic| walk_at "pad 11") => `(tactic| skip)
local macro_rules | `(tactic| walk_at "pad 12") => `(tactic| skip)
local macro_rules | `(tactic| walk_at "pad 13") => `(tactic| skip)
local macro_rules | `(tactic| walk_at "pad 14") => `(tactic| skip)
local macro_rules | `(tactic| walk_at "pad 15") => `(tactic| skip)
local macro_rules | `(tactic| walk_at "pad 16") => `(tactic| skip)
local macro_rules | `(tactic| walk_at "pad 17") => `(tactic| skip)
local macro_rules | `(tactic| walk_at "pad 18") => `(tactic| skip)
local macro_rules | `(tactic| walk_at "pad 19") => `(tactic| skip)
local macro_rules | `(tactic| walk_at "pad 20") => `(tactic| skip)
local macro_rules | `(tactic| walk_at "pad 21") => `(tactic| skip)
local macro_rules | `(tactic| walk_at "pad 22") => `(tactic| skip)
local macro_rules | `(tactic| walk_at "pad 23") => `(tactic| skip)
local macro_rules | `(tactic| walk_at "pad 24") => `(tactic| skip)
local macro_rules | `(tactic| walk_at "pad 25") => `(tactic| skip)
local macro_rules | `(tactic| walk_at "pad 26") => `(tactic| skip)
local macro_rules | `(tactic| walk_at "pad 27") => `(tactic| skip)
local macro_rules | `(tactic| walk_at "pad 28") => `(tactic| skip)
local macro_rules | `(tactic| walk_at "pad 29") => `(tactic| skip)
local macro_rules | `(tactic| walk_at "pad 30") => `(tactic| skip)
local macro_rules | `(tactic| walk_at "pad 31") => `(tactic| skip)
local macro_rules | `(tactic| walk_at "pad 32") => `(tactic| skip)
local macro_rules | `(tactic| walk_at "pad 33") => `(tactic| skip)
local macro_rules | `(tactic| walk_at "pad 34") => `(tactic| skip)
local macro_rules | `(tactic| walk_at "pad 35") => `(tactic| skip)
local macro_rules | `(tactic| walk_at "pad 36") => `(tactic| skip)
local macro_rules | `(tactic| walk_at "pad 37") => `(tactic| skip)
local macro_rules | `(tactic| walk_at "pad 38") => `(tactic| skip)
local macro_rules | `(tactic| walk_at "pad 39") => `(tactic| skip)
local macro_rules | `(tactic| walk_at "pad 40") => `(tactic| skip)
local macro_rules | `(tactic| walk_at "pad 41") => `(tactic| skip)
local macro_rules | `(tactic| walk_at "subscriptTail") => `(tactic| (k_here; (with_reducible show wpAny _ _ (subscriptTail _ _ (Value.ref _) (Value.int 0 _)) _ _ _); k_dflt (refine' tup_at0 ?k1 ?k2 ?_; (case k1 => k_asm); (case k2 => (repeat' (first | assumption | apply List.Mem.tail))))))
local macro_rules | `(tactic| walk_at "subscriptTail") => `(tactic| (k_here; (with_reducible show wpAny _ _ (subscriptTail _ _ (Value.ref _) (Value.int 1 _)) _ _ _); k_dflt (refine' tup_at1 ?k1 ?k2 ?_; (case k1 => k_asm); (case k2 => (repeat' (first | assumption | apply List.Mem.tail))))))
section
variable {w : World} {p : Program} {loose : List Str} {mean : ExcName → Option Value} {mg mb : Str → Option Value}
  {dp un : Nat} {gd : Option (List Code)} {cn : Str} {fa : Addr} {ccd : Value} {outer : List Env} {A₀ : Around} {base h₀ : Heap} {L : Addr} {m : Str → Option Value} {s : Shared} {Q : Flow → Shared → Prop} {E : Value → Shared → Prop}

/-- what holds of the two lists at a turn -/
structure At (w : World) (x dx md gn dl : Addr) (od : Obj) (rest : List (Addr × Obj)) (i : Nat) (nx : List (Addr × Obj)) : Prop where
  out : ∃ D o vs n t1 t2 us ku gs kg f ns qs, nx = (D, o) :: (x, subObj 68 dx vs n) :: (dx, attrD w.params t1 t2 true D 2) :: (md, W.listOf us ku) :: (gn, W.listOf gs kg) :: (dl, od) :: rest ∧
    DM PySem.Challenge.rw_aq6060_01.row.prog w o f ns.length ∧ Idx f ns ∧ (D == sysModules) = false ∧ AllNe D ((x, subObj 68 dx vs n) :: (dx, attrD w.params t1 t2 true D 2) :: (md, W.listOf us ku) :: (gn, W.listOf gs kg) :: (dl, od) :: rest) ∧
    IntsAre vs.toList ns ∧ IntsAre us.toList ns ∧ IntsAre gs.toList qs ∧ ns.length ≤ 3 + i ∧ qs.length ≤ i ∧ ns.Nodup ∧ (∀ y ∈ qs, y ∉ ns) ∧ Old i ns ∧ Old i qs

theorem loop_law {x dx md gn dl hc : Addr} {dv : Array Value} {kd : Nat} {rest nx : List (Addr × Obj)}
    (XB : (hd.heap_39 w.params).In base) (TB : Top p loose mean mg mb base) (B : Below A₀ base [] h₀) (F : Fr h₀ L s.heap m) (X : (hd.heap_39 w.params).In h₀) (T : Top p loose mean mg mb h₀) (hdp : dp + 20 < recursionLimit) (hun : un + 200 < cLine)
    (N : News h₀ L s.heap nx) (hat : At w x dx md gn dl (W.listOf dv kd) rest 0 nx)
    (hm1 : m (Str.ofString "many") = some (.ref x)) (hm2 : m (Str.ofString "model") = some (.ref md)) (hm3 : m (Str.ofString "gone") = some (.ref gn)) (hm4 : m (Str.ofString "deeds") = some (.ref dl))
    (l1 : @Ne Nat x dx) (l2 : @Ne Nat x md) (l3 : @Ne Nat x gn) (l4 : @Ne Nat dx md) (l5 : @Ne Nat dx gn) (l6 : @Ne Nat md gn) (l7 : AllNe x ((dl, W.listOf dv kd) :: rest)) (l8 : AllNe dx ((dl, W.listOf dv kd) :: rest)) (l9 : AllNe md ((dl, W.listOf dv kd) :: rest)) (l10 : AllNe gn ((dl, W.listOf dv kd) :: rest))
    (hdv : ∀ (i : Nat) v, dv[i]? = some v → ∃ t a b ta tb c, v = Value.ref t ∧ (t, tupO a b ta tb c) ∈ rest ∧ 0 ≤ a ∧ a ≤ 9 ∧ 0 ≤ b) (hsz : dv.size ≤ 22)
    (hE : PassesOwn (model PySem.Challenge.rw_aq6060_01.row.prog w) (ktrTop dp un gd cn (scopeOf (hd.heap_39 w.params) 98) L fa ccd [(Str.ofString "head", hc)] []) (envX cn (scopeOf (hd.heap_39 w.params) 98) L fa ccd [(Str.ofString "head", hc)]) E)
    (ret : ∀ m' h' tk', Fr h₀ L h' m' → Q (.ret (.bool true)) { s with heap := h', toks := tk' }) :
    wpAny (model PySem.Challenge.rw_aq6060_01.row.prog w) (ktrTop dp un gd cn (scopeOf (hd.heap_39 w.params) 98) L fa ccd [(Str.ofString "head", hc)] [])
      (execs ((bodyOf (hd.heap_39 w.params) 98).drop 9) (envX cn (scopeOf (hd.heap_39 w.params) 98) L fa ccd [(Str.ofString "head", hc)])) Q E s := by
  obtain ⟨D, o, vs, n, t1, t2, us, ku, gs, kg, f, ns, qs, rfl, hat0⟩ := hat.out
  have tail : ∀ (s' : Shared) (m' : Str → Option Value) (nx' : List (Addr × Obj)), Fr h₀ L s'.heap m' → News h₀ L s'.heap nx' → (∃ h' tk', s' = { s with heap := h', toks := tk' }) →
      wpAny (model PySem.Challenge.rw_aq6060_01.row.prog w) (ktrTop dp un gd cn (scopeOf (hd.heap_39 w.params) 98) L fa ccd [(Str.ofString "head", hc)] [])
        (execs ((bodyOf (hd.heap_39 w.params) 98).drop 10) (envX cn (scopeOf (hd.heap_39 w.params) 98) L fa ccd [(Str.ofString "head", hc)])) Q E s' := by
    rintro s' m' nx' F' N' ⟨h', tk', rfl⟩
    exact tail_law XB TB B F' X T hdp hun N' ret
  refine' rest_of' (A := fun sc => ktrTop dp un gd cn sc L fa ccd [(Str.ofString "head", hc)] []) (en := fun sc => envX cn sc L fa ccd [(Str.ofString "head", hc)]) hE ?ho ?h
  case ho => k_is
  case h =>
    intro back hE
    dsimp only [List.drop] at back ⊢
    have F := fr_as F (map_four hm1 hm2 hm3 hm4)
    (repeat' ((fail_if_success (with_reducible show Stop _)); first | (k_unfold; (try dsimp only)) | (k_end; wrow_close) | walk1 | (dsimp only; walk1) | (leave1; try dsimp only) | fail "no step"))
    refine ⟨?_⟩
    with_unfolding_all refine forF F (by exact rfl) (by exact rfl) ?_ (hE := hE)
    (repeat' ((fail_if_success (with_reducible show Stop _)); first | (k_unfold; (try dsimp only)) | (k_end; wrow_close) | walk1 | (dsimp only; walk1) | (leave1; try dsimp only) | fail "no step"))
    refine ⟨?_⟩
    rename Fr _ _ _ _ => F1
    rename News _ _ _ _ => N1
    rename IsRange _ _ _ _ _ _ _ _ => hR
    refine loop_range (n := dv.size) (news := (D, o) :: (x, subObj 68 dx vs n) :: (dx, attrD w.params t1 t2 true D 2) :: (md, W.listOf us ku) :: (gn, W.listOf gs kg) :: (dl, W.listOf dv kd) :: rest)
      (fun i m' nx => m' (Str.ofString "many") = some (.ref x) ∧ m' (Str.ofString "model") = some (.ref md) ∧ m' (Str.ofString "gone") = some (.ref gn) ∧ m' (Str.ofString "deeds") = some (.ref dl) ∧ At w x dx md gn dl (W.listOf dv kd) rest i nx)
      rfl hR rfl (by omega) F1 N1 ⟨rfl, rfl, rfl, rfl, ⟨⟨D, o, vs, n, t1, t2, us, ku, gs, kg, f, ns, qs, rfl, hat0⟩⟩⟩ ?turn ?done
    case turn =>
      clear hat0 hat N1 F1 hR
      rintro i ti m₁ nx h2 tk2 oI hi ⟨h1, h3, h4, h5, hA⟩ hoff F2 N2
      obtain ⟨D, o, vs, n, t1, t2, us, ku, gs, kg, f, ns, qs, rfl, hM, hf, hD, aD, hI, hU, hG, hz, hq, hn, hd, on, oq⟩ := hA.out
      obtain ⟨t, a, b, ta, tb, c, hv, ht, ha0, ha9, hb0⟩ := hdv i dv[i] (Array.getElem?_eq_getElem hi)
      have hv' : dv[i]? = some (.ref t) := by rw [Array.getElem?_eq_getElem hi, hv]
      clear hv
      have F3 := fr_as F2 (in_four h1 h3 h4 h5)
      have N3 := news_in [(D, o), (x, subObj 68 dx vs n), (dx, attrD w.params t1 t2 true D 2), (md, W.listOf us ku), (gn, W.listOf gs kg), (dl, W.listOf dv kd)] N2
      simp only [List.cons_append, List.nil_append] at N3
      clear F2 N2 h1 h3 h4 h5
      have oD := hoff (D, o) (.head _)
      have ox := hoff (x, subObj 68 dx vs n) (.tail _ (.head _))
      have ox2 := hoff (dx, attrD w.params t1 t2 true D 2) (.tail _ (.tail _ (.head _)))
      have om := hoff (md, W.listOf us ku) (.tail _ (.tail _ (.tail _ (.head _))))
      have og := hoff (gn, W.listOf gs kg) (.tail _ (.tail _ (.tail _ (.tail _ (.head _)))))
      have ol := hoff (dl, W.listOf dv kd) (.tail _ (.tail _ (.tail _ (.tail _ (.tail _ (.head _))))))
      have or : ∀ p ∈ rest, p.1 ≠ _ := fun p hp => hoff p (.tail _ (.tail _ (.tail _ (.tail _ (.tail _ (.tail _ hp))))))
      have l7' : AllNe x ((dl, W.listOf dv kd) :: (_, oI) :: rest) := ⟨l7.1, Ne.symm ox, l7.2⟩
      have l8' : AllNe dx ((dl, W.listOf dv kd) :: (_, oI) :: rest) := ⟨l8.1, Ne.symm ox2, l8.2⟩
      have l9' : AllNe md ((dl, W.listOf dv kd) :: (_, oI) :: rest) := ⟨l9.1, Ne.symm om, l9.2⟩
      have l10' : AllNe gn ((dl, W.listOf dv kd) :: (_, oI) :: rest) := ⟨l10.1, Ne.symm og, l10.2⟩
      have l15' : AllNe D ((dl, W.listOf dv kd) :: (_, oI) :: rest) := ⟨aD.2.2.2.2.1, Ne.symm oD, aD.2.2.2.2.2⟩
      have hi22 : i < 22 := Nat.lt_of_lt_of_le hi hsz
      have hz1 := old_fresh (b := b) on hi22
      have hz2 := old_fresh (b := b) oq hi22
      clear hoff
      (repeat' ((fail_if_success (with_reducible show Stop _)); first | (k_unfold; (try dsimp only)) | (k_end; wrow_close) | walk1 | (dsimp only; walk1) | (leave1; try dsimp only) | fail "no step"))
      (refine ⟨?_⟩; k_dflt (refine' (deed_any (D := D) (k := 2) (vs := vs) (us := us) (gs := gs) (ns := ns) (qs := qs) (rest := (dl, W.listOf dv kd) :: (_, oI) :: rest)) ?cB_30 ?cF_30 ?cX_30 ?cT_30 ?chk_30 ?chdp_30 ?chun_30 ?cN_30 hM hf hD l1 l2 l3 l4 l5 l6 l7' l8' l9' l10' (Ne.symm aD.1) (Ne.symm aD.2.1) (Ne.symm aD.2.2.1) (Ne.symm aD.2.2.2.1) l15' hI hU hG (by omega) (by omega) hn hd hz1 hz2 hb0 ha0 ha9 ?_; (case cB_30 => k_asm); (case cF_30 => k_asm); (case cX_30 => k_asm); (case cT_30 => k_asm); (case cN_30 => k_asm); (case chk_30 => exact rfl); (case chdp_30 => show (dp + 8) < recursionLimit; omega); (case chun_30 => show (un + 140) < cLine; omega)))
      intro o3 vs3 n3 us3 ku3 gs3 kg3 ns3 qs3 h3 tk3 F4 N4 hI3 hU3 hG3 hS3
      obtain ⟨on3, oq3⟩ := old_two on oq hS3
      obtain ⟨hn3, hd3, -, -, hl3, hk3⟩ := hS3
      (repeat' ((fail_if_success (with_reducible show Stop _)); first | (k_unfold; (try dsimp only)) | (k_end; wrow_close) | walk1 | (dsimp only; walk1) | (leave1; try dsimp only) | fail "no step"))
      rename News _ _ _ _ => kN
      have N5 := news_sub kN ((x, subObj 68 dx vs3 n3) :: (dx, attrD w.params t1 t2 true D 2) :: (md, W.listOf us3 ku3) :: (gn, W.listOf gs3 kg3) :: (dl, W.listOf dv kd) :: (_, oI) :: rest) (fun p hp => .tail _ hp)
      clear kN
      (refine ⟨?_⟩; k_dflt (refine' (ask_spec (D := D) (k := 2) (b := true) (vs := vs3) (n := n3) (us := us3) (gs := gs3) (ns := ns3) (qs := qs3) (rest := (dl, W.listOf dv kd) :: (_, oI) :: rest)) ?cB_31 ?cF_31 ?cX_31 ?cT_31 ?chk_31 ?chdp_31 ?chun_31 ?cN_31 XB TB l1 l2 l3 l4 l5 l6 l7' l8' l9' l10' hI3 hU3 hG3 (by omega) (by omega) hn3 hd3 ?_; (case cB_31 => k_asm); (case cF_31 => k_asm); (case cX_31 => k_asm); (case cT_31 => k_asm); (case cN_31 => k_asm); (case chk_31 => exact rfl); (case chdp_31 => show (dp + 8) < recursionLimit; omega); (case chun_31 => show (un + 140) < cLine; omega)))
      intro D4 o4 f4 h4 tk4 F6 N6 M6 J6 lo6 lD6
      (repeat' ((fail_if_success (with_reducible show Stop _)); first | (k_unfold; (try dsimp only)) | (k_end; wrow_close) | walk1 | (dsimp only; walk1) | (leave1; try dsimp only) | fail "no step"))
      obtain ⟨u1, u2, u3, u4, u5, u6, u7⟩ := lD6
      rename Fr _ _ _ _ => F7
      rename News _ _ _ _ => N7
      refine ⟨_, _, _, _, rfl, F7, news_out [(D4, o4), (x, subObj 68 dx vs3 n3), (dx, attrD w.params t1 t2 true D4 2), (md, W.listOf us3 ku3), (gn, W.listOf gs3 kg3), (dl, W.listOf dv kd)] N7, ?_, rfl, rfl, rfl, rfl, ⟨⟨D4, o4, vs3, n3, t1, t2, us3, ku3, gs3, kg3, f4, ns3, qs3, rfl, M6, J6, lo6, ⟨Nat.ne_of_lt u1, Nat.ne_of_lt u2, Nat.ne_of_lt u3, Nat.ne_of_lt u4, Nat.ne_of_lt u5, allNe_of (allLt_ne u7)⟩, hI3, hU3, hG3, by omega, by omega, hn3, hd3, on3, oq3⟩⟩⟩
      intro p hp
      replace hp : p ∈ (D4, o4) :: (x, subObj 68 dx vs3 n3) :: (dx, attrD w.params t1 t2 true D4 2) :: (md, W.listOf us3 ku3) :: (gn, W.listOf gs3 kg3) :: (dl, W.listOf dv kd) :: rest := hp
      simp only [List.mem_cons] at hp
      rcases hp with h | h | h | h | h | h | h
      · rw [h]; exact Nat.ne_of_gt u6
      · rw [h]; exact ox
      · rw [h]; exact ox2
      · rw [h]; exact om
      · rw [h]; exact og
      · rw [h]; exact ol
      · exact or p h
    case done =>
      rintro m₁ nx h2 tk2 ⟨h1, h3, h4, h5, hA⟩ hoff F2 N2
      exact back 10 _ (tail _ _ _ F2 N2 ⟨_, _, rfl⟩)
end
end Mine
end PM2

section PM1
namespace Mine
theorem top_off_M1 : True := by
  w_top off
  trivial
end Mine
set_option maxRecDepth 100000
set_option maxHeartbeats 8000000
namespace Mine
theorem tt_ne {h₀ h : Heap} {L a : Addr} {news tt : List (Addr × Obj)} {oa : Obj} (N : News h₀ L h news) (ht : ∀ p ∈ tt, p ∈ news ∧ p.2.cls = .type "tuple") (ha : (a, oa) ∈ news) (hc : oa.cls ≠ .type "tuple") : AllNe a tt := allNe_of fun p hp e => by
  obtain ⟨h1, h2⟩ := ht p hp
  have e1 := (N p h1).1
  rw [e, (N _ ha).1] at e1
  have e2 : oa = p.2 := Option.some.inj e1
  rw [e2] at hc
  exact hc h2
theorem Pairs.mono {G : Int → Int → Prop} {ys : List Value} {tups tups' : List (Addr × Obj)} (x : Pairs G ys tups) (hs : ∀ t a b ta tb c, (t, tupO a b ta tb c) ∈ tups → (t, tupO a b ta tb c) ∈ tups') : Pairs G ys tups' := fun i v h => by
  obtain ⟨t', a', b', ta', tb', c', e, hm, g'⟩ := x i v h
  exact ⟨t', a', b', ta', tb', c', e, hs _ _ _ _ _ _ hm, g'⟩
theorem tt_mem {α : Type} {p a b : α} {l1 l2 l3 : List α} (h : p ∈ l1 ++ l2) : p ∈ l1 ++ a :: b :: (l2 ++ l3) := by
  simp only [List.mem_append, List.mem_cons] at h ⊢; grind
theorem tt_md {α : Type} {a b c : α} {l1 l2 l3 : List α} : c ∈ l1 ++ a :: b :: (l2 ++ c :: l3) := by simp
theorem tt_gn {α : Type} {a b c d : α} {l1 l2 l3 : List α} : c ∈ l1 ++ a :: b :: (l2 ++ d :: c :: l3) := by simp
local macro_rules | `(tactic| k_inst) => `(tactic| (refine' inst_of_news ?N ?h1 ?h2; (case N => k_asm); (case h1 => k_mem); (case h2 => k_mem)))
local macro_rules | `(tactic| k_all) => `(tactic| first | assumption | exact allNe_all (by assumption) | exact allLt_ne (by assumption) | exact allLt_ne (And.right (by assumption)) | exact allLt_ne (And.right (And.right (by assumption))) | exact allLt_ne (And.right (And.right (And.right (by assumption)))) | exact allLt_ne (And.right (And.right (And.right (And.right (by assumption))))))
local macro_rules | `(tactic| walk_at "setAttr ref") => `(tactic| (k_here; k_dflt (refine' setL_dict ?k1 ?k2 ?k3 ?k4 ?k5 ?k6 ?k7 ?k8 ?k9 ?k10 ?k11 ?k12 ?k13 ?_; (case k1 => k_asm); (case k2 => k_asm); (case k3 => k_asm); (case k4 => k_inst); (case k5 => exact rfl); (case k6 => k_is); (case k7 => exact mroC _); (case k8 => k_is); (case k9 => k_is); (case k10 => k_get); (case k11 => k_put); (case k12 => k_upd); (case k13 => exact Nat.le_of_ble_eq_true rfl); k_whole; intro h' F' N'; (try k_sweep))))
local macro_rules | `(tactic| walk_at "setAttr ref") => `(tactic| (k_here; (first | ((with_reducible show wpAny _ _ (setAttr (Value.ref _) (Str.ofString "_dict") _) _ _ _); k_dflt (refine' set_d ?k1 ?k2 ?k3 ?k4 ?k5 ?k6 ?k7 ?k8 ?k9 ?_)) | ((with_reducible show wpAny _ _ (setAttr (Value.ref _) (Str.ofString "clean") _) _ _ _); k_dflt (refine' set_c ?k1 ?k2 ?k3 ?k4 ?k5 ?k6 ?k7 ?k8 ?k9 ?_))); (case k1 => k_asm); (case k2 => k_asm); (case k3 => k_asm); (case k4 => k_mem); (case k5 => k_dflt k_is); (case k6 => exact mroC _); (case k7 => k_dflt k_is); (case k8 => k_dflt k_is); (case k9 => k_dflt k_upd); k_whole; intro h' F' N'; (try k_sweep)))
local macro_rules | `(tactic| walk_at "eval Dict nil nil") => `(tactic| (k_here; k_dflt (refine' new_dictK ?k1 ?k2 (TopRead.nolimit (by k_asm)) ?_; (case k1 => k_asm); (case k2 => k_asm); k_whole); intro d' h' F' N' l1 lo'; (try k_lt l1); (try k_sweep)))
local macro_rules | `(tactic| walk_at "exec For Name Name cons nil") => `(tactic| (refine Stop.out ?_))
local macro_rules | `(tactic| walk_at "exec For Name Call cons nil") => `(tactic| (refine Stop.out ?_))
local macro_rules | `(tactic| walk_at "exec For Tuple Call cons nil") => `(tactic| (refine Stop.out ?_))
local macro_rules | `(tactic| walk_at "pyIter ref") => `(tactic| ((with_reducible show wpAny _ _ (pyIter (Value.ref _)) (fun it s₂ => LoopAtV _ _ _ _ _ _ _ _ _ it s₂) _ _); refine Stop.out ?_))
local macro_rules | `(tactic| walk_at "compareOp NotIn int ref") => `(tactic| (k_here; k_dflt ((first | refine' dm_notin_t ?k1 ?k2 ?k3 ?k4 ?k5 ?_; (case k1 => k_asm); (case k2 => k_mem); (case k3 => assumption); (case k4 => assumption); (case k5 => assumption) | refine' dm_notin_f ?k1 ?k2 ?k3 ?k4 ?k5 ?_; (case k1 => k_asm); (case k2 => k_mem); (case k3 => assumption); (case k4 => assumption); (case k5 => assumption)))))
local macro_rules | `(tactic| walk_at "compareOp In int ref") => `(tactic| (k_here; k_dflt ((first | refine' dm_in_t ?k1 ?k2 ?k3 ?k4 ?k5 ?_; (case k1 => k_asm); (case k2 => k_mem); (case k3 => assumption); (case k4 => assumption); (case k5 => assumption) | refine' dm_in_f ?k1 ?k2 ?k3 ?k4 ?k5 ?_; (case k1 => k_asm); (case k2 => k_mem); (case k3 => assumption); (case k4 => assumption); (case k5 => assumption)))))
local macro_rules | `(tactic| walk_at "setItem ref int") => `(tactic| (k_here; k_dflt (refine' dm_set ?k1 ?k2 ?k3 ?k4 ?k5 ?_; (case k1 => k_asm); (case k2 => k_asm); (case k3 => k_updF); (case k4 => assumption); (case k5 => omega); k_whole); intro o' h' F' N' x'; (try dsimp only at N'); (try k_sweep)))
local macro_rules | `(tactic| walk_at "getAttr ref") => `(tactic| (k_here; (first | ((with_reducible show wpAny _ _ (getAttr (Value.ref _) (Str.ofString "_dict") _) _ _ _); k_dflt (refine' getA_d ?k1 ?k2 ?k3 ?k4 ?k5 ?k6 ?k7 ?k8 ?k9 ?k10 ?k11 ?_)) | ((with_reducible show wpAny _ _ (getAttr (Value.ref _) (Str.ofString "clean") _) _ _ _); k_dflt (refine' getA_c ?k1 ?k2 ?k3 ?k4 ?k5 ?k6 ?k7 ?k8 ?k9 ?k10 ?k11 ?_))); (case k1 => k_asm); (case k2 => k_asm); (case k3 => k_asm); (case k4 => k_mem); (case k5 => k_mem); (case k6 => exact mroC _); (case k7 => k_dflt k_is); (case k8 => k_dflt k_is); (case k9 => k_dflt k_is); (case k10 => k_dflt k_is); (case k11 => k_dflt k_is); k_whole))
local macro_rules | `(tactic| walk_at "getMethod ref") => `(tactic| (k_here; k_dflt (refine' methA ?k1 ?k2 ?k3 ?k4 ?k5 ?k6 ?k7 ?k8 ?k9 ?k10 ?k11 ?_; (case k1 => k_asm); (case k2 => k_asm); (case k3 => k_asm); (case k4 => k_mem); (case k5 => k_mem); (case k6 => k_is); (case k7 => k_is); (case k8 => k_is); (case k9 => k_is); (case k10 => decide); (case k11 => k_get); k_whole)))
local macro_rules | `(tactic| walk_at "compareOp In int ref") => `(tactic| (k_here; k_dflt (refine' in_own ?k1 ?k2 ?k3 ?k4 ?k5 ?k6 ?_; (case k1 => k_asm); (case k2 => k_asm); (case k3 => k_asm); (case k4 => k_mem); (case k5 => k_is); (case k6 => k_is); k_whole)))
local macro_rules | `(tactic| walk_at "compareOp NotIn int ref") => `(tactic| (k_here; k_dflt (refine' notin_own ?k1 ?k2 ?k3 ?k4 ?k5 ?k6 ?_; (case k1 => k_asm); (case k2 => k_asm); (case k3 => k_asm); (case k4 => k_mem); (case k5 => k_is); (case k6 => k_is); k_whole)))
local macro_rules | `(tactic| walk_at "compareOp In int ref") => `(tactic| (k_here; k_dflt (refine' dm_in ?k1 ?k2 ?k3 ?k4 ?_; (case k1 => k_asm); (case k2 => k_mem); (case k3 => assumption); (case k4 => assumption))))
local macro_rules | `(tactic| walk_at "compareOp In int ref") => `(tactic| (k_here; k_dflt (first | refine' dm_in_t ?k1 ?k2 ?k3 ?k4 ?k5 ?_; (case k1 => k_asm); (case k2 => k_mem); (case k3 => assumption); (case k4 => assumption); (case k5 => assumption) | refine' dm_in_f ?k1 ?k2 ?k3 ?k4 ?k5 ?_; (case k1 => k_asm); (case k2 => k_mem); (case k3 => assumption); (case k4 => assumption); (case k5 => assumption))))
local macro_rules | `(tactic| walk_at "compareOp NotIn int ref") => `(tactic| (k_here; k_dflt (first | refine' dm_notin_t ?k1 ?k2 ?k3 ?k4 ?k5 ?_; (case k1 => k_asm); (case k2 => k_mem); (case k3 => assumption); (case k4 => assumption); (case k5 => assumption) | refine' dm_notin_f ?k1 ?k2 ?k3 ?k4 ?k5 ?_; (case k1 => k_asm); (case k2 => k_mem); (case k3 => assumption); (case k4 => assumption); (case k5 => assumption))))
local macro_rules | `(tactic| walk_at "subscriptTail") => `(tactic| (k_here; (with_reducible show wpAny _ _ (subscriptTail _ _ (Value.ref _) (Value.int _ _)) _ _ _); k_dflt (refine' dm_tail ?k1 ?k2 ?k3 ?k4 ?_; (case k1 => k_asm); (case k2 => k_mem); (case k3 => assumption); (case k4 => assumption))))
local macro_rules | `(tactic| walk_at "call ref") => `(tactic| ((first | (with_reducible show wpAny _ _ (call (Value.ref 37) _) _ _ _) | (with_reducible show wpAny _ _ (call (Value.ref 44) _) _ _ _) | (with_reducible show wpAny _ _ (call (Value.ref 51) _) _ _ _) | (with_reducible show wpAny _ _ (call (Value.ref 58) _) _ _ _) | (with_reducible show wpAny _ _ (call (Value.ref 65) _) _ _ _) | (with_reducible show wpAny _ _ (call (Value.ref 68) _) _ _ _) | (with_reducible show wpAny _ _ (call (Value.ref 79) _) _ _ _) | (with_reducible show wpAny _ _ (call (Value.ref 86) _) _ _ _) | (with_reducible show wpAny _ _ (call (Value.ref 93) _) _ _ _)); refine Stop.out ?_))
local macro_rules | `(tactic| walk_at "call builtin:len") => `(tactic| (k_here; (with_reducible show wpAny _ _ (call (Value.builtin "len") [Value.ref _]) _ _ _); k_dflt (refine' ll_len ?Y ?N ?hx ?hz ?_; (case N => k_asm); (case hx => k_mem); (case Y => (first | exact ll_own (by k_asm) (by k_asm) (by k_asm) (by k_mem) (mroC _) (by k_is) (by k_is) (by k_is) (by k_is) | exact ll_list (by k_asm) (by k_mem))); (case hz => first | omega | (simp only [Array.size_push]; omega)))))
local macro_rules | `(tactic| walk_at "call builtin:list.append") => `(tactic| (k_here; (with_reducible show wpAny _ _ (call (Value.builtin _) [Value.ref _, _]) _ _ _); k_dflt (refine' l_append ?F ?N ?hi ?U ?hz ?_; (case F => k_asm); (case N => k_asm); (case U => (intro k'; k_upd)); (case hi => first | exact is_news (by k_asm) (by k_asm) (by k_asm) (by k_mem) (mroC _) | exact is_list (by k_asm) (by k_mem)); (case hz => first | omega | (simp only [Array.size_push]; omega)); k_whole); intro k' h' F' N'; (try dsimp only at N'); (try k_sweep)))
local macro_rules | `(tactic| walk_at "getMethod type:list") => `(tactic| (k_here; refine' method_type ?F ?X ?m (by decide +kernel) ?e ?h ?_; (case F => k_asm); (case X => k_asm); (case m => exact meta_of_list); (case e => k_dflt k_is); (case h => k_handed)))
local macro_rules | `(tactic| walk_at "call type:enumerate") => `(tactic| (refine Stop.out ?_))
local macro_rules | `(tactic| ktr_enter) => `(tactic| (refine' code_def ?k1 ?k2 ?k3 ?k4 ?k5 ?kA ?kF ?kK ?k6 ?k7 ?k8 ?k9 ?kB ?_ ?c2 ?c3 ?c4 ?c5; (case kA => exact rfl); (case kF => exact rfl); (case kK => first | assumption | exact rfl); (case k1 => k_asm); (case k2 => k_asm); (case k3 => k_asm); (case k4 => k_asm); (case k5 => k_asm); (case k6 => k_is); (case k7 => k_is); (case k8 => ktr_room); (case k9 => first | exact BindsTo.of_eq rfl | exact binds_K (by k_in) rfl (by k_is) rfl rfl rfl); (case c5 => decide); (case kB => exact locs rfl); (case c2 => exact rfl); (case c3 => exact rfl); (case c4 => exact rfl); k_whole; intro g' L' h' FG' F' N' B' X' T'; (try dsimp only); (try k_fold)))
local macro_rules | `(tactic| walk_at "call type:list") => `(tactic| (k_here; (with_reducible show wpAny _ _ (call (Value.type "list") [Value.ref _]) _ _ _); k_dflt (refine' l_copy ?hh ?F ?X ?N ?hx ?hz (mroC _) ?h0 ?h1 ?h2 ?h3 ?h4 ?_; (case hh => exact rfl); (case F => k_asm); (case X => k_asm); (case N => k_asm); (case hx => k_mem); (case hz => omega); (case h0 => k_is); (case h1 => k_is); (case h2 => k_is); (case h3 => k_is); (case h4 => k_is); k_whole); intro l9 k9 h' tk9 F' N' lt9; (try k_sweep)))
local macro_rules | `(tactic| walk_at "subscriptTail") => `(tactic| (k_here; (with_reducible show wpAny _ _ (subscriptTail _ _ (Value.ref _) (Value.int _ _)) _ _ _); k_dflt (refine' li_tail ?k1 ?k2 ?k3 ?k4 ?_; (case k1 => k_asm); (case k2 => k_mem); (case k3 => assumption); (case k4 => omega))))
local macro_rules | `(tactic| walk_at "exec Raise some none") => `(tactic| (k_here; (with_reducible show wpAny _ _ (exec (Stmt.Raise (some (Expr.Name ("ValueError" : Str) _)) none _) _) _ _ _); (with_reducible rename Fr _ _ _ _ => kF); k_dflt (refine' raise_VE ?hh ?hs ?hx ?_; (case hh => rfl); (case hs => rw [isSubtype_type]; kernel_rfl); (case hx => (refine' name_B kF ?k1 ?k2 ?k3 ?k4 ?k5 ?_; (case k1 => k_asm); (case k2 => k_asm); (case k3 => k_is); (case k4 => boot_by_name); (case k5 => decide); exact ⟨rfl, rfl⟩)))))
local macro_rules | `(tactic| walk_at "my ask") => `(tactic| ((refine' code_ask ?k1 ?k2 ?k3 ?k4 ?k5 ?kA ?kF ?cK ?k6 ?k7 ?k8 ?k9 ?kB ?_ ?c2 ?c3 ?c4 ?c5; (case kA => exact rfl); (case kF => exact rfl); (case k2 => k_asm); (case k1 => k_asm); (case k3 => k_asm); (case k4 => k_asm); (case k5 => k_asm); (case k6 => k_is); (case k7 => k_is); (case k8 => ktr_room); (case k9 => first | exact BindsTo.of_eq rfl | exact binds_K (by k_in) rfl (by k_is) rfl rfl rfl); (case kB => exact locs rfl); (case cK => first | assumption | exact rfl); (case c2 => exact rfl); (case c3 => exact rfl); (case c4 => exact rfl); (case c5 => decide); k_whole; intro g' L' h' FG' F' N' B' X' T' D'; (try dsimp only); (try k_lift B'); (try k_fold))))
local macro_rules | `(tactic| walk_at "call builtin:list.insert") => `(tactic| (k_here; (with_reducible show wpAny _ _ (call (Value.builtin _) [Value.ref _, Value.int _ _, _]) _ _ _); k_dflt (refine' l_insert ?F ?N ?hi ?U ?hz ?h0 ?hn ?_; (case F => k_asm); (case N => k_asm); (case U => (intro k'; k_upd)); (case hi => (first | exact is_news (by k_asm) (by k_asm) (by k_asm) (by k_mem) (mroC _) | exact is_list (by k_asm) (by k_mem))); (case hz => omega); (case h0 => omega); (case hn => omega); k_whole); intro k' h' F' N'; (try dsimp only at N'); (try k_sweep)))
local macro_rules | `(tactic| walk_at "call builtin:list.extend") => `(tactic| (k_here; (with_reducible show wpAny _ _ (call (Value.builtin _) [Value.ref _, Value.ref _]) _ _ _); k_dflt (refine' l_extend ?F ?N ?hi ?hb ?U ?hz ?_; (case F => k_asm); (case N => k_asm); (case hb => k_mem); (case U => (intro k'; k_upd)); (case hi => (first | exact is_news (by k_asm) (by k_asm) (by k_asm) (by k_mem) (mroC _) | exact is_list (by k_asm) (by k_mem))); (case hz => (first | omega | (simp only [List.size_toArray, List.length_cons, List.length_nil]; omega))); k_whole); intro k' h' F' N'; (try dsimp only at N'); (try k_sweep)))
local macro_rules | `(tactic| walk_at "call builtin:list.reverse") => `(tactic| (k_here; (with_reducible show wpAny _ _ (call (Value.builtin _) [Value.ref _]) _ _ _); k_dflt (refine' l_reverse ?F ?N ?hi ?U ?hz ?_; (case F => k_asm); (case N => k_asm); (case U => (intro k'; k_upd)); (case hi => (first | exact is_news (by k_asm) (by k_asm) (by k_asm) (by k_mem) (mroC _) | exact is_list (by k_asm) (by k_mem))); (case hz => omega); k_whole); intro k' h' F' N'; (try dsimp only at N'); (try k_sweep)))
local macro_rules | `(tactic| walk_at "call builtin:list.sort") => `(tactic| (k_here; (with_reducible show wpAny _ _ (call (Value.builtin _) [Value.ref _]) _ _ _); k_dflt (refine' l_sort ?F ?N ?hi ?U ?hI ?h64 ?_; (case F => k_asm); (case N => k_asm); (case U => k_updF); (case hi => (first | exact is_news (by k_asm) (by k_asm) (by k_asm) (by k_mem) (mroC _) | exact is_list (by k_asm) (by k_mem))); (case hI => assumption); (case h64 => omega); k_whole); intro out ns' k' h' iI iP iS F' N'; (try dsimp only at N'); (try k_sweep)))
local macro_rules | `(tactic| walk_at "call builtin:list.pop") => `(tactic| (k_here; (with_reducible show wpAny _ _ (call (Value.builtin _) [Value.ref _, Value.int _ _]) _ _ _); k_dflt (refine' l_pop ?F ?N ?hi ?U ?hz ?h0 ?hv ?_; (case F => k_asm); (case N => k_asm); (case U => (intro k'; k_upd)); (case hi => (first | exact is_news (by k_asm) (by k_asm) (by k_asm) (by k_mem) (mroC _) | exact is_list (by k_asm) (by k_mem))); (case hz => omega); (case h0 => omega); (case hv => assumption); k_whole); intro k' h' F' N'; (try dsimp only at N'); (try k_sweep)))
local macro_rules | `(tactic| walk_at "call builtin:list.remove") => `(tactic| (k_here; (with_reducible show wpAny _ _ (call (Value.builtin _) [Value.ref _, Value.int _ _]) _ _ _); k_dflt (refine' l_remove ?F ?N ?hi ?U ?hz ?hI ?hj ?hno ?_; (case F => k_asm); (case N => k_asm); (case U => (intro k'; k_upd)); (case hI => assumption); (case hj => assumption); (case hno => assumption); (case hi => (first | exact is_news (by k_asm) (by k_asm) (by k_asm) (by k_mem) (mroC _) | exact is_list (by k_asm) (by k_mem))); (case hz => omega); k_whole); intro k' h' F' N'; (try dsimp only at N'); (try k_sweep)))
local macro_rules | `(tactic| walk_at "delItem ref int") => `(tactic| (k_here; k_dflt (refine' ll_del ?Y ?F ?N ?U ?hz ?h0 ?hn ?_; (case F => k_asm); (case N => k_asm); (case U => (intro k'; k_upd)); (case Y => (first | exact ll_own (by k_asm) (by k_asm) (by k_asm) (by k_mem) (mroC _) (by k_is) (by k_is) (by k_is) (by k_is) | exact ll_list (by k_asm) (by k_mem))); (case hz => omega); (case h0 => omega); (case hn => omega); k_whole); intro k' h' F' N'; (try dsimp only at N'); (try k_sweep)))
local macro_rules | `(tactic| walk_at "setItem ref ref") => `(tactic| (k_here; k_dflt (refine' set_slice_p ?F ?N ?he ?hs ?hq ?hb ?hab ?Y ?U ?hz ?h0 ?hn ?_; (case F => k_asm); (case N => k_asm); (case he => exact rfl); (case hs => exact rfl); (case hq => exact rfl); (case hb => k_mem); (case hab => k_ne); (case Y => (intro s' F' N'; (first | exact ll_own (by k_asm) (by k_asm) (by k_asm) (by k_mem) (mroC _) (by k_is) (by k_is) (by k_is) (by k_is) | exact ll_list (by k_asm) (by k_mem)))); (case U => (intro k'; k_upd)); (case hz => (first | omega | (simp only [List.size_toArray, List.length_cons, List.length_nil]; omega))); (case h0 => omega); (case hn => omega); k_whole); intro k' h' F' N'; (try dsimp only at N'); (try k_sweep)))
local macro_rules | `(tactic| walk_at "pad 0") => `(tactic| skip)
local macro_rules | `(tactic| walk_at "pad 1") => `(tactic| skip)
local macro_rules | `(tactic| walk_at "pad 2") => `(tactic| skip)
local macro_rules | `(tactic| walk_at "pad 3") => `(tactic| skip)
local macro_rules | `(tactic| walk_at "pad 4") => `(tactic| skip)
local macro_rules | `(tactic| walk_at "pad 5") => `(tactic| skip)
local macro_rules | `(tactic| walk_at "pad 6") => `(tactic| skip)
local macro_rules | `(tactic| walk_at "pad 7") => `(tactic| skip)
local macro_rules | `(tactic| walk_at "pad 8") => `(tactic| skip)
local macro_rules | `(tactic| walk_at "pad 9") => `(tactic| skip)
local macro_rules | `(tactic| walk_at "pad 10") => `(tactic| skip)
local macro_rules | `(tactic| walk_at "pad 11") => `(tactic| skip)
local macro_rules | `(tactic| walk_at "pad 12") => `(tactic| skip)
local macro_rules | `(tactic| walk_at "pad 13") => `(tactic| skip)
local macro_rules | `(tactic| walk_at "pad 14") => `(tactic| skip)
local macro_rules | `(tactic| walk_at "pad 15") => `(tactic| skip)
local macro_rules | `(tactic| walk_at "pad 16") => `(tactic| skip)
local macro_rules | `(tactic| walk_at "pad 17") => `(tactic| skip)
local macro_rules | `(tactic| walk_at "pad 18") => `(tactic| skip)
local macro_rules | `(tactic| walk_at "pad 19") => `(tactic| skip)
local macro_rules | `(tactic| walk_at "pad 20") => `(tactic| skip)
local macro_rules | `(tactic| walk_at "pad 21") => `(tactic| skip)
local macro_rules | `(tactic| walk_at "pad 22") => `(tactic| skip)
local macro_rules | `(tactic| walk_at "pad 23") => `(tactic| skip)
local macro_rules | `(tactic| walk_at "pad 24") => `(tactic| skip)
local macro_rules | `(tactic| walk_at "pad 25") => `(tactic| skip)
local macro_rules | `(tactic| walk_at "pad 26") => `(tactic| skip)
local macro_rules | `(tactic| walk_at "pad 27") => `(tactic| skip)
local macro_rules | `(tactic| walk_at "pad 28") => `(tactic| skip)
local macro_rules | `(tactic| walk_at "pad 29") => `(tactic| skip)
local macro_rules | `(tactic| walk_at "pad 30") => `(tactic| skip)
local macro_rules | `(tactic| walk_at "pad 31") => `(tactic| skip)
local macro_rules | `(tactic| walk_at "pad 32") => `(tactic| skip)
local macro_rules | `(tactic| walk_at "pad 33") => `(tactic| skip)
local macro_rules | `(tactic| walk_at "pad 34") => `(tactic| skip)
local macro_rules | `(tactic| walk_at "pad 35") => `(tactic| skip)
local macro_rules | `(tactic| walk_at "pad 36") => `(tactic| skip)
local macro_rules | `(tactic| walk_at "pad 37") => `(tactic| skip)
local macro_rules | `(tactic| walk_at "pad 38") => `(tactic| skip)
local macro_rules | `(tactic| walk_at "pad 39") => `(tactic| skip)
local macro_rules | `(tactic| walk_at "pad 40") => `(tactic| skip)
local macro_rules | `(tactic| walk_at "pad 41") => `(tactic| skip)
local macro_rules | `(tactic| walk_at "pad 42") => `(tactic| skip)
local macro_rules | `(tactic| walk_at "pad 43") => `(tactic| skip)
local macro_rules | `(tactic| walk_at "eval ListComp") => `(tactic| ((with_reducible show wpAny _ _ (eval (Expr.ListComp (Expr.Tuple _ _ _) _ _ _) _) _ _ _); refine Stop.out ?_))
section
variable {w : World} {p : Program} {loose : List Str} {mean : ExcName → Option Value} {mg mb : Str → Option Value}
  {dp un : Nat} {gd : Option (List Code)} {cn : Str} {fa : Addr} {ccd : Value} {outer : List Env} {A₀ : Around} {base h₀ : Heap} {L : Addr} {m : Str → Option Value} {s : Shared} {Q : Flow → Shared → Prop} {E : Value → Shared → Prop}

theorem mid_end {x dx D D1 D2 D3 T10 gn md hc : Addr} {o o1 o2 o10 : Obj} {vs us : Array Value} {zs ys2 : List Value} {n cm : Nat} {t1 t2 : Tok} {f : Int → Option Value} {ns : List Int} {tups tups2 rest : List (Addr × Obj)}
    (XB : (hd.heap_39 w.params).In base) (TB : Top p loose mean mg mb base) (B : Below A₀ base [] h₀) (F : Fr h₀ L s.heap m) (X : (hd.heap_39 w.params).In h₀) (T : Top p loose mean mg mb h₀) (hdp : dp + 20 < recursionLimit) (hun : un + 200 < cLine)
    (N : News h₀ L s.heap ((D3, W.listOf (zs ++ ys2).toArray 0) :: (D2, o2) :: (tups2 ++ (T10, o10) :: (D1, o1) :: (tups ++ (md, W.listOf us cm) :: (gn, W.listOf #[] 0) :: (D, o) :: (x, subObj 68 dx vs n) :: (dx, attrD w.params t1 t2 true D 2) :: rest))))
    (hm1 : m (Str.ofString "many") = some (.ref x)) (hm2 : m (Str.ofString "model") = some (.ref md)) (hm3 : m (Str.ofString "gone") = some (.ref gn)) (hm4 : m (Str.ofString "deeds") = some (.ref D3))
    (hM : DM PySem.Challenge.rw_aq6060_01.row.prog w o f ns.length) (hf : Idx f ns) (hD : (D == sysModules) = false)
    (k1 : @Ne Nat x D) (k2 : @Ne Nat dx D) (k3 : @Ne Nat dx x) (mD : @LT.lt Nat _ D D3) (mx : @LT.lt Nat _ x D3) (mdx : @LT.lt Nat _ dx D3) (mgn : @LT.lt Nat _ gn D3) (mmd : @LT.lt Nat _ md D3)
    (g1 : @LT.lt Nat _ D gn) (g2 : @LT.lt Nat _ x gn) (g3 : @LT.lt Nat _ dx gn) (g4 : @LT.lt Nat _ gn md) (g5 : @LT.lt Nat _ D md) (g6 : @LT.lt Nat _ x md) (g7 : @LT.lt Nat _ dx md)
    (hI : IntsAre vs.toList ns) (hU : IntsAre us.toList ns) (hp : Pairs (fun a b => 0 ≤ a ∧ a ≤ 9 ∧ 0 ≤ b) zs tups) (hp2 : Pairs (fun a b => 0 ≤ a ∧ a ≤ 9 ∧ 0 ≤ b) ys2 tups2) (hzl : zs.length ≤ 12) (hl2 : ys2.length = 10)
    (hn : ns.Nodup) (hn3 : ns.length ≤ 3) (hn9 : ∀ y ∈ ns, y ≤ 9)
    (hE : PassesOwn (model PySem.Challenge.rw_aq6060_01.row.prog w) (ktrTop dp un gd cn (scopeOf (hd.heap_39 w.params) 98) L fa ccd [(Str.ofString "head", hc)] []) (envX cn (scopeOf (hd.heap_39 w.params) 98) L fa ccd [(Str.ofString "head", hc)]) E)
    (ret : ∀ m' h' tk', Fr h₀ L h' m' → Q (.ret (.bool true)) { s with heap := h', toks := tk' }) :
    wpAny (model PySem.Challenge.rw_aq6060_01.row.prog w) (ktrTop dp un gd cn (scopeOf (hd.heap_39 w.params) 98) L fa ccd [(Str.ofString "head", hc)] [])
      (execs ((bodyOf (hd.heap_39 w.params) 98).drop 9) (envX cn (scopeOf (hd.heap_39 w.params) 98) L fa ccd [(Str.ofString "head", hc)])) Q E s := by
  have ht : ∀ p ∈ (tups2 ++ tups).filter (fun p => p.2.cls == .type "tuple"), p ∈ tups2 ++ tups ∧ p.2.cls = .type "tuple" := fun p hp => by
    rw [List.mem_filter] at hp
    exact ⟨hp.1, beq_iff_eq.mp hp.2⟩
  have ht9 : ∀ p ∈ (tups2 ++ tups).filter (fun p => p.2.cls == .type "tuple"), p ∈ (D3, W.listOf (zs ++ ys2).toArray 0) :: (D2, o2) :: (tups2 ++ (T10, o10) :: (D1, o1) :: (tups ++ (md, W.listOf us cm) :: (gn, W.listOf #[] 0) :: (D, o) :: (x, subObj 68 dx vs n) :: (dx, attrD w.params t1 t2 true D 2) :: rest)) ∧ p.2.cls = .type "tuple" := fun p hp => ⟨.tail _ (.tail _ (tt_mem (ht p hp).1)), (ht p hp).2⟩
  have hp3 : Pairs (fun a b => 0 ≤ a ∧ a ≤ 9 ∧ 0 ≤ b) (zs ++ ys2) ((tups2 ++ tups).filter (fun p => p.2.cls == .type "tuple")) :=
    (hp.mono fun t a b ta tb c h => List.mem_filter.mpr ⟨List.mem_append.mpr (.inr h), by simp⟩).cat (hp2.mono fun t a b ta tb c h => List.mem_filter.mpr ⟨List.mem_append.mpr (.inl h), by simp⟩)
  have hoD : o.cls ≠ .type "tuple" := by
    obtain ⟨es, ep, hx, -⟩ := id hM
    rw [hx.1]; decide
  have N' := news_sub N ((D, o) :: (x, subObj 68 dx vs n) :: (dx, attrD w.params t1 t2 true D 2) :: (md, W.listOf us cm) :: (gn, W.listOf #[] 0) :: (D3, W.listOf (zs ++ ys2).toArray 0) :: (tups2 ++ tups).filter (fun p => p.2.cls == .type "tuple")) (by
    intro p hp
    simp only [List.mem_cons, List.mem_append, List.mem_filter] at hp ⊢
    grind)
  refine loop_law (x := x) (dx := dx) (md := md) (gn := gn) (dl := D3) (hc := hc) (dv := (zs ++ ys2).toArray) (kd := 0) (rest := (tups2 ++ tups).filter (fun p => p.2.cls == .type "tuple")) XB TB B F X T hdp hun N'
    ⟨⟨D, o, vs, n, t1, t2, us, cm, #[], 0, f, ns, [], rfl, hM, hf, hD, ⟨k1, k2, Nat.ne_of_gt g5, Nat.ne_of_gt g1, Nat.ne_of_gt mD, ?a0⟩, hI, hU, .nil, by omega, Nat.le_refl 0, hn, (fun y h => by cases h), (fun y h => .inl (hn9 y h)), (fun y h => by cases h)⟩⟩ hm1 hm2 hm3 hm4
    (Ne.symm k3) (Nat.ne_of_lt g6) (Nat.ne_of_lt g2) (Nat.ne_of_lt g7) (Nat.ne_of_lt g3) (Nat.ne_of_gt g4)
    ⟨Nat.ne_of_gt mx, ?a1⟩ ⟨Nat.ne_of_gt mdx, ?a2⟩ ⟨Nat.ne_of_gt mmd, ?a3⟩ ⟨Nat.ne_of_gt mgn, ?a4⟩ (fun i v hv => hp3 i v (by simpa using hv)) (by simp; omega) hE ret
  case a0 => exact tt_ne N ht9 (oa := o) (by simp) hoD
  case a1 => exact tt_ne N ht9 (oa := subObj 68 dx vs n) (by simp) (by simp)
  case a2 => exact tt_ne N ht9 (oa := attrD w.params t1 t2 true D 2) (by simp) (by simp)
  case a3 => exact tt_ne N ht9 (oa := W.listOf us cm) (.tail _ (.tail _ tt_md)) (by simp)
  case a4 => exact tt_ne N ht9 (oa := W.listOf #[] 0) (.tail _ (.tail _ tt_gn)) (by simp)

theorem mid_law {x dx D l0 nb hc : Addr} {o oc : Obj} {vs us : Array Value} {ys : List Value} {n ku : Nat} {t1 t2 th : Tok} {hv : Int} {f : Int → Option Value} {ns ms : List Int} {rest : List (Addr × Obj)}
    (XB : (hd.heap_39 w.params).In base) (TB : Top p loose mean mg mb base) (B : Below A₀ base [] h₀) (F : Fr h₀ L s.heap m) (X : (hd.heap_39 w.params).In h₀) (T : Top p loose mean mg mb h₀) (hdp : dp + 20 < recursionLimit) (hun : un + 200 < cLine)
    (N : News h₀ L s.heap ((D, o) :: (x, subObj 68 dx vs n) :: (dx, attrD w.params t1 t2 true D 2) :: (l0, W.listOf us ku) :: (nb, LCg.lst ys) :: (hc, oc) :: rest)) (hoc : oc.data = .cell (some (.int hv th)))
    (hM : DM PySem.Challenge.rw_aq6060_01.row.prog w o f ns.length) (hf : Idx f ns) (hD : (D == sysModules) = false)
    (hm1 : m (Str.ofString "many") = some (.ref x)) (hm2 : m (Str.ofString "model") = some (.ref l0)) (hm3 : m (Str.ofString "numbers") = some (.ref nb))
    (l1 : AllNe D ((x, subObj 68 dx vs n) :: (dx, attrD w.params t1 t2 true D 2) :: (l0, W.listOf us ku) :: (nb, LCg.lst ys) :: (hc, oc) :: rest))
    (l2 : AllNe x ((dx, attrD w.params t1 t2 true D 2) :: (l0, W.listOf us ku) :: (nb, LCg.lst ys) :: (hc, oc) :: rest)) (l3 : AllNe dx ((l0, W.listOf us ku) :: (nb, LCg.lst ys) :: (hc, oc) :: rest))
    (l4 : AllNe l0 ((nb, LCg.lst ys) :: (hc, oc) :: rest)) (l5 : AllNe nb ((hc, oc) :: rest)) (l6 : AllNe hc rest)
    (hI : IntsAre vs.toList ns) (hU : IntsAre us.toList ns) (hY : IntsAre ys ms) (hn : ns.Nodup) (hn3 : ns.length ≤ 3) (hn9 : ∀ y ∈ ns, y ≤ 9) (hm12 : ms.length ≤ 12) (hms : ∀ y ∈ ms, 0 ≤ y) (hhv : 0 ≤ hv)
    (hE : PassesOwn (model PySem.Challenge.rw_aq6060_01.row.prog w) (ktrTop dp un gd cn (scopeOf (hd.heap_39 w.params) 98) L fa ccd [(Str.ofString "head", hc)] []) (envX cn (scopeOf (hd.heap_39 w.params) 98) L fa ccd [(Str.ofString "head", hc)]) E)
    (ret : ∀ m' h' tk', Fr h₀ L h' m' → Q (.ret (.bool true)) { s with heap := h', toks := tk' }) :
    wpAny (model PySem.Challenge.rw_aq6060_01.row.prog w) (ktrTop dp un gd cn (scopeOf (hd.heap_39 w.params) 98) L fa ccd [(Str.ofString "head", hc)] [])
      (execs ((bodyOf (hd.heap_39 w.params) 98).drop 6) (envX cn (scopeOf (hd.heap_39 w.params) 98) L fa ccd [(Str.ofString "head", hc)])) Q E s := by
  refine' rest_of' (A := fun sc => ktrTop dp un gd cn sc L fa ccd [(Str.ofString "head", hc)] []) (en := fun sc => envX cn sc L fa ccd [(Str.ofString "head", hc)]) hE ?ho ?h
  case ho => k_is
  case h =>
    intro back hE
    have lDD := l1
    dsimp only [List.drop] at back ⊢
    have F := fr_as F (map_three hm1 hm2 hm3)
    (repeat' ((fail_if_success (with_reducible show Stop _)); first | (k_unfold; (try dsimp only)) | (k_end; wrow_close) | walk1 | (dsimp only; walk1) | (leave1; try dsimp only) | fail "no step"))
    rename _ ∧ _ ∧ _ ∧ _ ∧ _ ∧ _ ∧ AllLt _ _ => lgn
    rename _ ∧ _ ∧ _ ∧ _ ∧ _ ∧ _ ∧ _ ∧ AllLt _ _ => lmd
    refine ⟨?_⟩
    with_unfolding_all refine LCg.ListComp_U (F₀ := by k_asm) (by rfl) (by decide) (by rfl) (by decide) (by rfl) ?_
    walk1
    rename Fr _ _ _ _ => F1
    rename News _ _ _ _ => N1
    refine comp_list (G := fun a b => 0 ≤ a ∧ a ≤ 9 ∧ 0 ≤ b) rfl F1 N1 (by k_mem) hY (by have := hY.length; omega) ?turn ?fin
    case turn =>
      intro s1 kk tt I oI C oC Dd m₂ zs h1 tk1 nw E' hk hC hx F2 N2 off ne htl
      (repeat' ((fail_if_success (with_reducible show Stop _)); first | (k_unfold; (try dsimp only)) | (k_end; wrow_close) | walk1 | (dsimp only; walk1) | (leave1; try dsimp only) | fail "no step"))
      rename Fr _ _ _ _ => F9
      rename News _ _ _ _ => N9
      rename _ ∧ _ ∧ _ ∧ AllLt _ _ => l9
      exact ⟨⟨_, _, _, _, _, _, _, _, rfl, rfl, F9, N9, ⟨l9.1, l9.2.1, l9.2.2.1⟩, Int.fmod_nonneg_of_pos _ (by decide), by have := Int.fmod_lt_of_pos kk (b := 10) (by decide); omega, Int.fdiv_nonneg (hms kk hk) (by decide)⟩⟩
    case fin =>
      intro g zs tups hp hl D1 h1 tk1 F2 N2 off
      clear F1 N1
      (repeat' ((fail_if_success (with_reducible show Stop _)); first | (k_unfold; (try dsimp only)) | (k_end; wrow_close) | walk1 | (dsimp only; walk1) | (leave1; try dsimp only) | fail "no step"))
      refine ⟨?_⟩
      with_unfolding_all refine ListComp_T (F₀ := by k_asm) rfl (by rfl) (by decide) (by rfl) (by decide) (by rfl) ?_
      (repeat' ((fail_if_success (with_reducible show Stop _)); first | (k_unfold; (try dsimp only)) | (k_end; wrow_close) | walk1 | (dsimp only; walk1) | (leave1; try dsimp only) | fail "no step"))
      rename Fr _ _ _ _ => F3
      rename News _ _ _ _ => N3
      refine ⟨⟨_, _, _, _, _, rfl, F3, N3, .head _, rfl, rfl, by rw [sizeLine_eq]; exact Nat.le_of_ble_eq_true rfl, ?_⟩⟩
      rintro s₂ ⟨g2, rfl⟩
      refine comp_rest (G := fun a b => 0 ≤ a ∧ a ≤ 9 ∧ 0 ≤ b) (ms := [2, 0, 3, 1, 5, 4, 6, 7, 8, 9]) rfl ?hP ?hS ?turn2 ?fin2
      case hP =>
        intro i v _ hv
        obtain ⟨y, t, rfl, e⟩ := ia_at (ns := [2, 0, 3, 1, 5, 4, 6, 7, 8, 9]) (by repeat constructor) hv
        exact ⟨y, t, e, rfl⟩
      case hS => exact fun tp => List.mem_append.mpr (.inr (.head _))
      case turn2 =>
        intro kk tt I oI C oC Dd m₂ zs2 h2 tk2 nw E' hk hC hx F4 N4 off2 ne htl
        have hmem : (hc, oc) ∈ nw := by
          obtain ⟨tp, rfl⟩ := htl
          simp
        have N5 := news_sub N4 ((I, oI) :: (C, oC) :: (Dd, LCg.lst zs2) :: (hc, oc) :: nw) (by intro p hp; simp only [List.mem_cons] at hp ⊢; grind)
        have hk2 : 0 ≤ kk ∧ kk ≤ 9 := by
          simp only [List.mem_cons, List.not_mem_nil, or_false] at hk
          omega
        clear F3 N3 N4
        (repeat' ((fail_if_success (with_reducible show Stop _)); first | (k_unfold; (try dsimp only)) | (k_end; wrow_close) | walk1 | (dsimp only; walk1) | (leave1; try dsimp only) | fail "no step"))
        rename Fr _ _ _ _ => F9
        rename News _ _ _ _ => N9
        rename _ ∧ _ ∧ _ ∧ _ ∧ AllLt _ _ => l9
        have hq0 : 0 ≤ hv.fdiv 7 := Int.fdiv_nonneg hhv (by decide)
        exact ⟨⟨_, _, _, _, _, _, _, _, rfl, rfl, F9, fun p hp => N9 p (drop5 hp), ⟨l9.1, l9.2.1, l9.2.2.1⟩, hk2.1, hk2.2, by omega⟩⟩
      case fin2 =>
        intro ys2 tups2 hp2 hl2 D2 h3 tk3 F5 N5 off3
        replace hl2 : ys2.length = 10 := hl2
        have hyl := hY.length
        have hzl : zs.length ≤ 12 := by omega
        refine kmk_add_lit (its := zs.toArray) (its2 := ys2.toArray) (zs := zs ++ ys2) F5 N5 ⟨_, (N5 (D1, LCg.lst zs) ?m1).1, rfl, _, rfl⟩ ⟨_, (N5 (D2, LCg.lst ys2) (.head _)).1, rfl, _, rfl⟩ (by simp) (fun D3 h6 F6 N6 lt6 => ?_) (by rw [sizeLine_eq]; show zs.length + ys2.length ≤ _; omega)
        case m1 => simp
        walk1
        rename Fr _ _ _ _ => F9
        rename News _ _ _ _ => N9
        exact back 9 _ (mid_end XB TB B F9 X T hdp hun N9 rfl rfl rfl rfl hM hf hD lDD.1 lDD.2.1 l2.1 (lt6 (D, o) (by simp)) (lt6 (x, subObj 68 dx vs n) (by simp)) (lt6 (dx, attrD w.params t1 t2 true D 2) (by simp)) (lt6 _ (.tail _ tt_gn)) (lt6 _ (.tail _ tt_md))
          lgn.1 lgn.2.1 lgn.2.2.1 lmd.1 lmd.2.1 lmd.2.2.1 lmd.2.2.2.1 hI hU hp hp2 hzl hl2 hn hn3 hn9 hE (fun m' h' tk' F' => ret m' h' tk' F'))
end
end Mine
end PM1

section PF1
namespace Mine
theorem top_off_F1 : True := by
  w_top off
  trivial
end Mine
set_option maxRecDepth 100000
set_option maxHeartbeats 8000000
namespace Mine
local macro_rules | `(tactic| k_inst) => `(tactic| (refine' inst_of_news ?N ?h1 ?h2; (case N => k_asm); (case h1 => k_mem); (case h2 => k_mem)))
local macro_rules | `(tactic| k_all) => `(tactic| first | assumption | exact allNe_all (by assumption) | exact allLt_ne (by assumption) | exact allLt_ne (And.right (by assumption)) | exact allLt_ne (And.right (And.right (by assumption))) | exact allLt_ne (And.right (And.right (And.right (by assumption)))) | exact allLt_ne (And.right (And.right (And.right (And.right (by assumption))))))
local macro_rules | `(tactic| walk_at "setAttr ref") => `(tactic| (k_here; k_dflt (refine' setL_dict ?k1 ?k2 ?k3 ?k4 ?k5 ?k6 ?k7 ?k8 ?k9 ?k10 ?k11 ?k12 ?k13 ?_; (case k1 => k_asm); (case k2 => k_asm); (case k3 => k_asm); (case k4 => k_inst); (case k5 => exact rfl); (case k6 => k_is); (case k7 => exact mroC _); (case k8 => k_is); (case k9 => k_is); (case k10 => k_get); (case k11 => k_put); (case k12 => k_upd); (case k13 => exact Nat.le_of_ble_eq_true rfl); k_whole; intro h' F' N'; (try k_sweep))))
local macro_rules | `(tactic| walk_at "setAttr ref") => `(tactic| (k_here; (first | ((with_reducible show wpAny _ _ (setAttr (Value.ref _) (Str.ofString "_dict") _) _ _ _); k_dflt (refine' set_d ?k1 ?k2 ?k3 ?k4 ?k5 ?k6 ?k7 ?k8 ?k9 ?_)) | ((with_reducible show wpAny _ _ (setAttr (Value.ref _) (Str.ofString "clean") _) _ _ _); k_dflt (refine' set_c ?k1 ?k2 ?k3 ?k4 ?k5 ?k6 ?k7 ?k8 ?k9 ?_))); (case k1 => k_asm); (case k2 => k_asm); (case k3 => k_asm); (case k4 => k_mem); (case k5 => k_dflt k_is); (case k6 => exact mroC _); (case k7 => k_dflt k_is); (case k8 => k_dflt k_is); (case k9 => k_dflt k_upd); k_whole; intro h' F' N'; (try k_sweep)))
local macro_rules | `(tactic| walk_at "eval Dict nil nil") => `(tactic| (k_here; k_dflt (refine' new_dictK ?k1 ?k2 (TopRead.nolimit (by k_asm)) ?_; (case k1 => k_asm); (case k2 => k_asm); k_whole); intro d' h' F' N' l1 lo'; (try k_lt l1); (try k_sweep)))
local macro_rules | `(tactic| walk_at "exec For Name Name cons nil") => `(tactic| (refine Stop.out ?_))
local macro_rules | `(tactic| walk_at "exec For Name Call cons nil") => `(tactic| (refine Stop.out ?_))
local macro_rules | `(tactic| walk_at "exec For Tuple Call cons nil") => `(tactic| (refine Stop.out ?_))
local macro_rules | `(tactic| walk_at "pyIter ref") => `(tactic| ((with_reducible show wpAny _ _ (pyIter (Value.ref _)) (fun it s₂ => LoopAtV _ _ _ _ _ _ _ _ _ it s₂) _ _); refine Stop.out ?_))
local macro_rules | `(tactic| walk_at "compareOp NotIn int ref") => `(tactic| (k_here; k_dflt ((first | refine' dm_notin_t ?k1 ?k2 ?k3 ?k4 ?k5 ?_; (case k1 => k_asm); (case k2 => k_mem); (case k3 => assumption); (case k4 => assumption); (case k5 => assumption) | refine' dm_notin_f ?k1 ?k2 ?k3 ?k4 ?k5 ?_; (case k1 => k_asm); (case k2 => k_mem); (case k3 => assumption); (case k4 => assumption); (case k5 => assumption)))))
local macro_rules | `(tactic| walk_at "compareOp In int ref") => `(tactic| (k_here; k_dflt ((first | refine' dm_in_t ?k1 ?k2 ?k3 ?k4 ?k5 ?_; (case k1 => k_asm); (case k2 => k_mem); (case k3 => assumption); (case k4 => assumption); (case k5 => assumption) | refine' dm_in_f ?k1 ?k2 ?k3 ?k4 ?k5 ?_; (case k1 => k_asm); (case k2 => k_mem); (case k3 => assumption); (case k4 => assumption); (case k5 => assumption)))))
local macro_rules | `(tactic| walk_at "setItem ref int") => `(tactic| (k_here; k_dflt (refine' dm_set ?k1 ?k2 ?k3 ?k4 ?k5 ?_; (case k1 => k_asm); (case k2 => k_asm); (case k3 => k_updF); (case k4 => assumption); (case k5 => omega); k_whole); intro o' h' F' N' x'; (try dsimp only at N'); (try k_sweep)))
local macro_rules | `(tactic| walk_at "getAttr ref") => `(tactic| (k_here; (first | ((with_reducible show wpAny _ _ (getAttr (Value.ref _) (Str.ofString "_dict") _) _ _ _); k_dflt (refine' getA_d ?k1 ?k2 ?k3 ?k4 ?k5 ?k6 ?k7 ?k8 ?k9 ?k10 ?k11 ?_)) | ((with_reducible show wpAny _ _ (getAttr (Value.ref _) (Str.ofString "clean") _) _ _ _); k_dflt (refine' getA_c ?k1 ?k2 ?k3 ?k4 ?k5 ?k6 ?k7 ?k8 ?k9 ?k10 ?k11 ?_))); (case k1 => k_asm); (case k2 => k_asm); (case k3 => k_asm); (case k4 => k_mem); (case k5 => k_mem); (case k6 => exact mroC _); (case k7 => k_dflt k_is); (case k8 => k_dflt k_is); (case k9 => k_dflt k_is); (case k10 => k_dflt k_is); (case k11 => k_dflt k_is); k_whole))
local macro_rules | `(tactic| walk_at "getMethod ref") => `(tactic| (k_here; k_dflt (refine' methA ?k1 ?k2 ?k3 ?k4 ?k5 ?k6 ?k7 ?k8 ?k9 ?k10 ?k11 ?_; (case k1 => k_asm); (case k2 => k_asm); (case k3 => k_asm); (case k4 => k_mem); (case k5 => k_mem); (case k6 => k_is); (case k7 => k_is); (case k8 => k_is); (case k9 => k_is); (case k10 => decide); (case k11 => k_get); k_whole)))
local macro_rules | `(tactic| walk_at "compareOp In int ref") => `(tactic| (k_here; k_dflt (refine' in_own ?k1 ?k2 ?k3 ?k4 ?k5 ?k6 ?_; (case k1 => k_asm); (case k2 => k_asm); (case k3 => k_asm); (case k4 => k_mem); (case k5 => k_is); (case k6 => k_is); k_whole)))
local macro_rules | `(tactic| walk_at "compareOp NotIn int ref") => `(tactic| (k_here; k_dflt (refine' notin_own ?k1 ?k2 ?k3 ?k4 ?k5 ?k6 ?_; (case k1 => k_asm); (case k2 => k_asm); (case k3 => k_asm); (case k4 => k_mem); (case k5 => k_is); (case k6 => k_is); k_whole)))
local macro_rules | `(tactic| walk_at "compareOp In int ref") => `(tactic| (k_here; k_dflt (refine' dm_in ?k1 ?k2 ?k3 ?k4 ?_; (case k1 => k_asm); (case k2 => k_mem); (case k3 => assumption); (case k4 => assumption))))
local macro_rules | `(tactic| walk_at "compareOp In int ref") => `(tactic| (k_here; k_dflt (first | refine' dm_in_t ?k1 ?k2 ?k3 ?k4 ?k5 ?_; (case k1 => k_asm); (case k2 => k_mem); (case k3 => assumption); (case k4 => assumption); (case k5 => assumption) | refine' dm_in_f ?k1 ?k2 ?k3 ?k4 ?k5 ?_; (case k1 => k_asm); (case k2 => k_mem); (case k3 => assumption); (case k4 => assumption); (case k5 => assumption))))
local macro_rules | `(tactic| walk_at "compareOp NotIn int ref") => `(tactic| (k_here; k_dflt (first | refine' dm_notin_t ?k1 ?k2 ?k3 ?k4 ?k5 ?_; (case k1 => k_asm); (case k2 => k_mem); (case k3 => assumption); (case k4 => assumption); (case k5 => assumption) | refine' dm_notin_f ?k1 ?k2 ?k3 ?k4 ?k5 ?_; (case k1 => k_asm); (case k2 => k_mem); (case k3 => assumption); (case k4 => assumption); (case k5 => assumption))))
local macro_rules | `(tactic| walk_at "subscriptTail") => `(tactic| (k_here; (with_reducible show wpAny _ _ (subscriptTail _ _ (Value.ref _) (Value.int _ _)) _ _ _); k_dflt (refine' dm_tail ?k1 ?k2 ?k3 ?k4 ?_; (case k1 => k_asm); (case k2 => k_mem); (case k3 => assumption); (case k4 => assumption))))
local macro_rules | `(tactic| walk_at "call ref") => `(tactic| ((first | (with_reducible show wpAny _ _ (call (Value.ref 37) _) _ _ _) | (with_reducible show wpAny _ _ (call (Value.ref 44) _) _ _ _) | (with_reducible show wpAny _ _ (call (Value.ref 51) _) _ _ _) | (with_reducible show wpAny _ _ (call (Value.ref 58) _) _ _ _) | (with_reducible show wpAny _ _ (call (Value.ref 65) _) _ _ _) | (with_reducible show wpAny _ _ (call (Value.ref 68) _) _ _ _) | (with_reducible show wpAny _ _ (call (Value.ref 79) _) _ _ _) | (with_reducible show wpAny _ _ (call (Value.ref 86) _) _ _ _) | (with_reducible show wpAny _ _ (call (Value.ref 93) _) _ _ _)); refine Stop.out ?_))
local macro_rules | `(tactic| walk_at "call builtin:len") => `(tactic| (k_here; (with_reducible show wpAny _ _ (call (Value.builtin "len") [Value.ref _]) _ _ _); k_dflt (refine' ll_len ?Y ?N ?hx ?hz ?_; (case N => k_asm); (case hx => k_mem); (case Y => (first | exact ll_own (by k_asm) (by k_asm) (by k_asm) (by k_mem) (mroC _) (by k_is) (by k_is) (by k_is) (by k_is) | exact ll_list (by k_asm) (by k_mem))); (case hz => first | omega | (simp only [Array.size_push]; omega)))))
local macro_rules | `(tactic| walk_at "call builtin:list.append") => `(tactic| (k_here; (with_reducible show wpAny _ _ (call (Value.builtin _) [Value.ref _, _]) _ _ _); k_dflt (refine' l_append ?F ?N ?hi ?U ?hz ?_; (case F => k_asm); (case N => k_asm); (case U => (intro k'; k_upd)); (case hi => first | exact is_news (by k_asm) (by k_asm) (by k_asm) (by k_mem) (mroC _) | exact is_list (by k_asm) (by k_mem)); (case hz => first | omega | (simp only [Array.size_push]; omega)); k_whole); intro k' h' F' N'; (try dsimp only at N'); (try k_sweep)))
local macro_rules | `(tactic| walk_at "getMethod type:list") => `(tactic| (k_here; refine' method_type ?F ?X ?m (by decide +kernel) ?e ?h ?_; (case F => k_asm); (case X => k_asm); (case m => exact meta_of_list); (case e => k_dflt k_is); (case h => k_handed)))
local macro_rules | `(tactic| walk_at "call type:enumerate") => `(tactic| (refine Stop.out ?_))
local macro_rules | `(tactic| ktr_enter) => `(tactic| (refine' code_def ?k1 ?k2 ?k3 ?k4 ?k5 ?kA ?kF ?kK ?k6 ?k7 ?k8 ?k9 ?kB ?_ ?c2 ?c3 ?c4 ?c5; (case kA => exact rfl); (case kF => exact rfl); (case kK => first | assumption | exact rfl); (case k1 => k_asm); (case k2 => k_asm); (case k3 => k_asm); (case k4 => k_asm); (case k5 => k_asm); (case k6 => k_is); (case k7 => k_is); (case k8 => ktr_room); (case k9 => first | exact BindsTo.of_eq rfl | exact binds_K (by k_in) rfl (by k_is) rfl rfl rfl); (case c5 => decide); (case kB => exact locs rfl); (case c2 => exact rfl); (case c3 => exact rfl); (case c4 => exact rfl); k_whole; intro g' L' h' FG' F' N' B' X' T'; (try dsimp only); (try k_fold)))
local macro_rules | `(tactic| walk_at "call type:list") => `(tactic| (k_here; (with_reducible show wpAny _ _ (call (Value.type "list") [Value.ref _]) _ _ _); k_dflt (refine' l_copy ?hh ?F ?X ?N ?hx ?hz (mroC _) ?h0 ?h1 ?h2 ?h3 ?h4 ?_; (case hh => exact rfl); (case F => k_asm); (case X => k_asm); (case N => k_asm); (case hx => k_mem); (case hz => omega); (case h0 => k_is); (case h1 => k_is); (case h2 => k_is); (case h3 => k_is); (case h4 => k_is); k_whole); intro l9 k9 h' tk9 F' N' lt9; (try k_sweep)))
local macro_rules | `(tactic| walk_at "subscriptTail") => `(tactic| (k_here; (with_reducible show wpAny _ _ (subscriptTail _ _ (Value.ref _) (Value.int _ _)) _ _ _); k_dflt (refine' li_tail ?k1 ?k2 ?k3 ?k4 ?_; (case k1 => k_asm); (case k2 => k_mem); (case k3 => assumption); (case k4 => omega))))
local macro_rules | `(tactic| walk_at "exec Raise some none") => `(tactic| (k_here; (with_reducible show wpAny _ _ (exec (Stmt.Raise (some (Expr.Name ("ValueError" : Str) _)) none _) _) _ _ _); (with_reducible rename Fr _ _ _ _ => kF); k_dflt (refine' raise_VE ?hh ?hs ?hx ?_; (case hh => rfl); (case hs => rw [isSubtype_type]; kernel_rfl); (case hx => (refine' name_B kF ?k1 ?k2 ?k3 ?k4 ?k5 ?_; (case k1 => k_asm); (case k2 => k_asm); (case k3 => k_is); (case k4 => boot_by_name); (case k5 => decide); exact ⟨rfl, rfl⟩)))))
local macro_rules | `(tactic| walk_at "my ask") => `(tactic| ((refine' code_ask ?k1 ?k2 ?k3 ?k4 ?k5 ?kA ?kF ?cK ?k6 ?k7 ?k8 ?k9 ?kB ?_ ?c2 ?c3 ?c4 ?c5; (case kA => exact rfl); (case kF => exact rfl); (case k2 => k_asm); (case k1 => k_asm); (case k3 => k_asm); (case k4 => k_asm); (case k5 => k_asm); (case k6 => k_is); (case k7 => k_is); (case k8 => ktr_room); (case k9 => first | exact BindsTo.of_eq rfl | exact binds_K (by k_in) rfl (by k_is) rfl rfl rfl); (case kB => exact locs rfl); (case cK => first | assumption | exact rfl); (case c2 => exact rfl); (case c3 => exact rfl); (case c4 => exact rfl); (case c5 => decide); k_whole; intro g' L' h' FG' F' N' B' X' T' D'; (try dsimp only); (try k_lift B'); (try k_fold))))
local macro_rules | `(tactic| walk_at "call builtin:list.insert") => `(tactic| (k_here; (with_reducible show wpAny _ _ (call (Value.builtin _) [Value.ref _, Value.int _ _, _]) _ _ _); k_dflt (refine' l_insert ?F ?N ?hi ?U ?hz ?h0 ?hn ?_; (case F => k_asm); (case N => k_asm); (case U => (intro k'; k_upd)); (case hi => (first | exact is_news (by k_asm) (by k_asm) (by k_asm) (by k_mem) (mroC _) | exact is_list (by k_asm) (by k_mem))); (case hz => omega); (case h0 => omega); (case hn => omega); k_whole); intro k' h' F' N'; (try dsimp only at N'); (try k_sweep)))
local macro_rules | `(tactic| walk_at "call builtin:list.extend") => `(tactic| (k_here; (with_reducible show wpAny _ _ (call (Value.builtin _) [Value.ref _, Value.ref _]) _ _ _); k_dflt (refine' l_extend ?F ?N ?hi ?hb ?U ?hz ?_; (case F => k_asm); (case N => k_asm); (case hb => k_mem); (case U => (intro k'; k_upd)); (case hi => (first | exact is_news (by k_asm) (by k_asm) (by k_asm) (by k_mem) (mroC _) | exact is_list (by k_asm) (by k_mem))); (case hz => (first | omega | (simp only [List.size_toArray, List.length_cons, List.length_nil]; omega))); k_whole); intro k' h' F' N'; (try dsimp only at N'); (try k_sweep)))
local macro_rules | `(tactic| walk_at "call builtin:list.reverse") => `(tactic| (k_here; (with_reducible show wpAny _ _ (call (Value.builtin _) [Value.ref _]) _ _ _); k_dflt (refine' l_reverse ?F ?N ?hi ?U ?hz ?_; (case F => k_asm); (case N => k_asm); (case U => (intro k'; k_upd)); (case hi => (first | exact is_news (by k_asm) (by k_asm) (by k_asm) (by k_mem) (mroC _) | exact is_list (by k_asm) (by k_mem))); (case hz => omega); k_whole); intro k' h' F' N'; (try dsimp only at N'); (try k_sweep)))
local macro_rules | `(tactic| walk_at "call builtin:list.sort") => `(tactic| (k_here; (with_reducible show wpAny _ _ (call (Value.builtin _) [Value.ref _]) _ _ _); k_dflt (refine' l_sort ?F ?N ?hi ?U ?hI ?h64 ?_; (case F => k_asm); (case N => k_asm); (case U => k_updF); (case hi => (first | exact is_news (by k_asm) (by k_asm) (by k_asm) (by k_mem) (mroC _) | exact is_list (by k_asm) (by k_mem))); (case hI => assumption); (case h64 => omega); k_whole); intro out ns' k' h' iI iP iS F' N'; (try dsimp only at N'); (try k_sweep)))
local macro_rules | `(tactic| walk_at "call builtin:list.pop") => `(tactic| (k_here; (with_reducible show wpAny _ _ (call (Value.builtin _) [Value.ref _, Value.int _ _]) _ _ _); k_dflt (refine' l_pop ?F ?N ?hi ?U ?hz ?h0 ?hv ?_; (case F => k_asm); (case N => k_asm); (case U => (intro k'; k_upd)); (case hi => (first | exact is_news (by k_asm) (by k_asm) (by k_asm) (by k_mem) (mroC _) | exact is_list (by k_asm) (by k_mem))); (case hz => omega); (case h0 => omega); (case hv => assumption); k_whole); intro k' h' F' N'; (try dsimp only at N'); (try k_sweep)))
local macro_rules | `(tactic| walk_at "call builtin:list.remove") => `(tactic| (k_here; (with_reducible show wpAny _ _ (call (Value.builtin _) [Value.ref _, Value.int _ _]) _ _ _); k_dflt (refine' l_remove ?F ?N ?hi ?U ?hz ?hI ?hj ?hno ?_; (case F => k_asm); (case N => k_asm); (case U => (intro k'; k_upd)); (case hI => assumption); (case hj => assumption); (case hno => assumption); (case hi => (first | exact is_news (by k_asm) (by k_asm) (by k_asm) (by k_mem) (mroC _) | exact is_list (by k_asm) (by k_mem))); (case hz => omega); k_whole); intro k' h' F' N'; (try dsimp only at N'); (try k_sweep)))
local macro_rules | `(tactic| walk_at "delItem ref int") => `(tactic| (k_here; k_dflt (refine' ll_del ?Y ?F ?N ?U ?hz ?h0 ?hn ?_; (case F => k_asm); (case N => k_asm); (case U => (intro k'; k_upd)); (case Y => (first | exact ll_own (by k_asm) (by k_asm) (by k_asm) (by k_mem) (mroC _) (by k_is) (by k_is) (by k_is) (by k_is) | exact ll_list (by k_asm) (by k_mem))); (case hz => omega); (case h0 => omega); (case hn => omega); k_whole); intro k' h' F' N'; (try dsimp only at N'); (try k_sweep)))
local macro_rules | `(tactic| walk_at "setItem ref ref") => `(tactic| (k_here; k_dflt (refine' set_slice_p ?F ?N ?he ?hs ?hq ?hb ?hab ?Y ?U ?hz ?h0 ?hn ?_; (case F => k_asm); (case N => k_asm); (case he => exact rfl); (case hs => exact rfl); (case hq => exact rfl); (case hb => k_mem); (case hab => k_ne); (case Y => (intro s' F' N'; (first | exact ll_own (by k_asm) (by k_asm) (by k_asm) (by k_mem) (mroC _) (by k_is) (by k_is) (by k_is) (by k_is) | exact ll_list (by k_asm) (by k_mem)))); (case U => (intro k'; k_upd)); (case hz => (first | omega | (simp only [List.size_toArray, List.length_cons, List.length_nil]; omega))); (case h0 => omega); (case hn => omega); k_whole); intro k' h' F' N'; (try dsimp only at N'); (try k_sweep)))
local macro_rules | `(tactic| walk_at "pad 0") => `(tactic| skip)
local macro_rules | `(tactic| walk_at "pad 1") => `(tactic| skip)
local macro_rules | `(tactic| walk_at "pad 2") => `(tactic| skip)
local macro_rules | `(tactic| walk_at "pad 3") => `(tactic| skip)
local macro_rules | `(tactic| walk_at "pad 4") => `(tactic| skip)
local macro_rules | `(tactic| walk_at "pad 5") => `(tactic| skip)
local macro_rules | `(tactic| walk_at "pad 6") => `(tactic| skip)
local macro_rules | `(tactic| walk_at "pad 7") => `(tactic| skip)
local macro_rules | `(tactic| walk_at "pad 8") => `(tactic| skip)
local macro_rules | `(tactic| walk_at "pad 9") => `(tactic| skip)
local macro_rules | `(tactic| walk_at "pad 10") => `(tactic| skip)
local macro_rules | `(tactic| walk_at "pad 11") => `(tactic| skip)
local macro_rules | `(tactic| walk_at "pad 12") => `(tactic| skip)
local macro_rules | `(tactic| walk_at "pad 13") => `(tactic| skip)
local macro_rules | `(tactic| walk_at "pad 14") => `(tactic| skip)
local macro_rules | `(tactic| walk_at "pad 15") => `(tactic| skip)
local macro_rules | `(tactic| walk_at "pad 16") => `(tactic| skip)
local macro_rules | `(tactic| walk_at "pad 17") => `(tactic| skip)
local macro_rules | `(tactic| walk_at "pad 18") => `(tactic| skip)
local macro_rules | `(tactic| walk_at "pad 19") => `(tactic| skip)
local macro_rules | `(tactic| walk_at "pad 20") => `(tactic| skip)
local macro_rules | `(tactic| walk_at "pad 21") => `(tactic| skip)
local macro_rules | `(tactic| walk_at "pad 22") => `(tactic| skip)
local macro_rules | `(tactic| walk_at "pad 23") => `(tactic| skip)
local macro_rules | `(tactic| walk_at "pad 24") => `(tactic| skip)
local macro_rules | `(tactic| walk_at "pad 25") => `(tactic| skip)
local macro_rules | `(tactic| walk_at "pad 26") => `(tactic| skip)
local macro_rules | `(tactic| walk_at "pad 27") => `(tactic| skip)
local macro_rules | `(tactic| walk_at "pad 28") => `(tactic| skip)
local macro_rules | `(tactic| walk_at "pad 29") => `(tactic| skip)
local macro_rules | `(tactic| walk_at "pad 30") => `(tactic| skip)
local macro_rules | `(tactic| walk_at "pad 31") => `(tactic| skip)
local macro_rules | `(tactic| walk_at "pad 32") => `(tactic| skip)
local macro_rules | `(tactic| walk_at "pad 33") => `(tactic| skip)
local macro_rules | `(tactic| walk_at "pad 34") => `(tactic| skip)
local macro_rules | `(tactic| walk_at "pad 35") => `(tactic| skip)
local macro_rules | `(tactic| walk_at "pad 36") => `(tactic| skip)
local macro_rules | `(tactic| walk_at "pad 37") => `(tactic| skip)
local macro_rules | `(tactic| walk_at "pad 38") => `(tactic| skip)
local macro_rules | `(tactic| walk_at "pad 39") => `(tactic| skip)
local macro_rules | `(tactic| walk_at "pad 40") => `(tactic| skip)
local macro_rules | `(tactic| walk_at "pad 41") => `(tactic| skip)
local macro_rules | `(tactic| walk_at "pad 42") => `(tactic| skip)
local macro_rules | `(tactic| walk_at "pad 43") => `(tactic| skip)
local macro_rules | `(tactic| walk_at "pad 44") => `(tactic| skip)
local macro_rules | `(tactic| walk_at "execs cons") => `(tactic| ((with_reducible show wpAny _ _ (execs (Stmt.Assign [Expr.Name (Str.ofString "gone") _] _ _ :: _) _) _ _ _); refine Stop.out ?_))
theorem any_mem (ns : List Int) (z : Int) : (ns.any fun x => x == z) = decide (z ∈ ns) := by
  rw [Bool.eq_iff_iff, List.any_eq_true]; simp
theorem idx_some {f : Int → Option Value} {ns : List Int} (J : Idx f ns) (z : Int) : (f z).isSome = decide (z ∈ ns) := by
  by_cases h : z ∈ ns
  · obtain ⟨j, hj⟩ := List.mem_iff_getElem?.mp h
    obtain ⟨t, e⟩ := J.1 j z hj
    rw [e, decide_eq_true h]; rfl
  · rw [J.2 z h, decide_eq_false h]; rfl
section
variable {w : World} {p : Program} {loose : List Str} {mean : ExcName → Option Value} {mg mb : Str → Option Value}
  {dp un : Nat} {gd : Option (List Code)} {cn : Str} {fa : Addr} {ccd : Value} {outer : List Env} {A₀ : Around} {base h₀ : Heap} {L : Addr} {m : Str → Option Value} {s : Shared} {Q : Flow → Shared → Prop} {E : Value → Shared → Prop}

theorem chk_dirty {x dx D l0 nb hc : Addr} {oc : Obj} {vs us : Array Value} {ys : List Value} {n ku : Nat} {t1 t2 th : Tok} {hv : Int} {ns ms : List Int} {rest : List (Addr × Obj)}
    (XB : (hd.heap_39 w.params).In base) (TB : Top p loose mean mg mb base) (B : Below A₀ base [] h₀) (F : Fr h₀ L s.heap m) (X : (hd.heap_39 w.params).In h₀) (T : Top p loose mean mg mb h₀) (hdp : dp + 20 < recursionLimit) (hun : un + 200 < cLine)
    (N : News h₀ L s.heap ((x, subObj 68 dx vs n) :: (dx, attrD w.params t1 t2 false D 2) :: (l0, W.listOf us ku) :: (nb, LCg.lst ys) :: (hc, oc) :: rest)) (hoc : oc.data = .cell (some (.int hv th)))
    (hm1 : m (Str.ofString "many") = some (.ref x)) (hm2 : m (Str.ofString "model") = some (.ref l0)) (hm3 : m (Str.ofString "numbers") = some (.ref nb))
    (l2 : AllNe x ((dx, attrD w.params t1 t2 false D 2) :: (l0, W.listOf us ku) :: (nb, LCg.lst ys) :: (hc, oc) :: rest)) (l3 : AllNe dx ((l0, W.listOf us ku) :: (nb, LCg.lst ys) :: (hc, oc) :: rest))
    (l4 : AllNe l0 ((nb, LCg.lst ys) :: (hc, oc) :: rest)) (l5 : AllNe nb ((hc, oc) :: rest)) (l6 : AllNe hc rest)
    (hI : IntsAre vs.toList ns) (hU : IntsAre us.toList ns) (hY : IntsAre ys ms) (hn : ns.Nodup) (hn3 : ns.length ≤ 3) (hn9 : ∀ y ∈ ns, y ≤ 9) (hne : ns ≠ []) (hm12 : ms.length ≤ 12) (hms : ∀ y ∈ ms, 0 ≤ y) (hhv : 0 ≤ hv)
    (hE : PassesOwn (model PySem.Challenge.rw_aq6060_01.row.prog w) (ktrTop dp un gd cn (scopeOf (hd.heap_39 w.params) 98) L fa ccd [(Str.ofString "head", hc)] []) (envX cn (scopeOf (hd.heap_39 w.params) 98) L fa ccd [(Str.ofString "head", hc)]) E)
    (ret : ∀ m' h' tk', Fr h₀ L h' m' → Q (.ret (.bool true)) { s with heap := h', toks := tk' }) :
    wpAny (model PySem.Challenge.rw_aq6060_01.row.prog w) (ktrTop dp un gd cn (scopeOf (hd.heap_39 w.params) 98) L fa ccd [(Str.ofString "head", hc)] [])
      (execs ((bodyOf (hd.heap_39 w.params) 98).drop 4) (envX cn (scopeOf (hd.heap_39 w.params) 98) L fa ccd [(Str.ofString "head", hc)])) Q E s := by
  refine' rest_of' (A := fun sc => ktrTop dp un gd cn sc L fa ccd [(Str.ofString "head", hc)] []) (en := fun sc => envX cn sc L fa ccd [(Str.ofString "head", hc)]) hE ?ho ?h
  case ho => k_is
  case h =>
    intro back hE
    dsimp only [List.drop] at back ⊢
    have F := fr_as F (map_three hm1 hm2 hm3)
    have hvz := ia_size hI
    (repeat' ((fail_if_success (with_reducible show Stop _)); first | (k_unfold; (try dsimp only)) | (k_end; wrow_close) | walk1 | (dsimp only; walk1) | (leave1; try dsimp only) | fail "no step"))
    · exfalso
      rename (_ != _) = true => a9
      simp [hne] at a9
    rename News _ _ _ _ => kN
    have N2 := news_sub kN ((x, subObj 68 dx vs n) :: (dx, attrD w.params t1 t2 false D 2) :: (l0, W.listOf us ku) :: (nb, LCg.lst ys) :: (hc, oc) :: rest) (by (intro p hp; simp only [List.mem_cons] at hp ⊢; grind))
    clear kN
    (refine ⟨?_⟩; k_dflt (refine' (contains_dirty (rest := (l0, W.listOf us ku) :: (nb, LCg.lst ys) :: (hc, oc) :: rest) (D := D) (dx := dx) (k := 2) (vs := vs) (n := n) (ns := ns)) ?cB_32 ?cF_32 ?cX_32 ?cT_32 ?chk_32 ?chdp_32 ?chun_32 ?cN_32 (Ne.symm l2.1) (allNe_all l3) hI (by omega) hn ?_; (case cB_32 => k_asm); (case cF_32 => k_asm); (case cX_32 => k_asm); (case cT_32 => k_asm); (case cN_32 => k_asm); (case chk_32 => exact rfl); (case chdp_32 => show (dp + 4) < recursionLimit; omega); (case chun_32 => show (un + 110) < cLine; omega)))
    intro D7 o7 f7 h7 tk7 F7 N7 M7 J7 lo7 lD7
    refine ⟨(f7 3).isSome, rfl, ?_⟩
    have e37 : (f7 3).isSome = decide (3 ∈ ns) := idx_some J7 3
    rw [e37]
    (repeat' ((fail_if_success (with_reducible show Stop _)); first | (k_unfold; (try dsimp only)) | (k_end; wrow_close) | walk1 | (dsimp only; walk1) | (leave1; try dsimp only) | fail "no step"))
    · exfalso
      rename (_ != _) = true => a9
      simp [any_mem] at a9
    refine ⟨?_⟩
    rename Fr _ _ _ _ => kF
    rename News _ _ _ _ => kN
    exact back 6 _ (mid_law XB TB B kF X T hdp hun kN hoc M7 J7 lo7 rfl rfl rfl ⟨Nat.ne_of_lt lD7.1, Nat.ne_of_lt lD7.2.1, allNe_of (allLt_ne lD7.2.2)⟩ l2 l3 l4 l5 l6 hI hU hY hn hn3 hn9 hm12 hms hhv hE (fun m' h' tk' F' => ret m' h' tk' F'))

theorem chk_none {x dx D l0 nb hc : Addr} {oc : Obj} {ys : List Value} {ku : Nat} {t1 t2 th : Tok} {hv : Int} {ms : List Int} {rest : List (Addr × Obj)}
    (XB : (hd.heap_39 w.params).In base) (TB : Top p loose mean mg mb base) (B : Below A₀ base [] h₀) (F : Fr h₀ L s.heap m) (X : (hd.heap_39 w.params).In h₀) (T : Top p loose mean mg mb h₀) (hdp : dp + 20 < recursionLimit) (hun : un + 200 < cLine)
    (N : News h₀ L s.heap ((D, dictOf [] 0) :: (x, subObj 68 dx #[] 0) :: (dx, attrD w.params t1 t2 true D 2) :: (l0, W.listOf #[] ku) :: (nb, LCg.lst ys) :: (hc, oc) :: rest)) (hoc : oc.data = .cell (some (.int hv th)))
    (hm1 : m (Str.ofString "many") = some (.ref x)) (hm2 : m (Str.ofString "model") = some (.ref l0)) (hm3 : m (Str.ofString "numbers") = some (.ref nb)) (hD : (D == sysModules) = false)
    (l1 : AllNe D ((x, subObj 68 dx #[] 0) :: (dx, attrD w.params t1 t2 true D 2) :: (l0, W.listOf #[] ku) :: (nb, LCg.lst ys) :: (hc, oc) :: rest))
    (l2 : AllNe x ((dx, attrD w.params t1 t2 true D 2) :: (l0, W.listOf #[] ku) :: (nb, LCg.lst ys) :: (hc, oc) :: rest)) (l3 : AllNe dx ((l0, W.listOf #[] ku) :: (nb, LCg.lst ys) :: (hc, oc) :: rest))
    (l4 : AllNe l0 ((nb, LCg.lst ys) :: (hc, oc) :: rest)) (l5 : AllNe nb ((hc, oc) :: rest)) (l6 : AllNe hc rest)
    (hY : IntsAre ys ms) (hm12 : ms.length ≤ 12) (hms : ∀ y ∈ ms, 0 ≤ y) (hhv : 0 ≤ hv)
    (hE : PassesOwn (model PySem.Challenge.rw_aq6060_01.row.prog w) (ktrTop dp un gd cn (scopeOf (hd.heap_39 w.params) 98) L fa ccd [(Str.ofString "head", hc)] []) (envX cn (scopeOf (hd.heap_39 w.params) 98) L fa ccd [(Str.ofString "head", hc)]) E)
    (ret : ∀ m' h' tk', Fr h₀ L h' m' → Q (.ret (.bool true)) { s with heap := h', toks := tk' }) :
    wpAny (model PySem.Challenge.rw_aq6060_01.row.prog w) (ktrTop dp un gd cn (scopeOf (hd.heap_39 w.params) 98) L fa ccd [(Str.ofString "head", hc)] [])
      (execs ((bodyOf (hd.heap_39 w.params) 98).drop 4) (envX cn (scopeOf (hd.heap_39 w.params) 98) L fa ccd [(Str.ofString "head", hc)])) Q E s := by
  refine' rest_of' (A := fun sc => ktrTop dp un gd cn sc L fa ccd [(Str.ofString "head", hc)] []) (en := fun sc => envX cn sc L fa ccd [(Str.ofString "head", hc)]) hE ?ho ?h
  case ho => k_is
  case h =>
    intro back hE
    dsimp only [List.drop] at back ⊢
    have F := fr_as F (map_three hm1 hm2 hm3)
    have hvz : (#[] : Array Value).size = 0 := rfl
    have hM := DM.nil PySem.Challenge.rw_aq6060_01.row.prog w 0
    have hI0 : IntsAre (#[] : Array Value).toList [] := .nil
    have lDD := l1
    (repeat' ((fail_if_success (with_reducible show Stop _)); first | (k_unfold; (try dsimp only)) | (k_end; wrow_close) | walk1 | (dsimp only; walk1) | (leave1; try dsimp only) | fail "no step"))
    rename News _ _ _ _ => kN
    have N2 := news_sub kN ((D, dictOf [] 0) :: (x, subObj 68 dx #[] 0) :: (dx, attrD w.params t1 t2 true D 2) :: (l0, W.listOf #[] ku) :: (nb, LCg.lst ys) :: (hc, oc) :: rest) (by (intro p hp; simp only [List.mem_cons] at hp ⊢; grind))
    clear kN
    (refine ⟨?_⟩; k_dflt (refine' (contains_spec (rest := (l0, W.listOf #[] ku) :: (nb, LCg.lst ys) :: (hc, oc) :: rest) (D := D) (dx := dx) (k := 2) (vs := #[]) (n := 0)) ?cB_33 ?cF_33 ?cX_33 ?cT_33 ?chk_33 ?chdp_33 ?chun_33 ?cN_33 hM hD ?_; (case cB_33 => k_asm); (case cF_33 => k_asm); (case cX_33 => k_asm); (case cT_33 => k_asm); (case cN_33 => k_asm); (case chk_33 => exact rfl); (case chdp_33 => show (dp + 4) < recursionLimit; omega); (case chun_33 => show (un + 110) < cLine; omega)))
    intro h7 tk7 F7 N7
    refine ⟨false, rfl, ?_⟩
    (repeat' ((fail_if_success (with_reducible show Stop _)); first | (k_unfold; (try dsimp only)) | (k_end; wrow_close) | walk1 | (dsimp only; walk1) | (leave1; try dsimp only) | fail "no step"))
    refine ⟨?_⟩
    rename Fr _ _ _ _ => kF
    rename News _ _ _ _ => kN
    exact back 6 _ (mid_law (ns := []) XB TB B kF X T hdp hun kN hoc hM Idx.nil hD rfl rfl rfl lDD l2 l3 l4 l5 l6 .nil .nil hY List.nodup_nil (Nat.zero_le _) (fun y h => by cases h) hm12 hms hhv hE (fun m' h' tk' F' => ret m' h' tk' F'))

theorem pre_dirty {x dx D l0 nb hc : Addr} {oc : Obj} {vs us : Array Value} {ys : List Value} {n ku : Nat} {t1 t2 th : Tok} {hv : Int} {ns ms : List Int} {news : List (Addr × Obj)}
    (XB : (hd.heap_39 w.params).In base) (TB : Top p loose mean mg mb base) (B : Below A₀ base [] h₀) (F : Fr h₀ L s.heap m) (X : (hd.heap_39 w.params).In h₀) (T : Top p loose mean mg mb h₀) (hdp : dp + 20 < recursionLimit) (hun : un + 200 < cLine)
    (N : News h₀ L s.heap ((x, subObj 68 dx vs n) :: (dx, attrD w.params t1 t2 false D 2) :: news)) (ml : (l0, W.listOf us ku) ∈ news) (mn : (nb, LCg.lst ys) ∈ news) (mh : (hc, oc) ∈ news) (hoc : oc.data = .cell (some (.int hv th)))
    (hm1 : m (Str.ofString "many") = some (.ref x)) (hm2 : m (Str.ofString "model") = some (.ref l0)) (hm3 : m (Str.ofString "numbers") = some (.ref nb))
    (lt : ∀ p ∈ news, p.1 < dx) (e : x = dx + 1) (g1 : @LT.lt Nat _ nb l0) (g2 : @LT.lt Nat _ hc l0) (k1 : @Ne Nat hc nb)
    (hI : IntsAre vs.toList ns) (hU : IntsAre us.toList ns) (hY : IntsAre ys ms) (hn : ns.Nodup) (hn3 : ns.length ≤ 3) (hn9 : ∀ y ∈ ns, y ≤ 9) (hne : ns ≠ []) (hm12 : ms.length ≤ 12) (hms : ∀ y ∈ ms, 0 ≤ y) (hhv : 0 ≤ hv)
    (hE : PassesOwn (model PySem.Challenge.rw_aq6060_01.row.prog w) (ktrTop dp un gd cn (scopeOf (hd.heap_39 w.params) 98) L fa ccd [(Str.ofString "head", hc)] []) (envX cn (scopeOf (hd.heap_39 w.params) 98) L fa ccd [(Str.ofString "head", hc)]) E)
    (ret : ∀ m' h' tk', Fr h₀ L h' m' → Q (.ret (.bool true)) { s with heap := h', toks := tk' }) :
    wpAny (model PySem.Challenge.rw_aq6060_01.row.prog w) (ktrTop dp un gd cn (scopeOf (hd.heap_39 w.params) 98) L fa ccd [(Str.ofString "head", hc)] [])
      (execs ((bodyOf (hd.heap_39 w.params) 98).drop 4) (envX cn (scopeOf (hd.heap_39 w.params) 98) L fa ccd [(Str.ofString "head", hc)])) Q E s := by
  have a1 : @LT.lt Nat _ l0 dx := lt _ ml
  have a2 : @LT.lt Nat _ nb dx := lt _ mn
  have a3 : @LT.lt Nat _ hc dx := lt _ mh
  replace e : @Eq Nat x (dx + 1) := e
  have b0 : @Ne Nat dx x := by omega
  have b1 : @Ne Nat l0 x := by omega
  have b2 : @Ne Nat nb x := by omega
  have b3 : @Ne Nat hc x := by omega
  exact chk_dirty (rest := []) XB TB B F X T hdp hun (news_sub N _ (by
    intro p hp
    simp only [List.mem_cons, List.not_mem_nil, or_false] at hp
    rcases hp with h | h | h | h | h
    · rw [h]; exact .head _
    · rw [h]; exact .tail _ (.head _)
    · rw [h]; exact .tail _ (.tail _ ml)
    · rw [h]; exact .tail _ (.tail _ mn)
    · rw [h]; exact .tail _ (.tail _ mh))) hoc hm1 hm2 hm3 ⟨b0, b1, b2, b3, trivial⟩ ⟨Nat.ne_of_lt a1, Nat.ne_of_lt a2, Nat.ne_of_lt a3, trivial⟩ ⟨Nat.ne_of_lt g1, Nat.ne_of_lt g2, trivial⟩ ⟨k1, trivial⟩ trivial hI hU hY hn hn3 hn9 hne hm12 hms hhv hE ret

theorem pre_none {x dx D l0 nb hc : Addr} {oc : Obj} {ys : List Value} {ku : Nat} {t1 t2 th : Tok} {hv : Int} {ms : List Int} {news : List (Addr × Obj)}
    (XB : (hd.heap_39 w.params).In base) (TB : Top p loose mean mg mb base) (B : Below A₀ base [] h₀) (F : Fr h₀ L s.heap m) (X : (hd.heap_39 w.params).In h₀) (T : Top p loose mean mg mb h₀) (hdp : dp + 20 < recursionLimit) (hun : un + 200 < cLine)
    (N : News h₀ L s.heap ((D, dictOf [] 0) :: (x, subObj 68 dx #[] 0) :: (dx, attrD w.params t1 t2 true D 2) :: news)) (ml : (l0, W.listOf #[] ku) ∈ news) (mn : (nb, LCg.lst ys) ∈ news) (mh : (hc, oc) ∈ news) (hoc : oc.data = .cell (some (.int hv th)))
    (hm1 : m (Str.ofString "many") = some (.ref x)) (hm2 : m (Str.ofString "model") = some (.ref l0)) (hm3 : m (Str.ofString "numbers") = some (.ref nb)) (hD : (D == sysModules) = false)
    (lt : ∀ p ∈ news, p.1 < dx) (e : x = dx + 1) (lD : @LT.lt Nat _ x D) (g1 : @LT.lt Nat _ nb l0) (g2 : @LT.lt Nat _ hc l0) (k1 : @Ne Nat hc nb)
    (hY : IntsAre ys ms) (hm12 : ms.length ≤ 12) (hms : ∀ y ∈ ms, 0 ≤ y) (hhv : 0 ≤ hv)
    (hE : PassesOwn (model PySem.Challenge.rw_aq6060_01.row.prog w) (ktrTop dp un gd cn (scopeOf (hd.heap_39 w.params) 98) L fa ccd [(Str.ofString "head", hc)] []) (envX cn (scopeOf (hd.heap_39 w.params) 98) L fa ccd [(Str.ofString "head", hc)]) E)
    (ret : ∀ m' h' tk', Fr h₀ L h' m' → Q (.ret (.bool true)) { s with heap := h', toks := tk' }) :
    wpAny (model PySem.Challenge.rw_aq6060_01.row.prog w) (ktrTop dp un gd cn (scopeOf (hd.heap_39 w.params) 98) L fa ccd [(Str.ofString "head", hc)] [])
      (execs ((bodyOf (hd.heap_39 w.params) 98).drop 4) (envX cn (scopeOf (hd.heap_39 w.params) 98) L fa ccd [(Str.ofString "head", hc)])) Q E s := by
  have a1 : @LT.lt Nat _ l0 dx := lt _ ml
  have a2 : @LT.lt Nat _ nb dx := lt _ mn
  have a3 : @LT.lt Nat _ hc dx := lt _ mh
  replace e : @Eq Nat x (dx + 1) := e
  have b0 : @Ne Nat dx x := by omega
  have b1 : @Ne Nat l0 x := by omega
  have b2 : @Ne Nat nb x := by omega
  have b3 : @Ne Nat hc x := by omega
  have c0 : @Ne Nat dx D := by omega
  have c1 : @Ne Nat l0 D := by omega
  have c2 : @Ne Nat nb D := by omega
  have c3 : @Ne Nat hc D := by omega
  exact chk_none (rest := []) XB TB B F X T hdp hun (news_sub N _ (by
    intro p hp
    simp only [List.mem_cons, List.not_mem_nil, or_false] at hp
    rcases hp with h | h | h | h | h | h
    · rw [h]; exact .head _
    · rw [h]; exact .tail _ (.head _)
    · rw [h]; exact .tail _ (.tail _ (.head _))
    · rw [h]; exact .tail _ (.tail _ (.tail _ ml))
    · rw [h]; exact .tail _ (.tail _ (.tail _ mn))
    · rw [h]; exact .tail _ (.tail _ (.tail _ mh)))) hoc hm1 hm2 hm3 hD ⟨Nat.ne_of_lt lD, c0, c1, c2, c3, trivial⟩ ⟨b0, b1, b2, b3, trivial⟩ ⟨Nat.ne_of_lt a1, Nat.ne_of_lt a2, Nat.ne_of_lt a3, trivial⟩ ⟨Nat.ne_of_lt g1, Nat.ne_of_lt g2, trivial⟩ ⟨k1, trivial⟩ trivial hY hm12 hms hhv hE ret
end
end Mine
end PF1

section PF2
namespace Mine
theorem top_off_F2 : True := by
  w_top off
  trivial
end Mine
set_option maxRecDepth 100000
set_option maxHeartbeats 8000000
namespace Mine
local macro_rules | `(tactic| k_inst) => `(tactic| (refine' inst_of_news ?N ?h1 ?h2; (case N => k_asm); (case h1 => k_mem); (case h2 => k_mem)))
local macro_rules | `(tactic| k_all) => `(tactic| first | assumption | exact allNe_all (by assumption) | exact allLt_ne (by assumption) | exact allLt_ne (And.right (by assumption)) | exact allLt_ne (And.right (And.right (by assumption))) | exact allLt_ne (And.right (And.right (And.right (by assumption)))) | exact allLt_ne (And.right (And.right (And.right (And.right (by assumption))))))
local macro_rules | `(tactic| walk_at "setAttr ref") => `(tactic| (k_here; k_dflt (refine' setL_dict ?k1 ?k2 ?k3 ?k4 ?k5 ?k6 ?k7 ?k8 ?k9 ?k10 ?k11 ?k12 ?k13 ?_; (case k1 => k_asm); (case k2 => k_asm); (case k3 => k_asm); (case k4 => k_inst); (case k5 => exact rfl); (case k6 => k_is); (case k7 => exact mroC _); (case k8 => k_is); (case k9 => k_is); (case k10 => k_get); (case k11 => k_put); (case k12 => k_upd); (case k13 => exact Nat.le_of_ble_eq_true rfl); k_whole; intro h' F' N'; (try k_sweep))))
local macro_rules | `(tactic| walk_at "setAttr ref") => `(tactic| (k_here; (first | ((with_reducible show wpAny _ _ (setAttr (Value.ref _) (Str.ofString "_dict") _) _ _ _); k_dflt (refine' set_d ?k1 ?k2 ?k3 ?k4 ?k5 ?k6 ?k7 ?k8 ?k9 ?_)) | ((with_reducible show wpAny _ _ (setAttr (Value.ref _) (Str.ofString "clean") _) _ _ _); k_dflt (refine' set_c ?k1 ?k2 ?k3 ?k4 ?k5 ?k6 ?k7 ?k8 ?k9 ?_))); (case k1 => k_asm); (case k2 => k_asm); (case k3 => k_asm); (case k4 => k_mem); (case k5 => k_dflt k_is); (case k6 => exact mroC _); (case k7 => k_dflt k_is); (case k8 => k_dflt k_is); (case k9 => k_dflt k_upd); k_whole; intro h' F' N'; (try k_sweep)))
local macro_rules | `(tactic| walk_at "eval Dict nil nil") => `(tactic| (k_here; k_dflt (refine' new_dictK ?k1 ?k2 (TopRead.nolimit (by k_asm)) ?_; (case k1 => k_asm); (case k2 => k_asm); k_whole); intro d' h' F' N' l1 lo'; (try k_lt l1); (try k_sweep)))
local macro_rules | `(tactic| walk_at "exec For Name Name cons nil") => `(tactic| (refine Stop.out ?_))
local macro_rules | `(tactic| walk_at "exec For Name Call cons nil") => `(tactic| (refine Stop.out ?_))
local macro_rules | `(tactic| walk_at "exec For Tuple Call cons nil") => `(tactic| (refine Stop.out ?_))
local macro_rules | `(tactic| walk_at "pyIter ref") => `(tactic| ((with_reducible show wpAny _ _ (pyIter (Value.ref _)) (fun it s₂ => LoopAtV _ _ _ _ _ _ _ _ _ it s₂) _ _); refine Stop.out ?_))
local macro_rules | `(tactic| walk_at "compareOp NotIn int ref") => `(tactic| (k_here; k_dflt ((first | refine' dm_notin_t ?k1 ?k2 ?k3 ?k4 ?k5 ?_; (case k1 => k_asm); (case k2 => k_mem); (case k3 => assumption); (case k4 => assumption); (case k5 => assumption) | refine' dm_notin_f ?k1 ?k2 ?k3 ?k4 ?k5 ?_; (case k1 => k_asm); (case k2 => k_mem); (case k3 => assumption); (case k4 => assumption); (case k5 => assumption)))))
local macro_rules | `(tactic| walk_at "compareOp In int ref") => `(tactic| (k_here; k_dflt ((first | refine' dm_in_t ?k1 ?k2 ?k3 ?k4 ?k5 ?_; (case k1 => k_asm); (case k2 => k_mem); (case k3 => assumption); (case k4 => assumption); (case k5 => assumption) | refine' dm_in_f ?k1 ?k2 ?k3 ?k4 ?k5 ?_; (case k1 => k_asm); (case k2 => k_mem); (case k3 => assumption); (case k4 => assumption); (case k5 => assumption)))))
local macro_rules | `(tactic| walk_at "setItem ref int") => `(tactic| (k_here; k_dflt (refine' dm_set ?k1 ?k2 ?k3 ?k4 ?k5 ?_; (case k1 => k_asm); (case k2 => k_asm); (case k3 => k_updF); (case k4 => assumption); (case k5 => omega); k_whole); intro o' h' F' N' x'; (try dsimp only at N'); (try k_sweep)))
local macro_rules | `(tactic| walk_at "getAttr ref") => `(tactic| (k_here; (first | ((with_reducible show wpAny _ _ (getAttr (Value.ref _) (Str.ofString "_dict") _) _ _ _); k_dflt (refine' getA_d ?k1 ?k2 ?k3 ?k4 ?k5 ?k6 ?k7 ?k8 ?k9 ?k10 ?k11 ?_)) | ((with_reducible show wpAny _ _ (getAttr (Value.ref _) (Str.ofString "clean") _) _ _ _); k_dflt (refine' getA_c ?k1 ?k2 ?k3 ?k4 ?k5 ?k6 ?k7 ?k8 ?k9 ?k10 ?k11 ?_))); (case k1 => k_asm); (case k2 => k_asm); (case k3 => k_asm); (case k4 => k_mem); (case k5 => k_mem); (case k6 => exact mroC _); (case k7 => k_dflt k_is); (case k8 => k_dflt k_is); (case k9 => k_dflt k_is); (case k10 => k_dflt k_is); (case k11 => k_dflt k_is); k_whole))
local macro_rules | `(tactic| walk_at "getMethod ref") => `(tactic| (k_here; k_dflt (refine' methA ?k1 ?k2 ?k3 ?k4 ?k5 ?k6 ?k7 ?k8 ?k9 ?k10 ?k11 ?_; (case k1 => k_asm); (case k2 => k_asm); (case k3 => k_asm); (case k4 => k_mem); (case k5 => k_mem); (case k6 => k_is); (case k7 => k_is); (case k8 => k_is); (case k9 => k_is); (case k10 => decide); (case k11 => k_get); k_whole)))
local macro_rules | `(tactic| walk_at "compareOp In int ref") => `(tactic| (k_here; k_dflt (refine' in_own ?k1 ?k2 ?k3 ?k4 ?k5 ?k6 ?_; (case k1 => k_asm); (case k2 => k_asm); (case k3 => k_asm); (case k4 => k_mem); (case k5 => k_is); (case k6 => k_is); k_whole)))
local macro_rules | `(tactic| walk_at "compareOp NotIn int ref") => `(tactic| (k_here; k_dflt (refine' notin_own ?k1 ?k2 ?k3 ?k4 ?k5 ?k6 ?_; (case k1 => k_asm); (case k2 => k_asm); (case k3 => k_asm); (case k4 => k_mem); (case k5 => k_is); (case k6 => k_is); k_whole)))
local macro_rules | `(tactic| walk_at "compareOp In int ref") => `(tactic| (k_here; k_dflt (refine' dm_in ?k1 ?k2 ?k3 ?k4 ?_; (case k1 => k_asm); (case k2 => k_mem); (case k3 => assumption); (case k4 => assumption))))
local macro_rules | `(tactic| walk_at "compareOp In int ref") => `(tactic| (k_here; k_dflt (first | refine' dm_in_t ?k1 ?k2 ?k3 ?k4 ?k5 ?_; (case k1 => k_asm); (case k2 => k_mem); (case k3 => assumption); (case k4 => assumption); (case k5 => assumption) | refine' dm_in_f ?k1 ?k2 ?k3 ?k4 ?k5 ?_; (case k1 => k_asm); (case k2 => k_mem); (case k3 => assumption); (case k4 => assumption); (case k5 => assumption))))
local macro_rules | `(tactic| walk_at "compareOp NotIn int ref") => `(tactic| (k_here; k_dflt (first | refine' dm_notin_t ?k1 ?k2 ?k3 ?k4 ?k5 ?_; (case k1 => k_asm); (case k2 => k_mem); (case k3 => assumption); (case k4 => assumption); (case k5 => assumption) | refine' dm_notin_f ?k1 ?k2 ?k3 ?k4 ?k5 ?_; (case k1 => k_asm); (case k2 => k_mem); (case k3 => assumption); (case k4 => assumption); (case k5 => assumption))))
local macro_rules | `(tactic| walk_at "subscriptTail") => `(tactic| (k_here; (with_reducible show wpAny _ _ (subscriptTail _ _ (Value.ref _) (Value.int _ _)) _ _ _); k_dflt (refine' dm_tail ?k1 ?k2 ?k3 ?k4 ?_; (case k1 => k_asm); (case k2 => k_mem); (case k3 => assumption); (case k4 => assumption))))
local macro_rules | `(tactic| walk_at "call ref") => `(tactic| ((first | (with_reducible show wpAny _ _ (call (Value.ref 37) _) _ _ _) | (with_reducible show wpAny _ _ (call (Value.ref 44) _) _ _ _) | (with_reducible show wpAny _ _ (call (Value.ref 51) _) _ _ _) | (with_reducible show wpAny _ _ (call (Value.ref 58) _) _ _ _) | (with_reducible show wpAny _ _ (call (Value.ref 65) _) _ _ _) | (with_reducible show wpAny _ _ (call (Value.ref 68) _) _ _ _) | (with_reducible show wpAny _ _ (call (Value.ref 79) _) _ _ _) | (with_reducible show wpAny _ _ (call (Value.ref 86) _) _ _ _) | (with_reducible show wpAny _ _ (call (Value.ref 93) _) _ _ _)); refine Stop.out ?_))
local macro_rules | `(tactic| walk_at "call builtin:len") => `(tactic| (k_here; (with_reducible show wpAny _ _ (call (Value.builtin "len") [Value.ref _]) _ _ _); k_dflt (refine' ll_len ?Y ?N ?hx ?hz ?_; (case N => k_asm); (case hx => k_mem); (case Y => (first | exact ll_own (by k_asm) (by k_asm) (by k_asm) (by k_mem) (mroC _) (by k_is) (by k_is) (by k_is) (by k_is) | exact ll_list (by k_asm) (by k_mem))); (case hz => first | omega | (simp only [Array.size_push]; omega)))))
local macro_rules | `(tactic| walk_at "call builtin:list.append") => `(tactic| (k_here; (with_reducible show wpAny _ _ (call (Value.builtin _) [Value.ref _, _]) _ _ _); k_dflt (refine' l_append ?F ?N ?hi ?U ?hz ?_; (case F => k_asm); (case N => k_asm); (case U => (intro k'; k_upd)); (case hi => first | exact is_news (by k_asm) (by k_asm) (by k_asm) (by k_mem) (mroC _) | exact is_list (by k_asm) (by k_mem)); (case hz => first | omega | (simp only [Array.size_push]; omega)); k_whole); intro k' h' F' N'; (try dsimp only at N'); (try k_sweep)))
local macro_rules | `(tactic| walk_at "getMethod type:list") => `(tactic| (k_here; refine' method_type ?F ?X ?m (by decide +kernel) ?e ?h ?_; (case F => k_asm); (case X => k_asm); (case m => exact meta_of_list); (case e => k_dflt k_is); (case h => k_handed)))
local macro_rules | `(tactic| walk_at "call type:enumerate") => `(tactic| (refine Stop.out ?_))
local macro_rules | `(tactic| ktr_enter) => `(tactic| (refine' code_def ?k1 ?k2 ?k3 ?k4 ?k5 ?kA ?kF ?kK ?k6 ?k7 ?k8 ?k9 ?kB ?_ ?c2 ?c3 ?c4 ?c5; (case kA => exact rfl); (case kF => exact rfl); (case kK => first | assumption | exact rfl); (case k1 => k_asm); (case k2 => k_asm); (case k3 => k_asm); (case k4 => k_asm); (case k5 => k_asm); (case k6 => k_is); (case k7 => k_is); (case k8 => ktr_room); (case k9 => first | exact BindsTo.of_eq rfl | exact binds_K (by k_in) rfl (by k_is) rfl rfl rfl); (case c5 => decide); (case kB => exact locs rfl); (case c2 => exact rfl); (case c3 => exact rfl); (case c4 => exact rfl); k_whole; intro g' L' h' FG' F' N' B' X' T'; (try dsimp only); (try k_fold)))
local macro_rules | `(tactic| walk_at "call type:list") => `(tactic| (k_here; (with_reducible show wpAny _ _ (call (Value.type "list") [Value.ref _]) _ _ _); k_dflt (refine' l_copy ?hh ?F ?X ?N ?hx ?hz (mroC _) ?h0 ?h1 ?h2 ?h3 ?h4 ?_; (case hh => exact rfl); (case F => k_asm); (case X => k_asm); (case N => k_asm); (case hx => k_mem); (case hz => omega); (case h0 => k_is); (case h1 => k_is); (case h2 => k_is); (case h3 => k_is); (case h4 => k_is); k_whole); intro l9 k9 h' tk9 F' N' lt9; (try k_sweep)))
local macro_rules | `(tactic| walk_at "subscriptTail") => `(tactic| (k_here; (with_reducible show wpAny _ _ (subscriptTail _ _ (Value.ref _) (Value.int _ _)) _ _ _); k_dflt (refine' li_tail ?k1 ?k2 ?k3 ?k4 ?_; (case k1 => k_asm); (case k2 => k_mem); (case k3 => assumption); (case k4 => omega))))
local macro_rules | `(tactic| walk_at "exec Raise some none") => `(tactic| (k_here; (with_reducible show wpAny _ _ (exec (Stmt.Raise (some (Expr.Name ("ValueError" : Str) _)) none _) _) _ _ _); (with_reducible rename Fr _ _ _ _ => kF); k_dflt (refine' raise_VE ?hh ?hs ?hx ?_; (case hh => rfl); (case hs => rw [isSubtype_type]; kernel_rfl); (case hx => (refine' name_B kF ?k1 ?k2 ?k3 ?k4 ?k5 ?_; (case k1 => k_asm); (case k2 => k_asm); (case k3 => k_is); (case k4 => boot_by_name); (case k5 => decide); exact ⟨rfl, rfl⟩)))))
local macro_rules | `(tactic| walk_at "my ask") => `(tactic| ((refine' code_ask ?k1 ?k2 ?k3 ?k4 ?k5 ?kA ?kF ?cK ?k6 ?k7 ?k8 ?k9 ?kB ?_ ?c2 ?c3 ?c4 ?c5; (case kA => exact rfl); (case kF => exact rfl); (case k2 => k_asm); (case k1 => k_asm); (case k3 => k_asm); (case k4 => k_asm); (case k5 => k_asm); (case k6 => k_is); (case k7 => k_is); (case k8 => ktr_room); (case k9 => first | exact BindsTo.of_eq rfl | exact binds_K (by k_in) rfl (by k_is) rfl rfl rfl); (case kB => exact locs rfl); (case cK => first | assumption | exact rfl); (case c2 => exact rfl); (case c3 => exact rfl); (case c4 => exact rfl); (case c5 => decide); k_whole; intro g' L' h' FG' F' N' B' X' T' D'; (try dsimp only); (try k_lift B'); (try k_fold))))
local macro_rules | `(tactic| walk_at "call builtin:list.insert") => `(tactic| (k_here; (with_reducible show wpAny _ _ (call (Value.builtin _) [Value.ref _, Value.int _ _, _]) _ _ _); k_dflt (refine' l_insert ?F ?N ?hi ?U ?hz ?h0 ?hn ?_; (case F => k_asm); (case N => k_asm); (case U => (intro k'; k_upd)); (case hi => (first | exact is_news (by k_asm) (by k_asm) (by k_asm) (by k_mem) (mroC _) | exact is_list (by k_asm) (by k_mem))); (case hz => omega); (case h0 => omega); (case hn => omega); k_whole); intro k' h' F' N'; (try dsimp only at N'); (try k_sweep)))
local macro_rules | `(tactic| walk_at "call builtin:list.extend") => `(tactic| (k_here; (with_reducible show wpAny _ _ (call (Value.builtin _) [Value.ref _, Value.ref _]) _ _ _); k_dflt (refine' l_extend ?F ?N ?hi ?hb ?U ?hz ?_; (case F => k_asm); (case N => k_asm); (case hb => k_mem); (case U => (intro k'; k_upd)); (case hi => (first | exact is_news (by k_asm) (by k_asm) (by k_asm) (by k_mem) (mroC _) | exact is_list (by k_asm) (by k_mem))); (case hz => (first | omega | (simp only [List.size_toArray, List.length_cons, List.length_nil]; omega))); k_whole); intro k' h' F' N'; (try dsimp only at N'); (try k_sweep)))
local macro_rules | `(tactic| walk_at "call builtin:list.reverse") => `(tactic| (k_here; (with_reducible show wpAny _ _ (call (Value.builtin _) [Value.ref _]) _ _ _); k_dflt (refine' l_reverse ?F ?N ?hi ?U ?hz ?_; (case F => k_asm); (case N => k_asm); (case U => (intro k'; k_upd)); (case hi => (first | exact is_news (by k_asm) (by k_asm) (by k_asm) (by k_mem) (mroC _) | exact is_list (by k_asm) (by k_mem))); (case hz => omega); k_whole); intro k' h' F' N'; (try dsimp only at N'); (try k_sweep)))
local macro_rules | `(tactic| walk_at "call builtin:list.sort") => `(tactic| (k_here; (with_reducible show wpAny _ _ (call (Value.builtin _) [Value.ref _]) _ _ _); k_dflt (refine' l_sort ?F ?N ?hi ?U ?hI ?h64 ?_; (case F => k_asm); (case N => k_asm); (case U => k_updF); (case hi => (first | exact is_news (by k_asm) (by k_asm) (by k_asm) (by k_mem) (mroC _) | exact is_list (by k_asm) (by k_mem))); (case hI => assumption); (case h64 => omega); k_whole); intro out ns' k' h' iI iP iS F' N'; (try dsimp only at N'); (try k_sweep)))
local macro_rules | `(tactic| walk_at "call builtin:list.pop") => `(tactic| (k_here; (with_reducible show wpAny _ _ (call (Value.builtin _) [Value.ref _, Value.int _ _]) _ _ _); k_dflt (refine' l_pop ?F ?N ?hi ?U ?hz ?h0 ?hv ?_; (case F => k_asm); (case N => k_asm); (case U => (intro k'; k_upd)); (case hi => (first | exact is_news (by k_asm) (by k_asm) (by k_asm) (by k_mem) (mroC _) | exact is_list (by k_asm) (by k_mem))); (case hz => omega); (case h0 => omega); (case hv => assumption); k_whole); intro k' h' F' N'; (try dsimp only at N'); (try k_sweep)))
local macro_rules | `(tactic| walk_at "call builtin:list.remove") => `(tactic| (k_here; (with_reducible show wpAny _ _ (call (Value.builtin _) [Value.ref _, Value.int _ _]) _ _ _); k_dflt (refine' l_remove ?F ?N ?hi ?U ?hz ?hI ?hj ?hno ?_; (case F => k_asm); (case N => k_asm); (case U => (intro k'; k_upd)); (case hI => assumption); (case hj => assumption); (case hno => assumption); (case hi => (first | exact is_news (by k_asm) (by k_asm) (by k_asm) (by k_mem) (mroC _) | exact is_list (by k_asm) (by k_mem))); (case hz => omega); k_whole); intro k' h' F' N'; (try dsimp only at N'); (try k_sweep)))
local macro_rules | `(tactic| walk_at "delItem ref int") => `(tactic| (k_here; k_dflt (refine' ll_del ?Y ?F ?N ?U ?hz ?h0 ?hn ?_; (case F => k_asm); (case N => k_asm); (case U => (intro k'; k_upd)); (case Y => (first | exact ll_own (by k_asm) (by k_asm) (by k_asm) (by k_mem) (mroC _) (by k_is) (by k_is) (by k_is) (by k_is) | exact ll_list (by k_asm) (by k_mem))); (case hz => omega); (case h0 => omega); (case hn => omega); k_whole); intro k' h' F' N'; (try dsimp only at N'); (try k_sweep)))
local macro_rules | `(tactic| walk_at "setItem ref ref") => `(tactic| (k_here; k_dflt (refine' set_slice_p ?F ?N ?he ?hs ?hq ?hb ?hab ?Y ?U ?hz ?h0 ?hn ?_; (case F => k_asm); (case N => k_asm); (case he => exact rfl); (case hs => exact rfl); (case hq => exact rfl); (case hb => k_mem); (case hab => k_ne); (case Y => (intro s' F' N'; (first | exact ll_own (by k_asm) (by k_asm) (by k_asm) (by k_mem) (mroC _) (by k_is) (by k_is) (by k_is) (by k_is) | exact ll_list (by k_asm) (by k_mem)))); (case U => (intro k'; k_upd)); (case hz => (first | omega | (simp only [List.size_toArray, List.length_cons, List.length_nil]; omega))); (case h0 => omega); (case hn => omega); k_whole); intro k' h' F' N'; (try dsimp only at N'); (try k_sweep)))
local macro_rules | `(tactic| walk_at "pad 0") => `(tactic| skip)
local macro_rules | `(tactic| walk_at "pad 1") => `(tactic| skip)
local macro_rules | `(tactic| walk_at "pad 2") => `(tactic| skip)
local macro_rules | `(tactic| walk_at "pad 3") => `(tactic| skip)
local macro_rules | `(tactic| walk_at "pad 4") => `(tactic| skip)
local macro_rules | `(tactic| walk_at "pad 5") => `(tactic| skip)
local macro_rules | `(tactic| walk_at "pad 6") => `(tactic| skip)
local macro_rules | `(tactic| walk_at "pad 7") => `(tactic| skip)
local macro_rules | `(tactic| walk_at "pad 8") => `(tactic| skip)
local macro_rules | `(tactic| walk_at "pad 9") => `(tactic| skip)
local macro_rules | `(tactic| walk_at "pad 10") => `(tactic| skip)
local macro_rules | `(tactic| walk_at "pad 11") => `(tactic| skip)
local macro_rules | `(tactic| walk_at "pad 12") => `(tactic| skip)
local macro_rules | `(tactic| walk_at "pad 13") => `(tactic| skip)
local macro_rules | `(tactic| walk_at "pad 14") => `(tactic| skip)
local macro_rules | `(tactic| walk_at "pad 15") => `(tactic| skip)
local macro_rules | `(tactic| walk_at "pad 16") => `(tactic| skip)
local macro_rules | `(tactic| walk_at "pad 17") => `(tactic| skip)
local macro_rules | `(tactic| walk_at "pad 18") => `(tactic| skip)
local macro_rules | `(tactic| walk_at "pad 19") => `(tactic| skip)
local macro_rules | `(tactic| walk_at "pad 20") => `(tactic| skip)
local macro_rules | `(tactic| walk_at "pad 21") => `(tactic| skip)
local macro_rules | `(tactic| walk_at "pad 22") => `(tactic| skip)
local macro_rules | `(tactic| walk_at "pad 23") => `(tactic| skip)
local macro_rules | `(tactic| walk_at "pad 24") => `(tactic| skip)
local macro_rules | `(tactic| walk_at "pad 25") => `(tactic| skip)
local macro_rules | `(tactic| walk_at "pad 26") => `(tactic| skip)
local macro_rules | `(tactic| walk_at "pad 27") => `(tactic| skip)
local macro_rules | `(tactic| walk_at "pad 28") => `(tactic| skip)
local macro_rules | `(tactic| walk_at "pad 29") => `(tactic| skip)
local macro_rules | `(tactic| walk_at "pad 30") => `(tactic| skip)
local macro_rules | `(tactic| walk_at "pad 31") => `(tactic| skip)
local macro_rules | `(tactic| walk_at "pad 32") => `(tactic| skip)
local macro_rules | `(tactic| walk_at "pad 33") => `(tactic| skip)
local macro_rules | `(tactic| walk_at "pad 34") => `(tactic| skip)
local macro_rules | `(tactic| walk_at "pad 35") => `(tactic| skip)
local macro_rules | `(tactic| walk_at "pad 36") => `(tactic| skip)
local macro_rules | `(tactic| walk_at "pad 37") => `(tactic| skip)
local macro_rules | `(tactic| walk_at "pad 38") => `(tactic| skip)
local macro_rules | `(tactic| walk_at "pad 39") => `(tactic| skip)
local macro_rules | `(tactic| walk_at "pad 40") => `(tactic| skip)
local macro_rules | `(tactic| walk_at "pad 41") => `(tactic| skip)
local macro_rules | `(tactic| walk_at "pad 42") => `(tactic| skip)
local macro_rules | `(tactic| walk_at "pad 43") => `(tactic| skip)
local macro_rules | `(tactic| walk_at "pad 44") => `(tactic| skip)
local macro_rules | `(tactic| walk_at "pad 45") => `(tactic| skip)
local macro_rules | `(tactic| walk_at "subscriptTail") => `(tactic| ((with_reducible show wpAny _ _ (subscriptTail _ _ (Value.ref _) (Value.int _ _)) _ _ _); refine Stop.out ?_))
theorem li3 {prog : Program} {w : World} {A : Around} {E : Value → Shared → Prop} {s : Shared} {h₀ : Heap} {L : Addr} {news : List (Addr × Obj)} {md : Addr} {a b c : Value} {ku : Nat} {hv : Int} {t : Tok} {value slice : Expr} {Q : Value → Shared → Prop} (h0 : 0 ≤ hv) (N : News h₀ L s.heap news) (hm : (md, W.listOf #[a, b, c] ku) ∈ news)
    (ha : hv.fmod 3 = 0 → Q a s) (hb : hv.fmod 3 = 1 → Q b s) (hc : hv.fmod 3 = 2 → Q c s) (hs : ∀ k, subscripted slice false (.ref md) (.int k t) = operate [.ref md, .int k t] (getItem (.ref md) (.int k t)) := by intro _; with_unfolding_all rfl) :
    wpAny (model prog w) A (subscriptTail value slice (.ref md) (.int (hv.fmod 3) t)) Q E s := by
  have hc3 : hv.fmod 3 = (0 : Nat) ∨ hv.fmod 3 = (1 : Nat) ∨ hv.fmod 3 = (2 : Nat) := by
    have := fmod_bounds (b := 3) h0 (by decide)
    omega
  have hsz : (#[a, b, c] : Array Value).size ≤ 1000 := by show 3 ≤ 1000; decide
  rcases hc3 with e3 | e3 | e3
  · replace ha := ha e3
    rw [e3]
    exact li_tail N hm (v := a) rfl hsz ha (hs _)
  · replace hb := hb e3
    rw [e3]
    exact li_tail N hm (v := b) rfl hsz hb (hs _)
  · replace hc := hc e3
    rw [e3]
    exact li_tail N hm (v := c) rfl hsz hc (hs _)
theorem call_iter_list {prog : Program} {w : World} {A : Around} {E : Value → Shared → Prop} {s : Shared} {h₀ : Heap} {L l : Addr} {m : Str → Option Value} {news : List (Addr × Obj)} {us : Array Value} {ku : Nat} {Q : Value → Shared → Prop} (F : Fr h₀ L s.heap m) (N : News h₀ L s.heap news) (hm : (l, W.listOf us ku) ∈ news)
    (h : ∀ I h', Fr h₀ L h' m → News h₀ L h' ((I, { cls := .type "list_iterator", data := .fields #[.ref l, .int 0 0] }) :: news) → (∀ p ∈ news, p.1 < I) → Q (.ref I) { s with heap := h' }) :
    wpAny (model prog w) A (call (.builtin "iter") [.ref l]) Q E s := by
  refine call_function_entry (by decide +kernel) (by decide +kernel) kdk_entry_iter (kdk_args_iter _) ?_
  unfold Builtin.«iter»
  refine wpAny_bind (m := someArgs "iter" 1 2 _) (wpAny_of_eq (a := [Value.ref l]) (by first | rfl | kernel_rfl!) ?_)
  show wpAny _ _ (pyIter (.ref l) >>= _) _ _ _
  refine wpAny_bind (wpAny_pyIter_list ⟨_, (N _ hm).1, rfl, ku, rfl⟩ ?_)
  exact wpAny_pure ⟨_, rfl, h _ _ (F.push _) (News.push F N _ rfl) (fun q hq => Heap.lt_size (N q hq).1)⟩
theorem mk_iterN {w : World} {p : Program} {loose : List Str} {mean : ExcName → Option Value} {mg mb : Str → Option Value}
  {dp un : Nat} {gd : Option (List Code)} {cn : Str} {cs : Scope} {ca : Addr} {ccd : Value} {cl : List (Str × Addr)} {outer : List Env} {A₀ : Around} {base h₀ : Heap} {L : Addr} {m : Str → Option Value} {s : Shared} {Q E : Value → Shared → Prop}
    {l it : Addr} {us : Array Value} {ku : Nat} {ns : List Int} {rest : List (Addr × Obj)}
    (B : Below A₀ base outer h₀) (F : Fr h₀ L s.heap m) (X : (hd.heap_39 w.params).In h₀) (T : Top p loose mean mg mb h₀) (hk : cs.kind = .function) (hdp : dp + 6 < recursionLimit) (hun : un + 130 < cLine)
    (N : News h₀ L s.heap ((it, { cls := .type "list_iterator", data := .fields #[.ref l, .int 0 0] }) :: rest)) (ml : (l, W.listOf us ku) ∈ rest) (hri : AllNe it rest) (hI : IntsAre us.toList ns) (hz : us.size ≤ 100)
    (ret : ∀ x dx D vs n t1 t2 h' tk', Fr h₀ L h' m → News h₀ L h' ((x, subObj 68 dx vs n) :: (dx, attrD w.params t1 t2 false D 2) :: (l, W.listOf us ku) :: rest) → IntsAre vs.toList ns →
      (∀ p ∈ (l, W.listOf us ku) :: rest, p.1 < dx) → x = dx + 1 → Q (.ref x) { s with heap := h', toks := tk' }) :
    wpAny (model PySem.Challenge.rw_aq6060_01.row.prog w) (ktrTop dp un gd cn cs L ca ccd cl outer) (call (.ref 68) [.ref it]) Q E s :=
  mk_iter B F X T hk hdp hun (news_sub N ((l, W.listOf us ku) :: (it, { cls := .type "list_iterator", data := .fields #[.ref l, .int 0 0] }) :: rest) (fun p hp => by
    rcases List.mem_cons.mp hp with h | h
    · rw [h]; exact .tail _ ml
    · exact h)) rfl rfl (allNe_all hri _ ml) hri hI hz ret
section
variable {w : World} {p : Program} {loose : List Str} {mean : ExcName → Option Value} {mg mb : Str → Option Value}
  {dp un : Nat} {gd : Option (List Code)} {cn : Str} {fa : Addr} {ccd : Value} {outer : List Env} {A₀ : Around} {base h₀ : Heap} {L : Addr} {m : Str → Option Value} {s : Shared} {Q : Flow → Shared → Prop} {E : Value → Shared → Prop}

theorem front_law {nb hc : Addr} {oc : Obj} {ys : List Value} {th : Tok} {hv : Int} {ms : List Int}
    (XB : (hd.heap_39 w.params).In base) (TB : Top p loose mean mg mb base) (B : Below A₀ base [] h₀) (F : Fr h₀ L s.heap m) (X : (hd.heap_39 w.params).In h₀) (T : Top p loose mean mg mb h₀) (hdp : dp + 20 < recursionLimit) (hun : un + 200 < cLine)
    (N : News h₀ L s.heap [(nb, LCg.lst ys), (hc, oc)]) (hoc : oc.data = .cell (some (.int hv th)))
    (hm3 : m (Str.ofString "numbers") = some (.ref nb)) (k1 : @Ne Nat hc nb)
    (hY : IntsAre ys ms) (hm12 : ms.length ≤ 12) (hms : ∀ y ∈ ms, 0 ≤ y) (hhv : 0 ≤ hv)
    (hE : PassesOwn (model PySem.Challenge.rw_aq6060_01.row.prog w) (ktrTop dp un gd cn (scopeOf (hd.heap_39 w.params) 98) L fa ccd [(Str.ofString "head", hc)] []) (envX cn (scopeOf (hd.heap_39 w.params) 98) L fa ccd [(Str.ofString "head", hc)]) E)
    (ret : ∀ m' h' tk', Fr h₀ L h' m' → Q (.ret (.bool true)) { s with heap := h', toks := tk' }) :
    wpAny (model PySem.Challenge.rw_aq6060_01.row.prog w) (ktrTop dp un gd cn (scopeOf (hd.heap_39 w.params) 98) L fa ccd [(Str.ofString "head", hc)] [])
      (execs ((bodyOf (hd.heap_39 w.params) 98).drop 2) (envX cn (scopeOf (hd.heap_39 w.params) 98) L fa ccd [(Str.ofString "head", hc)])) Q E s := by
  refine' rest_of' (A := fun sc => ktrTop dp un gd cn sc L fa ccd [(Str.ofString "head", hc)] []) (en := fun sc => envX cn sc L fa ccd [(Str.ofString "head", hc)]) hE ?ho ?h
  case ho => k_is
  case h =>
    intro back hE
    dsimp only [List.drop] at back ⊢
    have F := fr_as F (map_has hm3)
    (repeat' ((fail_if_success (with_reducible show Stop _)); first | (k_unfold; (try dsimp only)) | (k_end; wrow_close) | walk1 | (dsimp only; walk1) | (leave1; try dsimp only) | fail "no step"))
    refine ⟨?_⟩
    refine li3 hhv (by assumption) (.head _) (fun e3 => ?_) (fun e3 => ?_) (fun e3 => ?_)
    · (repeat' ((fail_if_success (with_reducible show Stop _)); first | (k_unfold; (try dsimp only)) | (k_end; wrow_close) | walk1 | (dsimp only; walk1) | (leave1; try dsimp only) | fail "no step"))
      · refine call_iter_list (by k_asm) (by k_asm) (.tail _ (.tail _ (.tail _ (.tail _ (.head _))))) (fun I5 hI5 FI NI ltI => ?_)
        (repeat' ((fail_if_success (with_reducible show Stop _)); first | (k_unfold; (try dsimp only)) | (k_end; wrow_close) | walk1 | (dsimp only; walk1) | (leave1; try dsimp only) | fail "no step"))
        have nI := allNe_of (fun p hp => Nat.ne_of_lt (ltI p hp))
        (refine ⟨?_⟩; k_dflt (refine' (mk_iterN (it := I5) (ns := [3, 1, 2])) ?cB_34 ?cF_34 ?cX_34 ?cT_34 ?chk_34 ?chdp_34 ?chun_34 ?cN_34 (.tail _ (.tail _ (.tail _ (.tail _ (.head _))))) nI (.cons _ _ (.cons _ _ (.cons _ _ .nil))) (Nat.le_of_ble_eq_true rfl) ?_; (case cB_34 => k_asm); (case cF_34 => k_asm); (case cX_34 => k_asm); (case cT_34 => k_asm); (case cN_34 => k_asm); (case chk_34 => exact rfl); (case chdp_34 => show (dp + 6) < recursionLimit; omega); (case chun_34 => show (un + 130) < cLine; omega)))
        intro x5 dx5 D5 vs5 n5 t51 t52 h5 tk5 F5 N5 I5 lt5 e5
        clear FI NI
        walk1
        rename Fr _ _ _ _ => kF
        rename News _ _ _ _ => kN
        exact back 4 _ (pre_dirty (D := D5) XB TB B kF X T hdp hun kN (.head _) (.tail _ (.tail _ (.tail _ (.tail _ (.tail _ (.tail _ (.head _))))))) (.tail _ (.tail _ (.tail _ (.tail _ (.tail _ (.tail _ (.tail _ (.head _)))))))) hoc rfl rfl rfl lt5 e5 (by omega) (by omega) k1 I5 (.cons _ _ (.cons _ _ (.cons _ _ .nil))) hY (by decide) (by decide) (by decide) (by decide) hm12 hms hhv hE (fun m' h' tk' F' => ret m' h' tk' F'))
      · (refine ⟨?_⟩; k_dflt (refine' (mk_list (ns := [3, 1, 2])) ?cB_35 ?cF_35 ?cX_35 ?cT_35 ?chk_35 ?chdp_35 ?chun_35 ?cN_35 (.cons _ _ (.cons _ _ (.cons _ _ .nil))) (Nat.le_of_ble_eq_true rfl) ?_; (case cB_35 => k_asm); (case cF_35 => k_asm); (case cX_35 => k_asm); (case cT_35 => k_asm); (case cN_35 => k_asm); (case chk_35 => exact rfl); (case chdp_35 => show (dp + 6) < recursionLimit; omega); (case chun_35 => show (un + 130) < cLine; omega)))
        intro x5 dx5 D5 vs5 n5 t51 t52 h5 tk5 F5 N5 I5 lt5 e5
        walk1
        rename Fr _ _ _ _ => kF
        rename News _ _ _ _ => kN
        exact back 4 _ (pre_dirty (D := D5) XB TB B kF X T hdp hun kN (.tail _ (.tail _ (.tail _ (.tail _ (.tail _ (.head _)))))) (.tail _ (.tail _ (.tail _ (.tail _ (.tail _ (.tail _ (.head _))))))) (.tail _ (.tail _ (.tail _ (.tail _ (.tail _ (.tail _ (.tail _ (.head _)))))))) hoc rfl rfl rfl lt5 e5 (by omega) (by omega) k1 I5 (.cons _ _ (.cons _ _ (.cons _ _ .nil))) hY (by decide) (by decide) (by decide) (by decide) hm12 hms hhv hE (fun m' h' tk' F' => ret m' h' tk' F'))
    · (repeat' ((fail_if_success (with_reducible show Stop _)); first | (k_unfold; (try dsimp only)) | (k_end; wrow_close) | walk1 | (dsimp only; walk1) | (leave1; try dsimp only) | fail "no step"))
      (refine ⟨?_⟩; k_dflt (refine' (mk_none) ?cB_36 ?cF_36 ?cX_36 ?cT_36 ?chk_36 ?chdp_36 ?chun_36 ?cN_36 ?_; (case cB_36 => k_asm); (case cF_36 => k_asm); (case cX_36 => k_asm); (case cT_36 => k_asm); (case cN_36 => k_asm); (case chk_36 => exact rfl); (case chdp_36 => show (dp + 6) < recursionLimit; omega); (case chun_36 => show (un + 130) < cLine; omega)))
      intro x5 dx5 D5 t51 t52 h5 tk5 F5 N5 lo5 lt5 e5 lD5 lE5
      walk1
      rename Fr _ _ _ _ => kF
      rename News _ _ _ _ => kN
      exact back 4 _ (pre_none XB TB B kF X T hdp hun kN (.tail _ (.tail _ (.tail _ (.head _)))) (.tail _ (.tail _ (.tail _ (.tail _ (.tail _ (.head _)))))) (.tail _ (.tail _ (.tail _ (.tail _ (.tail _ (.tail _ (.head _))))))) hoc rfl rfl rfl lo5 lt5 e5 lD5 (by omega) (by omega) k1 hY hm12 hms hhv hE (fun m' h' tk' F' => ret m' h' tk' F'))
    · (repeat' ((fail_if_success (with_reducible show Stop _)); first | (k_unfold; (try dsimp only)) | (k_end; wrow_close) | walk1 | (dsimp only; walk1) | (leave1; try dsimp only) | fail "no step"))
      · refine call_iter_list (by k_asm) (by k_asm) (.tail _ (.tail _ (.head _))) (fun I5 hI5 FI NI ltI => ?_)
        (repeat' ((fail_if_success (with_reducible show Stop _)); first | (k_unfold; (try dsimp only)) | (k_end; wrow_close) | walk1 | (dsimp only; walk1) | (leave1; try dsimp only) | fail "no step"))
        have nI := allNe_of (fun p hp => Nat.ne_of_lt (ltI p hp))
        (refine ⟨?_⟩; k_dflt (refine' (mk_iterN (it := I5) (ns := [9, 4])) ?cB_37 ?cF_37 ?cX_37 ?cT_37 ?chk_37 ?chdp_37 ?chun_37 ?cN_37 (.tail _ (.tail _ (.head _))) nI (.cons _ _ (.cons _ _ .nil)) (Nat.le_of_ble_eq_true rfl) ?_; (case cB_37 => k_asm); (case cF_37 => k_asm); (case cX_37 => k_asm); (case cT_37 => k_asm); (case cN_37 => k_asm); (case chk_37 => exact rfl); (case chdp_37 => show (dp + 6) < recursionLimit; omega); (case chun_37 => show (un + 130) < cLine; omega)))
        intro x5 dx5 D5 vs5 n5 t51 t52 h5 tk5 F5 N5 I5 lt5 e5
        clear FI NI
        walk1
        rename Fr _ _ _ _ => kF
        rename News _ _ _ _ => kN
        exact back 4 _ (pre_dirty (D := D5) XB TB B kF X T hdp hun kN (.head _) (.tail _ (.tail _ (.tail _ (.tail _ (.tail _ (.tail _ (.head _))))))) (.tail _ (.tail _ (.tail _ (.tail _ (.tail _ (.tail _ (.tail _ (.head _)))))))) hoc rfl rfl rfl lt5 e5 (by omega) (by omega) k1 I5 (.cons _ _ (.cons _ _ .nil)) hY (by decide) (by decide) (by decide) (by decide) hm12 hms hhv hE (fun m' h' tk' F' => ret m' h' tk' F'))
      · (refine ⟨?_⟩; k_dflt (refine' (mk_list (ns := [9, 4])) ?cB_38 ?cF_38 ?cX_38 ?cT_38 ?chk_38 ?chdp_38 ?chun_38 ?cN_38 (.cons _ _ (.cons _ _ .nil)) (Nat.le_of_ble_eq_true rfl) ?_; (case cB_38 => k_asm); (case cF_38 => k_asm); (case cX_38 => k_asm); (case cT_38 => k_asm); (case cN_38 => k_asm); (case chk_38 => exact rfl); (case chdp_38 => show (dp + 6) < recursionLimit; omega); (case chun_38 => show (un + 130) < cLine; omega)))
        intro x5 dx5 D5 vs5 n5 t51 t52 h5 tk5 F5 N5 I5 lt5 e5
        walk1
        rename Fr _ _ _ _ => kF
        rename News _ _ _ _ => kN
        exact back 4 _ (pre_dirty (D := D5) XB TB B kF X T hdp hun kN (.tail _ (.tail _ (.tail _ (.head _)))) (.tail _ (.tail _ (.tail _ (.tail _ (.tail _ (.tail _ (.head _))))))) (.tail _ (.tail _ (.tail _ (.tail _ (.tail _ (.tail _ (.tail _ (.head _)))))))) hoc rfl rfl rfl lt5 e5 (by omega) (by omega) k1 I5 (.cons _ _ (.cons _ _ .nil)) hY (by decide) (by decide) (by decide) (by decide) hm12 hms hhv hE (fun m' h' tk' F' => ret m' h' tk' F'))
end
end Mine
end PF2

section PL
namespace Mine
theorem top_off_L : True := by
  w_top off
  trivial
end Mine
set_option maxRecDepth 100000
set_option maxHeartbeats 8000000
namespace Mine
theorem enter2 {K : Frag} {hp : Heap} (kX : K.In hp) (f : Addr) (k : Nat) {M : Model} {Q : Flow → Shared → Prop} {E : Value → Shared → Prop} {s : Shared} {cn name qual : Str} {params : Arguments} {body stmts : List Stmt} {scope : Scope} {dV kV doc pm cdv ct oc ccd : Value} {an od : Option Addr} {osl : Array (Option Value)} {L fa hc : Addr}
    (ho : K.lookup f = some ⟨oc, od, .func (fnOf name qual params body scope dV kV doc pm an cdv ct), osl⟩) (hst : body.drop k = stmts) (hcl : cellsFrom (L + 1) scope.names [] = [(Str.ofString "head", hc)])
    (h : wpAny M (ktrTop 302 7 (some []) cn (scopeOf K f) L fa ccd [(Str.ofString "head", hc)] []) (execs ((bodyOf K f).drop k) (envX cn (scopeOf K f) L fa ccd [(Str.ofString "head", hc)])) Q E s) :
    wpAny M (callerA.deeper (envOfC cn scope L fa ccd)) (execs stmts (envOfC cn scope L fa ccd)) Q E s := by
  have e1 : bodyOf K f = body := by unfold bodyOf; rw [ho]
  have e2 : scopeOf K f = scope := by unfold scopeOf; rw [ho]
  rw [e1, e2, hst, ← hcl] at h
  exact h
theorem pick24 {h₀ h : Heap} {L : Addr} {a b c d : Addr × Obj} (N : News h₀ L h [a, b, c, d]) : News h₀ L h [b, d] := fun p hp => N p (by
  rcases List.mem_cons.mp hp with e | hp
  · exact .tail _ (e ▸ .head _)
  · exact .tail _ (.tail _ (.tail _ hp)))
theorem first_int {ys : List Value} {ms : List Int} (h : IntsAre ys ms) (hne : decide (ms = []) = false) : ∃ y t, ys.toArray[0]? = some (.int y t) ∧ y ∈ ms := by
  cases h with
  | nil => simp at hne
  | cons n t h => exact ⟨n, t, by simp, .head _⟩
theorem li_tail0 {prog : Program} {w : World} {A : Around} {E : Value → Shared → Prop} {s : Shared} {h₀ : Heap} {L : Addr} {news : List (Addr × Obj)} {md : Addr} {ys : List Value} {t : Tok} {v : Value} {value slice : Expr} {Q : Value → Shared → Prop} (N : News h₀ L s.heap news) (hm : (md, LCg.lst ys) ∈ news) (hv : ys.toArray[0]? = some v) (hz : ys.length ≤ 1000)
    (h : Q v s) (hs : subscripted slice false (.ref md) (.int 0 t) = operate [.ref md, .int 0 t] (getItem (.ref md) (.int 0 t)) := by with_unfolding_all rfl) :
    wpAny (model prog w) A (subscriptTail value slice (.ref md) (.int 0 t)) Q E s := li_tail (i := 0) (us := ys.toArray) (ku := ys.length) N hm hv hz h hs
theorem drawn_nonneg (ns : List Int) : ∀ y ∈ ns.map (fun k' => (k' * 48271 + 11).fmod 2147483647), 0 ≤ y := by
  intro y hy
  obtain ⟨k, _, rfl⟩ := List.mem_map.mp hy
  exact Int.fmod_nonneg_of_pos _ (by decide)
local macro_rules | `(tactic| k_inst) => `(tactic| (refine' inst_of_news ?N ?h1 ?h2; (case N => k_asm); (case h1 => k_mem); (case h2 => k_mem)))
local macro_rules | `(tactic| k_all) => `(tactic| first | assumption | exact allNe_all (by assumption) | exact allLt_ne (by assumption) | exact allLt_ne (And.right (by assumption)) | exact allLt_ne (And.right (And.right (by assumption))) | exact allLt_ne (And.right (And.right (And.right (by assumption)))) | exact allLt_ne (And.right (And.right (And.right (And.right (by assumption))))))
local macro_rules | `(tactic| walk_at "setAttr ref") => `(tactic| (k_here; k_dflt (refine' setL_dict ?k1 ?k2 ?k3 ?k4 ?k5 ?k6 ?k7 ?k8 ?k9 ?k10 ?k11 ?k12 ?k13 ?_; (case k1 => k_asm); (case k2 => k_asm); (case k3 => k_asm); (case k4 => k_inst); (case k5 => exact rfl); (case k6 => k_is); (case k7 => exact mroC _); (case k8 => k_is); (case k9 => k_is); (case k10 => k_get); (case k11 => k_put); (case k12 => k_upd); (case k13 => exact Nat.le_of_ble_eq_true rfl); k_whole; intro h' F' N'; (try k_sweep))))
local macro_rules | `(tactic| walk_at "setAttr ref") => `(tactic| (k_here; (first | ((with_reducible show wpAny _ _ (setAttr (Value.ref _) (Str.ofString "_dict") _) _ _ _); k_dflt (refine' set_d ?k1 ?k2 ?k3 ?k4 ?k5 ?k6 ?k7 ?k8 ?k9 ?_)) | ((with_reducible show wpAny _ _ (setAttr (Value.ref _) (Str.ofString "clean") _) _ _ _); k_dflt (refine' set_c ?k1 ?k2 ?k3 ?k4 ?k5 ?k6 ?k7 ?k8 ?k9 ?_))); (case k1 => k_asm); (case k2 => k_asm); (case k3 => k_asm); (case k4 => k_mem); (case k5 => k_dflt k_is); (case k6 => exact mroC _); (case k7 => k_dflt k_is); (case k8 => k_dflt k_is); (case k9 => k_dflt k_upd); k_whole; intro h' F' N'; (try k_sweep)))
local macro_rules | `(tactic| walk_at "eval Dict nil nil") => `(tactic| (k_here; k_dflt (refine' new_dictK ?k1 ?k2 (TopRead.nolimit (by k_asm)) ?_; (case k1 => k_asm); (case k2 => k_asm); k_whole); intro d' h' F' N' l1 lo'; (try k_lt l1); (try k_sweep)))
local macro_rules | `(tactic| walk_at "exec For Name Name cons nil") => `(tactic| (refine Stop.out ?_))
local macro_rules | `(tactic| walk_at "exec For Name Call cons nil") => `(tactic| (refine Stop.out ?_))
local macro_rules | `(tactic| walk_at "exec For Tuple Call cons nil") => `(tactic| (refine Stop.out ?_))
local macro_rules | `(tactic| walk_at "pyIter ref") => `(tactic| ((with_reducible show wpAny _ _ (pyIter (Value.ref _)) (fun it s₂ => LoopAtV _ _ _ _ _ _ _ _ _ it s₂) _ _); refine Stop.out ?_))
local macro_rules | `(tactic| walk_at "compareOp NotIn int ref") => `(tactic| (k_here; k_dflt ((first | refine' dm_notin_t ?k1 ?k2 ?k3 ?k4 ?k5 ?_; (case k1 => k_asm); (case k2 => k_mem); (case k3 => assumption); (case k4 => assumption); (case k5 => assumption) | refine' dm_notin_f ?k1 ?k2 ?k3 ?k4 ?k5 ?_; (case k1 => k_asm); (case k2 => k_mem); (case k3 => assumption); (case k4 => assumption); (case k5 => assumption)))))
local macro_rules | `(tactic| walk_at "compareOp In int ref") => `(tactic| (k_here; k_dflt ((first | refine' dm_in_t ?k1 ?k2 ?k3 ?k4 ?k5 ?_; (case k1 => k_asm); (case k2 => k_mem); (case k3 => assumption); (case k4 => assumption); (case k5 => assumption) | refine' dm_in_f ?k1 ?k2 ?k3 ?k4 ?k5 ?_; (case k1 => k_asm); (case k2 => k_mem); (case k3 => assumption); (case k4 => assumption); (case k5 => assumption)))))
local macro_rules | `(tactic| walk_at "setItem ref int") => `(tactic| (k_here; k_dflt (refine' dm_set ?k1 ?k2 ?k3 ?k4 ?k5 ?_; (case k1 => k_asm); (case k2 => k_asm); (case k3 => k_updF); (case k4 => assumption); (case k5 => omega); k_whole); intro o' h' F' N' x'; (try dsimp only at N'); (try k_sweep)))
local macro_rules | `(tactic| walk_at "getAttr ref") => `(tactic| (k_here; (first | ((with_reducible show wpAny _ _ (getAttr (Value.ref _) (Str.ofString "_dict") _) _ _ _); k_dflt (refine' getA_d ?k1 ?k2 ?k3 ?k4 ?k5 ?k6 ?k7 ?k8 ?k9 ?k10 ?k11 ?_)) | ((with_reducible show wpAny _ _ (getAttr (Value.ref _) (Str.ofString "clean") _) _ _ _); k_dflt (refine' getA_c ?k1 ?k2 ?k3 ?k4 ?k5 ?k6 ?k7 ?k8 ?k9 ?k10 ?k11 ?_))); (case k1 => k_asm); (case k2 => k_asm); (case k3 => k_asm); (case k4 => k_mem); (case k5 => k_mem); (case k6 => exact mroC _); (case k7 => k_dflt k_is); (case k8 => k_dflt k_is); (case k9 => k_dflt k_is); (case k10 => k_dflt k_is); (case k11 => k_dflt k_is); k_whole))
local macro_rules | `(tactic| walk_at "getMethod ref") => `(tactic| (k_here; k_dflt (refine' methA ?k1 ?k2 ?k3 ?k4 ?k5 ?k6 ?k7 ?k8 ?k9 ?k10 ?k11 ?_; (case k1 => k_asm); (case k2 => k_asm); (case k3 => k_asm); (case k4 => k_mem); (case k5 => k_mem); (case k6 => k_is); (case k7 => k_is); (case k8 => k_is); (case k9 => k_is); (case k10 => decide); (case k11 => k_get); k_whole)))
local macro_rules | `(tactic| walk_at "compareOp In int ref") => `(tactic| (k_here; k_dflt (refine' in_own ?k1 ?k2 ?k3 ?k4 ?k5 ?k6 ?_; (case k1 => k_asm); (case k2 => k_asm); (case k3 => k_asm); (case k4 => k_mem); (case k5 => k_is); (case k6 => k_is); k_whole)))
local macro_rules | `(tactic| walk_at "compareOp NotIn int ref") => `(tactic| (k_here; k_dflt (refine' notin_own ?k1 ?k2 ?k3 ?k4 ?k5 ?k6 ?_; (case k1 => k_asm); (case k2 => k_asm); (case k3 => k_asm); (case k4 => k_mem); (case k5 => k_is); (case k6 => k_is); k_whole)))
local macro_rules | `(tactic| walk_at "compareOp In int ref") => `(tactic| (k_here; k_dflt (refine' dm_in ?k1 ?k2 ?k3 ?k4 ?_; (case k1 => k_asm); (case k2 => k_mem); (case k3 => assumption); (case k4 => assumption))))
local macro_rules | `(tactic| walk_at "compareOp In int ref") => `(tactic| (k_here; k_dflt (first | refine' dm_in_t ?k1 ?k2 ?k3 ?k4 ?k5 ?_; (case k1 => k_asm); (case k2 => k_mem); (case k3 => assumption); (case k4 => assumption); (case k5 => assumption) | refine' dm_in_f ?k1 ?k2 ?k3 ?k4 ?k5 ?_; (case k1 => k_asm); (case k2 => k_mem); (case k3 => assumption); (case k4 => assumption); (case k5 => assumption))))
local macro_rules | `(tactic| walk_at "compareOp NotIn int ref") => `(tactic| (k_here; k_dflt (first | refine' dm_notin_t ?k1 ?k2 ?k3 ?k4 ?k5 ?_; (case k1 => k_asm); (case k2 => k_mem); (case k3 => assumption); (case k4 => assumption); (case k5 => assumption) | refine' dm_notin_f ?k1 ?k2 ?k3 ?k4 ?k5 ?_; (case k1 => k_asm); (case k2 => k_mem); (case k3 => assumption); (case k4 => assumption); (case k5 => assumption))))
local macro_rules | `(tactic| walk_at "subscriptTail") => `(tactic| (k_here; (with_reducible show wpAny _ _ (subscriptTail _ _ (Value.ref _) (Value.int _ _)) _ _ _); k_dflt (refine' dm_tail ?k1 ?k2 ?k3 ?k4 ?_; (case k1 => k_asm); (case k2 => k_mem); (case k3 => assumption); (case k4 => assumption))))
local macro_rules | `(tactic| walk_at "call ref") => `(tactic| ((first | (with_reducible show wpAny _ _ (call (Value.ref 37) _) _ _ _) | (with_reducible show wpAny _ _ (call (Value.ref 44) _) _ _ _) | (with_reducible show wpAny _ _ (call (Value.ref 51) _) _ _ _) | (with_reducible show wpAny _ _ (call (Value.ref 58) _) _ _ _) | (with_reducible show wpAny _ _ (call (Value.ref 65) _) _ _ _) | (with_reducible show wpAny _ _ (call (Value.ref 68) _) _ _ _) | (with_reducible show wpAny _ _ (call (Value.ref 79) _) _ _ _) | (with_reducible show wpAny _ _ (call (Value.ref 86) _) _ _ _) | (with_reducible show wpAny _ _ (call (Value.ref 93) _) _ _ _)); refine Stop.out ?_))
local macro_rules | `(tactic| walk_at "call builtin:len") => `(tactic| (k_here; (with_reducible show wpAny _ _ (call (Value.builtin "len") [Value.ref _]) _ _ _); k_dflt (refine' ll_len ?Y ?N ?hx ?hz ?_; (case N => k_asm); (case hx => k_mem); (case Y => (first | exact ll_own (by k_asm) (by k_asm) (by k_asm) (by k_mem) (mroC _) (by k_is) (by k_is) (by k_is) (by k_is) | exact ll_list (by k_asm) (by k_mem))); (case hz => first | omega | (simp only [Array.size_push]; omega)))))
local macro_rules | `(tactic| walk_at "call builtin:list.append") => `(tactic| (k_here; (with_reducible show wpAny _ _ (call (Value.builtin _) [Value.ref _, _]) _ _ _); k_dflt (refine' l_append ?F ?N ?hi ?U ?hz ?_; (case F => k_asm); (case N => k_asm); (case U => (intro k'; k_upd)); (case hi => first | exact is_news (by k_asm) (by k_asm) (by k_asm) (by k_mem) (mroC _) | exact is_list (by k_asm) (by k_mem)); (case hz => first | omega | (simp only [Array.size_push]; omega)); k_whole); intro k' h' F' N'; (try dsimp only at N'); (try k_sweep)))
local macro_rules | `(tactic| walk_at "getMethod type:list") => `(tactic| (k_here; refine' method_type ?F ?X ?m (by decide +kernel) ?e ?h ?_; (case F => k_asm); (case X => k_asm); (case m => exact meta_of_list); (case e => k_dflt k_is); (case h => k_handed)))
local macro_rules | `(tactic| walk_at "call type:enumerate") => `(tactic| (refine Stop.out ?_))
local macro_rules | `(tactic| ktr_enter) => `(tactic| (refine' code_def ?k1 ?k2 ?k3 ?k4 ?k5 ?kA ?kF ?kK ?k6 ?k7 ?k8 ?k9 ?kB ?_ ?c2 ?c3 ?c4 ?c5; (case kA => exact rfl); (case kF => exact rfl); (case kK => first | assumption | exact rfl); (case k1 => k_asm); (case k2 => k_asm); (case k3 => k_asm); (case k4 => k_asm); (case k5 => k_asm); (case k6 => k_is); (case k7 => k_is); (case k8 => ktr_room); (case k9 => first | exact BindsTo.of_eq rfl | exact binds_K (by k_in) rfl (by k_is) rfl rfl rfl); (case c5 => decide); (case kB => exact locs rfl); (case c2 => exact rfl); (case c3 => exact rfl); (case c4 => exact rfl); k_whole; intro g' L' h' FG' F' N' B' X' T'; (try dsimp only); (try k_fold)))
local macro_rules | `(tactic| walk_at "call type:list") => `(tactic| (k_here; (with_reducible show wpAny _ _ (call (Value.type "list") [Value.ref _]) _ _ _); k_dflt (refine' l_copy ?hh ?F ?X ?N ?hx ?hz (mroC _) ?h0 ?h1 ?h2 ?h3 ?h4 ?_; (case hh => exact rfl); (case F => k_asm); (case X => k_asm); (case N => k_asm); (case hx => k_mem); (case hz => omega); (case h0 => k_is); (case h1 => k_is); (case h2 => k_is); (case h3 => k_is); (case h4 => k_is); k_whole); intro l9 k9 h' tk9 F' N' lt9; (try k_sweep)))
local macro_rules | `(tactic| walk_at "subscriptTail") => `(tactic| (k_here; (with_reducible show wpAny _ _ (subscriptTail _ _ (Value.ref _) (Value.int _ _)) _ _ _); k_dflt (refine' li_tail ?k1 ?k2 ?k3 ?k4 ?_; (case k1 => k_asm); (case k2 => k_mem); (case k3 => assumption); (case k4 => omega))))
local macro_rules | `(tactic| walk_at "exec Raise some none") => `(tactic| (k_here; (with_reducible show wpAny _ _ (exec (Stmt.Raise (some (Expr.Name ("ValueError" : Str) _)) none _) _) _ _ _); (with_reducible rename Fr _ _ _ _ => kF); k_dflt (refine' raise_VE ?hh ?hs ?hx ?_; (case hh => rfl); (case hs => rw [isSubtype_type]; kernel_rfl); (case hx => (refine' name_B kF ?k1 ?k2 ?k3 ?k4 ?k5 ?_; (case k1 => k_asm); (case k2 => k_asm); (case k3 => k_is); (case k4 => boot_by_name); (case k5 => decide); exact ⟨rfl, rfl⟩)))))
local macro_rules | `(tactic| walk_at "my ask") => `(tactic| ((refine' code_ask ?k1 ?k2 ?k3 ?k4 ?k5 ?kA ?kF ?cK ?k6 ?k7 ?k8 ?k9 ?kB ?_ ?c2 ?c3 ?c4 ?c5; (case kA => exact rfl); (case kF => exact rfl); (case k2 => k_asm); (case k1 => k_asm); (case k3 => k_asm); (case k4 => k_asm); (case k5 => k_asm); (case k6 => k_is); (case k7 => k_is); (case k8 => ktr_room); (case k9 => first | exact BindsTo.of_eq rfl | exact binds_K (by k_in) rfl (by k_is) rfl rfl rfl); (case kB => exact locs rfl); (case cK => first | assumption | exact rfl); (case c2 => exact rfl); (case c3 => exact rfl); (case c4 => exact rfl); (case c5 => decide); k_whole; intro g' L' h' FG' F' N' B' X' T' D'; (try dsimp only); (try k_lift B'); (try k_fold))))
local macro_rules | `(tactic| walk_at "call builtin:list.insert") => `(tactic| (k_here; (with_reducible show wpAny _ _ (call (Value.builtin _) [Value.ref _, Value.int _ _, _]) _ _ _); k_dflt (refine' l_insert ?F ?N ?hi ?U ?hz ?h0 ?hn ?_; (case F => k_asm); (case N => k_asm); (case U => (intro k'; k_upd)); (case hi => (first | exact is_news (by k_asm) (by k_asm) (by k_asm) (by k_mem) (mroC _) | exact is_list (by k_asm) (by k_mem))); (case hz => omega); (case h0 => omega); (case hn => omega); k_whole); intro k' h' F' N'; (try dsimp only at N'); (try k_sweep)))
local macro_rules | `(tactic| walk_at "call builtin:list.extend") => `(tactic| (k_here; (with_reducible show wpAny _ _ (call (Value.builtin _) [Value.ref _, Value.ref _]) _ _ _); k_dflt (refine' l_extend ?F ?N ?hi ?hb ?U ?hz ?_; (case F => k_asm); (case N => k_asm); (case hb => k_mem); (case U => (intro k'; k_upd)); (case hi => (first | exact is_news (by k_asm) (by k_asm) (by k_asm) (by k_mem) (mroC _) | exact is_list (by k_asm) (by k_mem))); (case hz => (first | omega | (simp only [List.size_toArray, List.length_cons, List.length_nil]; omega))); k_whole); intro k' h' F' N'; (try dsimp only at N'); (try k_sweep)))
local macro_rules | `(tactic| walk_at "call builtin:list.reverse") => `(tactic| (k_here; (with_reducible show wpAny _ _ (call (Value.builtin _) [Value.ref _]) _ _ _); k_dflt (refine' l_reverse ?F ?N ?hi ?U ?hz ?_; (case F => k_asm); (case N => k_asm); (case U => (intro k'; k_upd)); (case hi => (first | exact is_news (by k_asm) (by k_asm) (by k_asm) (by k_mem) (mroC _) | exact is_list (by k_asm) (by k_mem))); (case hz => omega); k_whole); intro k' h' F' N'; (try dsimp only at N'); (try k_sweep)))
local macro_rules | `(tactic| walk_at "call builtin:list.sort") => `(tactic| (k_here; (with_reducible show wpAny _ _ (call (Value.builtin _) [Value.ref _]) _ _ _); k_dflt (refine' l_sort ?F ?N ?hi ?U ?hI ?h64 ?_; (case F => k_asm); (case N => k_asm); (case U => k_updF); (case hi => (first | exact is_news (by k_asm) (by k_asm) (by k_asm) (by k_mem) (mroC _) | exact is_list (by k_asm) (by k_mem))); (case hI => assumption); (case h64 => omega); k_whole); intro out ns' k' h' iI iP iS F' N'; (try dsimp only at N'); (try k_sweep)))
local macro_rules | `(tactic| walk_at "call builtin:list.pop") => `(tactic| (k_here; (with_reducible show wpAny _ _ (call (Value.builtin _) [Value.ref _, Value.int _ _]) _ _ _); k_dflt (refine' l_pop ?F ?N ?hi ?U ?hz ?h0 ?hv ?_; (case F => k_asm); (case N => k_asm); (case U => (intro k'; k_upd)); (case hi => (first | exact is_news (by k_asm) (by k_asm) (by k_asm) (by k_mem) (mroC _) | exact is_list (by k_asm) (by k_mem))); (case hz => omega); (case h0 => omega); (case hv => assumption); k_whole); intro k' h' F' N'; (try dsimp only at N'); (try k_sweep)))
local macro_rules | `(tactic| walk_at "call builtin:list.remove") => `(tactic| (k_here; (with_reducible show wpAny _ _ (call (Value.builtin _) [Value.ref _, Value.int _ _]) _ _ _); k_dflt (refine' l_remove ?F ?N ?hi ?U ?hz ?hI ?hj ?hno ?_; (case F => k_asm); (case N => k_asm); (case U => (intro k'; k_upd)); (case hI => assumption); (case hj => assumption); (case hno => assumption); (case hi => (first | exact is_news (by k_asm) (by k_asm) (by k_asm) (by k_mem) (mroC _) | exact is_list (by k_asm) (by k_mem))); (case hz => omega); k_whole); intro k' h' F' N'; (try dsimp only at N'); (try k_sweep)))
local macro_rules | `(tactic| walk_at "delItem ref int") => `(tactic| (k_here; k_dflt (refine' ll_del ?Y ?F ?N ?U ?hz ?h0 ?hn ?_; (case F => k_asm); (case N => k_asm); (case U => (intro k'; k_upd)); (case Y => (first | exact ll_own (by k_asm) (by k_asm) (by k_asm) (by k_mem) (mroC _) (by k_is) (by k_is) (by k_is) (by k_is) | exact ll_list (by k_asm) (by k_mem))); (case hz => omega); (case h0 => omega); (case hn => omega); k_whole); intro k' h' F' N'; (try dsimp only at N'); (try k_sweep)))
local macro_rules | `(tactic| walk_at "setItem ref ref") => `(tactic| (k_here; k_dflt (refine' set_slice_p ?F ?N ?he ?hs ?hq ?hb ?hab ?Y ?U ?hz ?h0 ?hn ?_; (case F => k_asm); (case N => k_asm); (case he => exact rfl); (case hs => exact rfl); (case hq => exact rfl); (case hb => k_mem); (case hab => k_ne); (case Y => (intro s' F' N'; (first | exact ll_own (by k_asm) (by k_asm) (by k_asm) (by k_mem) (mroC _) (by k_is) (by k_is) (by k_is) (by k_is) | exact ll_list (by k_asm) (by k_mem)))); (case U => (intro k'; k_upd)); (case hz => (first | omega | (simp only [List.size_toArray, List.length_cons, List.length_nil]; omega))); (case h0 => omega); (case hn => omega); k_whole); intro k' h' F' N'; (try dsimp only at N'); (try k_sweep)))
local macro_rules | `(tactic| walk_at "pad 0") => `(tactic| skip)
local macro_rules | `(tactic| walk_at "pad 1") => `(tactic| skip)
local macro_rules | `(tactic| walk_at "pad 2") => `(tactic| skip)
local macro_rules | `(tactic| walk_at "pad 3") => `(tactic| skip)
local macro_rules | `(tactic| walk_at "pad 4") => `(tactic| skip)
local macro_rules | `(tactic| walk_at "pad 5") => `(tactic| skip)
local macro_rules | `(tactic| walk_at "pad 6") => `(tactic| skip)
local macro_rules | `(tactic| walk_at "pad 7") => `(tactic| skip)
local macro_rules | `(tactic| walk_at "pad 8") => `(tactic| skip)
local macro_rules | `(tactic| walk_at "pad 9") => `(tactic| skip)
local macro_rules | `(tactic| walk_at "pad 10") => `(tactic| skip)
local macro_rules | `(tactic| walk_at "pad 11") => `(tactic| skip)
local macro_rules | `(tactic| walk_at "pad 12") => `(tactic| skip)
local macro_rules | `(tactic| walk_at "pad 13") => `(tactic| skip)
local macro_rules | `(tactic| walk_at "pad 14") => `(tactic| skip)
local macro_rules | `(tactic| walk_at "pad 15") => `(tactic| skip)
local macro_rules | `(tactic| walk_at "pad 16") => `(tactic| skip)
local macro_rules | `(tactic| walk_at "pad 17") => `(tactic| skip)
local macro_rules | `(tactic| walk_at "pad 18") => `(tactic| skip)
local macro_rules | `(tactic| walk_at "pad 19") => `(tactic| skip)
local macro_rules | `(tactic| walk_at "pad 20") => `(tactic| skip)
local macro_rules | `(tactic| walk_at "pad 21") => `(tactic| skip)
local macro_rules | `(tactic| walk_at "pad 22") => `(tactic| skip)
local macro_rules | `(tactic| walk_at "pad 23") => `(tactic| skip)
local macro_rules | `(tactic| walk_at "pad 24") => `(tactic| skip)
local macro_rules | `(tactic| walk_at "pad 25") => `(tactic| skip)
local macro_rules | `(tactic| walk_at "pad 26") => `(tactic| skip)
local macro_rules | `(tactic| walk_at "pad 27") => `(tactic| skip)
local macro_rules | `(tactic| walk_at "pad 28") => `(tactic| skip)
local macro_rules | `(tactic| walk_at "pad 29") => `(tactic| skip)
local macro_rules | `(tactic| walk_at "pad 30") => `(tactic| skip)
local macro_rules | `(tactic| walk_at "pad 31") => `(tactic| skip)
local macro_rules | `(tactic| walk_at "pad 32") => `(tactic| skip)
local macro_rules | `(tactic| walk_at "pad 33") => `(tactic| skip)
local macro_rules | `(tactic| walk_at "pad 34") => `(tactic| skip)
local macro_rules | `(tactic| walk_at "pad 35") => `(tactic| skip)
local macro_rules | `(tactic| walk_at "pad 36") => `(tactic| skip)
local macro_rules | `(tactic| walk_at "pad 37") => `(tactic| skip)
local macro_rules | `(tactic| walk_at "pad 38") => `(tactic| skip)
local macro_rules | `(tactic| walk_at "pad 39") => `(tactic| skip)
local macro_rules | `(tactic| walk_at "pad 40") => `(tactic| skip)
local macro_rules | `(tactic| walk_at "pad 41") => `(tactic| skip)
local macro_rules | `(tactic| walk_at "pad 42") => `(tactic| skip)
local macro_rules | `(tactic| walk_at "pad 43") => `(tactic| skip)
local macro_rules | `(tactic| walk_at "pad 44") => `(tactic| skip)
local macro_rules | `(tactic| walk_at "pad 45") => `(tactic| skip)
local macro_rules | `(tactic| walk_at "subscriptTail") => `(tactic| ((with_reducible show wpAny _ _ (subscriptTail _ _ (Value.ref _) (Value.int 0 _)) _ _ _); refine Stop.out ?_))
local macro_rules | `(tactic| walk_at "execs cons") => `(tactic| ((with_reducible show wpAny _ _ (execs (Stmt.Assign [Expr.Name (Str.ofString "model") _] (Expr.Subscript _ _ _) _ :: _) _) _ _ _); refine Stop.out ?_))
theorem law0 : PySem.Challenge.rw_aq6060_01.Holds := hd (by
  w_on; w_strict (
    k_go0; (all_goals try k_fold); (repeat' ((fail_if_success (with_reducible show Stop _)); first | (k_unfold; (try dsimp only)) | (k_end; wrow_close) | walk1 | (dsimp only; walk1) | (leave1; try dsimp only) | fail "no step"))
    · refine ⟨?_⟩
      rename Fr _ _ _ _ => kF
      rename News _ _ _ _ => kN
      rename Top _ _ _ _ _ _ => kT
      rename Below _ _ _ _ => kB
      rename Frag.In _ _ => kX
      rename IntsAre _ (List.map _ _) => kI
      rename Obj.data _ = _ => kd
      refine' enter2 kX 98 2 ?ho ?hst ?hcl ?h
      case ho => k_is
      case hst => exact rfl
      case hcl => exact rfl
      case h =>
        refine' front_law kX kT kB kF kX kT ?h1 ?h2 (pick24 kN) kd ?hm ?hne kI ?h12 (drawn_nonneg _) ?hv ?hE ?ret
        case h1 => decide
        case h2 => decide
        case hm => exact rfl
        case hne => rename _ ≠ _ ∧ _ ≠ _ => ko; exact ko.2
        case h12 => rw [List.length_map, List.length_take]; exact Nat.min_le_left _ _
        case hv => decide
        case hE => exact PySem.PassesOwn.leaving
        case ret => intro m9 h9 tk9 F9; (repeat' ((fail_if_success (with_reducible show Stop _)); first | (k_unfold; (try dsimp only)) | (k_end; wrow_close) | walk1 | (dsimp only; walk1) | (leave1; try dsimp only) | fail "no step"))
    · refine ⟨?_⟩
      rename News _ _ _ _ => kN
      rename IntsAre _ (List.map _ _) => kI
      obtain ⟨y0, t0, hy0, hm0⟩ := first_int kI (by assumption)
      have hlen := kI.length
      rw [List.length_map, List.length_take] at hlen
      refine li_tail0 kN (.tail _ (.head _)) hy0 (by omega) ?_
      (repeat' ((fail_if_success (with_reducible show Stop _)); first | (k_unfold; (try dsimp only)) | (k_end; wrow_close) | walk1 | (dsimp only; walk1) | (leave1; try dsimp only) | fail "no step"))
      refine ⟨?_⟩
      rename Fr _ _ _ _ => kF
      rename News _ _ _ _ => kN
      rename Top _ _ _ _ _ _ => kT
      rename Below _ _ _ _ => kB
      rename Frag.In _ _ => kX
      rename Obj.data _ = _ => kd
      refine' enter2 kX 98 2 ?ho ?hst ?hcl ?h
      case ho => k_is
      case hst => exact rfl
      case hcl => exact rfl
      case h =>
        refine' front_law kX kT kB kF kX kT ?h1 ?h2 (pick24 kN) kd ?hm ?hne kI ?h12 (drawn_nonneg _) ?hv ?hE ?ret
        case h1 => decide
        case h2 => decide
        case hm => exact rfl
        case hne => rename _ ≠ _ ∧ _ ≠ _ => ko; exact ko.2
        case h12 => rw [List.length_map, List.length_take]; exact Nat.min_le_left _ _
        case hv => exact drawn_nonneg _ _ hm0
        case hE => exact PySem.PassesOwn.leaving
        case ret => intro m9 h9 tk9 F9; (repeat' ((fail_if_success (with_reducible show Stop _)); first | (k_unfold; (try dsimp only)) | (k_end; wrow_close) | walk1 | (dsimp only; walk1) | (leave1; try dsimp only) | fail "no step"))))
end Mine
end PL

set_option maxRecDepth 100000 in
set_option maxHeartbeats 8000000 in
theorem PySem.Challenge.cw_aq6060_01_holds : PySem.Challenge.rw_aq6060_01.Holds := by
  exact Mine.law0
